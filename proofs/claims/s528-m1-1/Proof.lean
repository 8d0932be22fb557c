import JvmDerived
import JvmDerived.Pilot.@@N@@Statement
import JvmDerived.Pilot.@@N@@Code
set_option linter.unusedVariables false
set_option linter.unusedSimpArgs false
namespace Jvm.RoadKit
open Sem ClassFile Op Lib Jvm.Stand Jvm.Free Jvm.LawKit
section New
variable {p : Program} {l : Launch} {e : Env} {R : Room} {s : State} {m : MethodId} {args : Array Value} {below : List Frame} {meth : Method} {c : Code} {T : State} {locs : List Loc} {cells slots : Nat}
theorem retI (X : Stand p l e R s m args below meth c T locs cells slots) (hx : p.tables.exec = Jvm.exec) {pc : Nat} {Ls : Array Slot} {z : Int32} {rest : List Value} (hret : meth.sig.returnType = some .int) (hd : decode c.code pc = .ok (.ireturn, 1)) {fs : List Frame}
    (hl : ∀ (f : JFrame) (acts : List Action), f.method = m → f.locked = none → f.entered = [] → (doReturn e (T.setTop f) acts (some (.int z))).1 = T.setFrames fs) : Steps p.tables e below (T.setTop (mkF m pc Ls (.int z :: rest))) (T.setFrames fs) := by
  have hm' : T.vm.method? m = some meth := X.method'
  have hn : narrow .int (.int z) = .int z := rfl
  show Steps p.tables e below (T.setTop { method := m, pc := pc, locals := Ls, stack := _ :: rest, locked := none }) _
  jvm_step X.here [X.here.top, hx, hd, hm', hret, hn]
  first | (intro acts; rw [hl _ acts rfl rfl rfl]) | rw [hl _ _ rfl rfl rfl]
  exact Steps.refl _
end New
end Jvm.RoadKit
namespace Jvm.Pilot.@@N@@
open Jvm Jvm.ClassFile Sem Op Lib Jvm.Free Jvm.Stand Jvm.LawKit Jvm.RoadKit Bundle Jvm.Pilot.@@N@@.Jvm.D
def OwnQ (r : Option Value) (h0 : Heap) (n0 : Nat) (v : Option Value) (h : Heap) (L : List Loc) : Prop := v = r ∧ Fr n0 L ∧ h = h0
theorem own_sz {Z : State} {n0 : Nat} {h : Heap} (O : Old Z n0 h) : n0 ≤ h.size := O.1 ▸ O.2.1
theorem own_new {Z : State} {n0 : Nat} {h : Heap} {b : Addr} (O : Old Z n0 h) (g : b = h.size) : n0 ≤ b := Nat.le_trans (own_sz O) (Nat.le_of_eq g.symm)
theorem own_eqi {args : Array Value} {first s : State} {o : Option Outcome} {idx : List Nat} {a : Term} {k : Int32} (h : (Cond.eq a (Term.int k)).value args first o s idx = some true) : a.eval args first o idx s = some (.int k) := by
  obtain ⟨x, y, h1, h2, h3, -⟩ := cmp_v (Or.inl h)
  have e2 : y = .int k := (Option.some.inj ((Term.int_eval k).symm.trans h2)).symm
  subst e2
  cases x with
  | int z =>
    have q : z = k := by
      have h4 := h
      simp only [Cond.value, h1, h2] at h4
      simpa using h4
    rw [h1, q]
  | _ => first | (obtain ⟨z, hz⟩ := h3; cases hz) | (cases h3.2)
def OwnG (Z : State) (wSTANDALONE : Addr) (wLEADER : Addr) (wFOLLOWER : Addr) : Prop := Sta Z Z.heap "com/example/nimble_quorum/nimblequorum/server/ServerStatus$Mode" "STANDALONE" "Lcom/example/nimble_quorum/nimblequorum/server/ServerStatus$Mode;" (.ref wSTANDALONE) ∧
  Exa Z Z.heap wSTANDALONE "com/example/nimble_quorum/nimblequorum/server/ServerStatus$Mode" ∧
  Sta Z Z.heap "com/example/nimble_quorum/nimblequorum/server/ServerStatus$Mode" "LEADER" "Lcom/example/nimble_quorum/nimblequorum/server/ServerStatus$Mode;" (.ref wLEADER) ∧
  Exa Z Z.heap wLEADER "com/example/nimble_quorum/nimblequorum/server/ServerStatus$Mode" ∧
  Sta Z Z.heap "com/example/nimble_quorum/nimblequorum/server/ServerStatus$Mode" "FOLLOWER" "Lcom/example/nimble_quorum/nimblequorum/server/ServerStatus$Mode;" (.ref wFOLLOWER) ∧
  Exa Z Z.heap wFOLLOWER "com/example/nimble_quorum/nimblequorum/server/ServerStatus$Mode"
theorem own_pn_0 : plainName "com/example/nimble_quorum/nimblequorum/server/ServerStatusOpensSessionsPinLaw" = true := by first | (simp [plainName, overriddenIn]; done) | decide +kernel
theorem own_ef_0_IJ (m : MethodId) (x0 : Int32) (x1 : Int64) : entryFrame m #[(.int x0), (.long x1)] maxLocals = mkF m 0 #[.val (.int x0), .val (.long x1), .second, .unset, .unset, .unset, .unset] [] := by first | (simp [entryFrame, mkF, argsToLocals, Value.category, maxLocals]; done) | rfl
theorem own_pn_1 : plainName "com/example/nimble_quorum/nimblequorum/server/ServerStatus" = true := by first | (simp [plainName, overriddenIn]; done) | decide +kernel
theorem own_ef_1_RnJ (m : MethodId) (x0 : Addr) (x2 : Int64) : entryFrame m #[(.ref x0), .null, (.long x2)] 4 = mkF m 0 #[.val (.ref x0), .val .null, .val (.long x2), .second] [] := by first | (simp [entryFrame, mkF, argsToLocals, Value.category]; done) | rfl
theorem own_pn_2 : plainName "java/lang/Record" = true := by first | (simp [plainName, overriddenIn]; done) | decide +kernel
theorem own_ef_2_R (m : MethodId) (x0 : Addr) : entryFrame m #[(.ref x0)] 1 = mkF m 0 #[.val (.ref x0)] [] := by first | (simp [entryFrame, mkF, argsToLocals, Value.category]; done) | rfl
theorem own_d2_0 : decode jdk_30_method_1_code 0 = .ok (.aload_n 0, 1) := by decide +kernel
theorem own_d2_1 : decode jdk_30_method_1_code 1 = .ok (.invokespecial 1, 3) := by decide +kernel
theorem own_d2_4 : decode jdk_30_method_1_code 4 = .ok (.return_, 1) := by decide +kernel
set_option maxRecDepth 65536 in
set_option maxHeartbeats 40000000 in
theorem own_init_1 (l : Launch) (Z : State) (a0 : Array Value) (hw : ∀ d ∈ tables_1, d.before a0 Z = true) (ws : List Jvm.Cond) (wSTANDALONE : Addr) (wLEADER : Addr) (wFOLLOWER : Addr) (G : OwnG Z wSTANDALONE wLEADER wFOLLOWER) (h0 : Heap) (n0 : Nat) (O0 : Old Z n0 h0) (o1 : Addr) (ge_o1 : n0 ≤ o1) (f0_E_o1 : Exa Z h0 o1 "com/example/nimble_quorum/nimblequorum/server/ServerStatus") (f0_F_o1_mode : Fld Z h0 o1 "com/example/nimble_quorum/nimblequorum/server/ServerStatus" "mode" "Lcom/example/nimble_quorum/nimblequorum/server/ServerStatus$Mode;" .null) (f0_F_o1_lastZxid : Fld Z h0 o1 "com/example/nimble_quorum/nimblequorum/server/ServerStatus" "lastZxid" "J" (.long (0 : Int64))) :
    MetFree l (⟨"java/lang/Record", "<init>", "()V"⟩ : MethodName) (head1 (Jvm.Cond.code (⟨"java/lang/Record", "<init>", "()V"⟩ : MethodName) jdk_30_method_1_code 1 none :: ws) ({ frames := 1, cells := 0, slots := 0, locals := 12 } : Room)) (fun a U => a = #[(.ref o1)] ∧ Z.Warmed39 U.vm ∧ U.heap = h0) (fun _ _ _ _ _ => True) (fun _ U o U' => ∃ v L, o = .returned v ∧ OwnQ (none) h0 n0 v U'.heap L ∧ FrameEnd U o U' L ({ frames := 1, cells := 0, slots := 0, locals := 12 } : Room).cells ({ frames := 1, cells := 0, slots := 0, locals := 12 } : Room).slots) := by
  refine MetFree.of_bodySF (plainFor_of_name own_pn_2) hisR ?_
  intro p e s m args below meth c s₁ Bd hml0 hP hK
  obtain ⟨rfl, hZ, hh⟩ := hP
  have hx := Bd.exec
  have hby := Bd.bytes
  have hml : c.maxLocals = 1 := hml0
  have hown : s.vm.findClass "java/lang/Record" = some m.cls := findClass_of_methodNamed Bd.named
  have hnm := (name_of_methodNamed Bd.named Bd.method).1
  have X0 : Stand p l e ({ frames := 1, cells := 0, slots := 0, locals := 12 } : Room) s m #[(.ref o1)] below meth c s₁ [] 0 0 := Stand.of_body Bd
  have e0 : s₁.heap = h0 := by rw [← hh, Bd.state]; rfl
  have N0 := Fr.nil n0
  have pre0 : ∀ t, Steps p.tables e below (s₁.setTop (mkF m 0 #[.val (.ref o1)] [])) t → Steps p.tables e below (s₁.setTop (entryFrame m #[(.ref o1)] 1)) t := fun t k => castTop (own_ef_2_R m o1) k
  obtain ⟨T1, X1, e1, st1⟩ := initO X0 hx hZ hown (hw _ (List.mem_of_getElem? (i := 11) rfl)) (hw _ (List.mem_of_getElem? (i := 12) rfl)) (hw _ (List.mem_of_getElem? (i := 13) rfl)) e0 (g := (mkF m 1 #[.val (.ref o1)] [(.ref o1)])) rfl (by rw [hml]; rfl) rfl (hb hby own_d2_1) (by decide) (W := 0) (by show 2 * 0 + _ ≤ _; exact Nat.le_of_eq rfl) (by decide)
  obtain ⟨fs, hr, hrun, hended, hW, hsame⟩ := X1.leave (v := none) (fun _ => rfl)
  refine ⟨_, _, pre0 _ ?_, hrun, hended, _, _, rfl, ?_, ⟨_, rfl⟩, hW, hsame.mono (by decide) (by decide)⟩
  · show Steps p.tables e below (s₁.setTop (mkF m 0 #[.val (.ref o1)] [])) _
    refine XS.aloadN X0.here hx rfl (hb hby own_d2_0) rfl rfl ?_
    show Steps p.tables e below (s₁.setTop (mkF m 1 #[.val (.ref o1)] [(.ref o1)])) _
    refine st1 _ ?_
    show Steps p.tables e below (T1.setTop (mkF m 4 #[.val (.ref o1)] [])) _
    exact X1.returnOut hx Bd.returns (hb hby own_d2_4) hr
  · show OwnQ _ h0 n0 _ T1.heap _
    exact ⟨rfl, N0, e1⟩
theorem own_pd_0 : parseMethodDescriptor "()V" = some ⟨[], none⟩ := by decide +kernel
theorem own_d1_0 : decode prog_25_method_1_code 0 = .ok (.aload_n 0, 1) := by decide +kernel
theorem own_d1_1 : decode prog_25_method_1_code 1 = .ok (.invokespecial 1, 3) := by decide +kernel
theorem own_d1_4 : decode prog_25_method_1_code 4 = .ok (.aload_n 0, 1) := by decide +kernel
theorem own_d1_5 : decode prog_25_method_1_code 5 = .ok (.aload_n 1, 1) := by decide +kernel
theorem own_d1_6 : decode prog_25_method_1_code 6 = .ok (.putfield 7, 3) := by decide +kernel
theorem own_d1_9 : decode prog_25_method_1_code 9 = .ok (.aload_n 0, 1) := by decide +kernel
theorem own_d1_10 : decode prog_25_method_1_code 10 = .ok (.lload_n 2, 1) := by decide +kernel
theorem own_d1_11 : decode prog_25_method_1_code 11 = .ok (.putfield 13, 3) := by decide +kernel
theorem own_d1_14 : decode prog_25_method_1_code 14 = .ok (.return_, 1) := by decide +kernel
def OwnQ_own_init_0 (Z : State) (wSTANDALONE : Addr) (wLEADER : Addr) (wFOLLOWER : Addr) (o1 : Addr) (v2 : Int64) (h0 : Heap) (n0 : Nat) (v : Option Value) (h : Heap) (L : List Loc) : Prop :=
  v = none ∧ Fr n0 L ∧ Keep h0 h [o1] ∧ Exa Z h o1 "com/example/nimble_quorum/nimblequorum/server/ServerStatus" ∧ Fld Z h o1 "com/example/nimble_quorum/nimblequorum/server/ServerStatus" "mode" "Lcom/example/nimble_quorum/nimblequorum/server/ServerStatus$Mode;" .null ∧ Fld Z h o1 "com/example/nimble_quorum/nimblequorum/server/ServerStatus" "lastZxid" "J" (.long v2)
set_option maxRecDepth 65536 in
set_option maxHeartbeats 40000000 in
theorem own_init_0 (l : Launch) (Z : State) (a0 : Array Value) (hw : ∀ d ∈ tables_1, d.before a0 Z = true) (ws : List Jvm.Cond) (wSTANDALONE : Addr) (wLEADER : Addr) (wFOLLOWER : Addr) (G : OwnG Z wSTANDALONE wLEADER wFOLLOWER) (h0 : Heap) (n0 : Nat) (O0 : Old Z n0 h0) (o1 : Addr) (v2 : Int64) (ge_o1 : n0 ≤ o1) (f0_E_o1 : Exa Z h0 o1 "com/example/nimble_quorum/nimblequorum/server/ServerStatus") (f0_F_o1_mode : Fld Z h0 o1 "com/example/nimble_quorum/nimblequorum/server/ServerStatus" "mode" "Lcom/example/nimble_quorum/nimblequorum/server/ServerStatus$Mode;" .null) (f0_F_o1_lastZxid : Fld Z h0 o1 "com/example/nimble_quorum/nimblequorum/server/ServerStatus" "lastZxid" "J" (.long (0 : Int64))) :
    MetFree l (⟨"com/example/nimble_quorum/nimblequorum/server/ServerStatus", "<init>", "(Lcom/example/nimble_quorum/nimblequorum/server/ServerStatus$Mode;J)V"⟩ : MethodName) (head1 (Jvm.Cond.code (⟨"com/example/nimble_quorum/nimblequorum/server/ServerStatus", "<init>", "(Lcom/example/nimble_quorum/nimblequorum/server/ServerStatus$Mode;J)V"⟩ : MethodName) prog_25_method_1_code 4 none :: ws) ({ frames := 2, cells := 0, slots := 0, locals := 24 } : Room)) (fun a U => a = #[(.ref o1), .null, (.long v2)] ∧ Z.Warmed39 U.vm ∧ U.heap = h0) (fun _ _ _ _ _ => True) (fun _ U o U' => ∃ v L, o = .returned v ∧ OwnQ_own_init_0 Z wSTANDALONE wLEADER wFOLLOWER o1 v2 h0 n0 v U'.heap L ∧ FrameEnd U o U' L ({ frames := 2, cells := 0, slots := 0, locals := 24 } : Room).cells ({ frames := 2, cells := 0, slots := 0, locals := 24 } : Room).slots) := by
  refine MetFree.of_bodySF (plainFor_of_name own_pn_1) hisR ?_
  intro p e s m args below meth c s₁ Bd hml0 hP hK
  obtain ⟨rfl, hZ, hh⟩ := hP
  have hx := Bd.exec
  have hby := Bd.bytes
  have hml : c.maxLocals = 4 := hml0
  have hown : s.vm.findClass "com/example/nimble_quorum/nimblequorum/server/ServerStatus" = some m.cls := findClass_of_methodNamed Bd.named
  have hnm := (name_of_methodNamed Bd.named Bd.method).1
  have X0 : Stand p l e ({ frames := 2, cells := 0, slots := 0, locals := 24 } : Room) s m #[(.ref o1), .null, (.long v2)] below meth c s₁ [] 0 0 := Stand.of_body Bd
  have e0 : s₁.heap = h0 := by rw [← hh, Bd.state]; rfl
  have N0 := Fr.nil n0
  have pre0 : ∀ t, Steps p.tables e below (s₁.setTop (mkF m 0 #[.val (.ref o1), .val .null, .val (.long v2), .second] [])) t → Steps p.tables e below (s₁.setTop (entryFrame m #[(.ref o1), .null, (.long v2)] 4)) t := fun t k => castTop (own_ef_1_RnJ m o1 v2) k
  obtain ⟨_, _, ⟨T1, L1, k1, n1⟩, -, X1, ⟨Lc1, hQ1, l1, y1, z1⟩, st1⟩ := X0.specialBack hx (y := (⟨"java/lang/Record", "<init>", "()V"⟩ : MethodName)) rfl hown (mvT hZ (hw _ (List.mem_of_getElem? (i := 6) rfl))) (mvT hZ (hw _ (List.mem_of_getElem? (i := 7) rfl))) (mvT hZ (hw _ (List.mem_of_getElem? (i := 10) rfl))) (by decide) (backOf (W := 0) (own_init_1 l Z a0 hw [] wSTANDALONE wLEADER wFOLLOWER G h0 n0 O0 o1 ge_o1 f0_E_o1 f0_F_o1_mode f0_F_o1_lastZxid) hZ (hw _ (List.mem_of_getElem? (i := 10) rfl)) (hw _ (List.mem_of_getElem? (i := 9) rfl)) (by decide) (by decide)) (g := (mkF m 1 #[.val (.ref o1), .val .null, .val (.long v2), .second] [(.ref o1)])) rfl (by rw [hml]; rfl) (Steps.refl _) (a := o1) (argsL := []) (rest := []) (lenOf own_pd_0 rfl) rfl (by show 2 * 0 + _ ≤ _; exact Nat.le_of_eq rfl) (hb hby own_d1_1) (fun _ _ => ⟨rfl, e0, (by decide : 0 + 0 ≤ _), (by decide : 0 + 0 ≤ _)⟩)
  dsimp only [Pt.U, Pt.locs, Pt.cells, Pt.slots] at X1 l1 y1 z1 st1 hQ1
  subst l1 y1 z1
  obtain ⟨rfl, N1q, e1⟩ := hQ1
  have N1 := Fr.app N0 N1q
  obtain ⟨T2, h2, X2, e2, W2, st2⟩ := putF X1 hx hZ hown (host := "") (Or.inl (hw _ (List.mem_of_getElem? (i := 14) rfl))) Via.refl e1 f0_F_o1_mode f0_E_o1 (Or.inr ⟨(hw _ (List.mem_of_getElem? (i := 15) rfl)), rfl, hnm⟩) (hw _ (List.mem_of_getElem? (i := 1) rfl)) (ty := (.object "com/example/nimble_quorum/nimblequorum/server/ServerStatus$Mode")) (by decide) rfl rfl (g := (mkF m 6 #[.val (.ref o1), .val .null, .val (.long v2), .second] [.null, (.ref o1)])) rfl rfl (hb hby own_d1_6)
  have f2_E_o1 := f0_E_o1.wr W2
  have f2_F_o1_mode := f0_F_o1_mode.same W2
  have f2_F_o1_lastZxid := f0_F_o1_lastZxid.other W2 (Or.inr (slot_ne (Or.inr (hw _ (List.mem_of_getElem? (i := 17) rfl))) (Or.inr (hw _ (List.mem_of_getElem? (i := 15) rfl))) (by decide) (t := .long) (t' := (.object "com/example/nimble_quorum/nimblequorum/server/ServerStatus$Mode")) (by decide) (by decide)))
  have O2 := O0.wr W2 ge_o1
  have K2 := (Keep.refl h0 [o1]).wr W2 (Or.inl (List.mem_of_getElem? (i := 0) rfl))
  have N2 := Fr.snoc X2 N1 ge_o1
  obtain ⟨T3, h3, X3, e3, W3, st3⟩ := putF X2 hx hZ hown (host := "") (Or.inl (hw _ (List.mem_of_getElem? (i := 16) rfl))) Via.refl e2 f2_F_o1_lastZxid f2_E_o1 (Or.inr ⟨(hw _ (List.mem_of_getElem? (i := 17) rfl)), rfl, hnm⟩) (hw _ (List.mem_of_getElem? (i := 1) rfl)) (ty := .long) (by decide) rfl rfl (g := (mkF m 11 #[.val (.ref o1), .val .null, .val (.long v2), .second] [(.long v2), (.ref o1)])) rfl rfl (hb hby own_d1_11)
  have f3_E_o1 := f2_E_o1.wr W3
  have f3_F_o1_mode := f2_F_o1_mode.other W3 (Or.inr (slot_ne (Or.inr (hw _ (List.mem_of_getElem? (i := 15) rfl))) (Or.inr (hw _ (List.mem_of_getElem? (i := 17) rfl))) (by decide) (t := (.object "com/example/nimble_quorum/nimblequorum/server/ServerStatus$Mode")) (t' := .long) (by decide) (by decide)))
  have f3_F_o1_lastZxid := f2_F_o1_lastZxid.same W3
  have O3 := O2.wr W3 ge_o1
  have K3 := K2.wr W3 (Or.inl (List.mem_of_getElem? (i := 0) rfl))
  have N3 := Fr.snoc X3 N2 ge_o1
  obtain ⟨fs, hr, hrun, hended, hW, hsame⟩ := X3.leave (v := none) (fun _ => rfl)
  refine ⟨_, _, pre0 _ ?_, hrun, hended, _, _, rfl, ?_, ⟨_, rfl⟩, hW, hsame.mono (by decide) (by decide)⟩
  · show Steps p.tables e below (s₁.setTop (mkF m 0 #[.val (.ref o1), .val .null, .val (.long v2), .second] [])) _
    refine XS.aloadN X0.here hx rfl (hb hby own_d1_0) rfl rfl ?_
    show Steps p.tables e below (s₁.setTop (mkF m 1 #[.val (.ref o1), .val .null, .val (.long v2), .second] [(.ref o1)])) _
    refine st1.trans ?_
    show Steps p.tables e below (T1.setTop (mkF m 4 #[.val (.ref o1), .val .null, .val (.long v2), .second] [])) _
    refine XS.aloadN X1.here hx rfl (hb hby own_d1_4) rfl rfl ?_
    show Steps p.tables e below (T1.setTop (mkF m 5 #[.val (.ref o1), .val .null, .val (.long v2), .second] [(.ref o1)])) _
    refine XS.aloadN X1.here hx rfl (hb hby own_d1_5) rfl rfl ?_
    show Steps p.tables e below (T1.setTop (mkF m 6 #[.val (.ref o1), .val .null, .val (.long v2), .second] [.null, (.ref o1)])) _
    refine st2 _ ?_
    show Steps p.tables e below (T2.setTop (mkF m 9 #[.val (.ref o1), .val .null, .val (.long v2), .second] [])) _
    refine XS.aloadN X2.here hx rfl (hb hby own_d1_9) rfl rfl ?_
    show Steps p.tables e below (T2.setTop (mkF m 10 #[.val (.ref o1), .val .null, .val (.long v2), .second] [(.ref o1)])) _
    refine XS.lloadN X2.here hx rfl (hb hby own_d1_10) rfl ?_
    show Steps p.tables e below (T2.setTop (mkF m 11 #[.val (.ref o1), .val .null, .val (.long v2), .second] [(.long v2), (.ref o1)])) _
    refine st3 _ ?_
    show Steps p.tables e below (T3.setTop (mkF m 14 #[.val (.ref o1), .val .null, .val (.long v2), .second] [])) _
    exact X3.returnOut hx Bd.returns (hb hby own_d1_14) hr
  · show OwnQ_own_init_0 Z wSTANDALONE wLEADER wFOLLOWER o1 v2 h0 n0 _ T3.heap _
    rw [e3]
    exact ⟨rfl, N3, K3, f3_E_o1, f3_F_o1_mode, f3_F_o1_lastZxid⟩
theorem own_pd_1 : parseMethodDescriptor "(Lcom/example/nimble_quorum/nimblequorum/server/ServerStatus$Mode;J)V" = some ⟨[(.object "com/example/nimble_quorum/nimblequorum/server/ServerStatus$Mode"), .long], none⟩ := by decide +kernel
theorem own_ef_4_R (m : MethodId) (x0 : Addr) : entryFrame m #[(.ref x0)] 1 = mkF m 0 #[.val (.ref x0)] [] := by first | (simp [entryFrame, mkF, argsToLocals, Value.category]; done) | rfl
theorem own_d4_0 : decode prog_25_method_2_code 0 = .ok (.aload_n 0, 1) := by decide +kernel
theorem own_d4_1 : decode prog_25_method_2_code 1 = .ok (.getfield 7, 3) := by decide +kernel
theorem own_d4_4 : decode prog_25_method_2_code 4 = .ok (.ifnull 7, 3) := by decide +kernel
theorem own_d4_11 : decode prog_25_method_2_code 11 = .ok (.iconst 0, 1) := by decide +kernel
theorem own_d4_12 : decode prog_25_method_2_code 12 = .ok (.ireturn, 1) := by decide +kernel
set_option maxRecDepth 65536 in
set_option maxHeartbeats 40000000 in
theorem own_opensSessions_2 (l : Launch) (Z : State) (a0 : Array Value) (hw : ∀ d ∈ tables_1, d.before a0 Z = true) (ws : List Jvm.Cond) (wSTANDALONE : Addr) (wLEADER : Addr) (wFOLLOWER : Addr) (G : OwnG Z wSTANDALONE wLEADER wFOLLOWER) (h0 : Heap) (n0 : Nat) (O0 : Old Z n0 h0) (o1 : Addr) (v2 : Int64) (ge_o1 : n0 ≤ o1) (f0_E_o1 : Exa Z h0 o1 "com/example/nimble_quorum/nimblequorum/server/ServerStatus") (f0_F_o1_mode : Fld Z h0 o1 "com/example/nimble_quorum/nimblequorum/server/ServerStatus" "mode" "Lcom/example/nimble_quorum/nimblequorum/server/ServerStatus$Mode;" .null) (f0_F_o1_lastZxid : Fld Z h0 o1 "com/example/nimble_quorum/nimblequorum/server/ServerStatus" "lastZxid" "J" (.long v2)) :
    MetFree l (⟨"com/example/nimble_quorum/nimblequorum/server/ServerStatus", "opensSessions", "()Z"⟩ : MethodName) (head1 (Jvm.Cond.code (⟨"com/example/nimble_quorum/nimblequorum/server/ServerStatus", "opensSessions", "()Z"⟩ : MethodName) prog_25_method_2_code 1 (some .boolean) :: ws) ({ frames := 0, cells := 0, slots := 0, locals := 0 } : Room)) (fun a U => a = #[(.ref o1)] ∧ Z.Warmed39 U.vm ∧ U.heap = h0) (fun _ _ _ _ _ => True) (fun _ U o U' => ∃ v L, o = .returned v ∧ OwnQ (some (.int (0 : Int32))) h0 n0 v U'.heap L ∧ FrameEnd U o U' L ({ frames := 0, cells := 0, slots := 0, locals := 0 } : Room).cells ({ frames := 0, cells := 0, slots := 0, locals := 0 } : Room).slots) := by
  refine MetFree.of_bodySF (plainFor_of_name own_pn_1) hisR ?_
  intro p e s m args below meth c s₁ Bd hml0 hP hK
  obtain ⟨rfl, hZ, hh⟩ := hP
  have hx := Bd.exec
  have hby := Bd.bytes
  have hml : c.maxLocals = 1 := hml0
  have hown : s.vm.findClass "com/example/nimble_quorum/nimblequorum/server/ServerStatus" = some m.cls := findClass_of_methodNamed Bd.named
  have hnm := (name_of_methodNamed Bd.named Bd.method).1
  have X0 : Stand p l e ({ frames := 0, cells := 0, slots := 0, locals := 0 } : Room) s m #[(.ref o1)] below meth c s₁ [] 0 0 := Stand.of_body Bd
  have e0 : s₁.heap = h0 := by rw [← hh, Bd.state]; rfl
  have N0 := Fr.nil n0
  have pre0 : ∀ t, Steps p.tables e below (s₁.setTop (mkF m 0 #[.val (.ref o1)] [])) t → Steps p.tables e below (s₁.setTop (entryFrame m #[(.ref o1)] 1)) t := fun t k => castTop (own_ef_4_R m o1) k
  obtain ⟨T1, X1, e1, st1⟩ := getF X0 hx hZ hown (host := "") (Or.inl (hw _ (List.mem_of_getElem? (i := 14) rfl))) Via.refl e0 f0_F_o1_mode (g := (mkF m 1 #[.val (.ref o1)] [(.ref o1)])) rfl rfl (hb hby own_d4_1)
  obtain ⟨fs, hr, hrun, hended, hW, hsame⟩ := X1.leave (v := some (.int (0 : Int32))) (fun h => by rw [Bd.returns] at h; cases h)
  refine ⟨_, _, pre0 _ ?_, hrun, hended, _, _, rfl, ?_, ⟨_, rfl⟩, hW, hsame.mono (by decide) (by decide)⟩
  · show Steps p.tables e below (s₁.setTop (mkF m 0 #[.val (.ref o1)] [])) _
    refine XS.aloadN X0.here hx rfl (hb hby own_d4_0) rfl rfl ?_
    show Steps p.tables e below (s₁.setTop (mkF m 1 #[.val (.ref o1)] [(.ref o1)])) _
    refine st1 _ ?_
    show Steps p.tables e below (T1.setTop (mkF m 4 #[.val (.ref o1)] [.null])) _
    refine XS.ifnullYes X1.here hx rfl (pc0 := 4) (pc' := 11) rfl (hb hby own_d4_4) rfl (by decide) (by decide) ?_
    show Steps p.tables e below (T1.setTop (mkF m 11 #[.val (.ref o1)] [])) _
    refine XS.iconst X1.here hx rfl (hb hby own_d4_11) ?_
    show Steps p.tables e below (T1.setTop (mkF m 12 #[.val (.ref o1)] [(.int (0 : Int32))])) _
    exact retN X1 hx (t := .boolean) Bd.returns (by simp) (hb hby own_d4_12) hr
  · show OwnQ _ h0 n0 _ T1.heap _
    exact ⟨rfl, N0, e1⟩
theorem own_pd_2 : parseMethodDescriptor "()Z" = some ⟨[], some .boolean⟩ := by decide +kernel
set_option maxRecDepth 65536 in
set_option maxHeartbeats 40000000 in
theorem own_law_0 (l : Launch) (Z : State) (a0 : Array Value) (hw : ∀ d ∈ tables_1, d.before a0 Z = true) (ws : List Jvm.Cond) (wSTANDALONE : Addr) (wLEADER : Addr) (wFOLLOWER : Addr) (G : OwnG Z wSTANDALONE wLEADER wFOLLOWER) (h0 : Heap) (n0 : Nat) (O0 : Old Z n0 h0) (p1 : Int32) (p2 : Int64) (hi : (p1 &&& (3 : Int32)) = (0 : Int32)) :
    MetFree l x (head1 (Jvm.Cond.code x code maxLocals ret :: ws) room_1) (fun a U => a = #[(.int p1), (.long p2)] ∧ Z.Warmed39 U.vm ∧ U.heap = h0) (fun _ _ _ _ _ => True) (fun _ U o U' => ∃ v L, o = .returned v ∧ (v = some (.int 1) ∧ Fr n0 L) ∧ FrameEnd U o U' L room_1.cells room_1.slots) := by
  refine MetFree.of_bodySF (plainFor_of_name own_pn_0) hisR ?_
  intro p e s m args below meth c s₁ Bd hml0 hP hK
  obtain ⟨rfl, hZ, hh⟩ := hP
  have hx := Bd.exec
  have hby := Bd.bytes
  have hml : c.maxLocals = 7 := hml0
  have hown : s.vm.findClass "com/example/nimble_quorum/nimblequorum/server/ServerStatusOpensSessionsPinLaw" = some m.cls := findClass_of_methodNamed Bd.named
  have hnm := (name_of_methodNamed Bd.named Bd.method).1
  have X0 : Stand p l e room_1 s m #[(.int p1), (.long p2)] below meth c s₁ [] 0 0 := Stand.of_body Bd
  have e0 : s₁.heap = h0 := by rw [← hh, Bd.state]; rfl
  have N0 := Fr.nil n0
  have pre0 : ∀ t, Steps p.tables e below (s₁.setTop (mkF m 0 #[.val (.int p1), .val (.long p2), .second, .unset, .unset, .unset, .unset] [])) t → Steps p.tables e below (s₁.setTop (entryFrame m #[(.int p1), (.long p2)] maxLocals)) t := fun t k => castTop (own_ef_0_IJ m p1 p2) k
  obtain ⟨T1, h1, X1, e1, E1, A1, D1, -, st1⟩ := newO X0 hx hZ hown (hw _ (List.mem_of_getElem? (i := 0) rfl)) (hw _ (List.mem_of_getElem? (i := 1) rfl)) (hw _ (List.mem_of_getElem? (i := 2) rfl)) e0 (g := (mkF m 43 #[.val (.int p1), .val (.long p2), .second, .val (.int (0 : Int32)), .val .null, .unset, .unset] [])) rfl (hb hby at_43) (by decide) (by decide)
  obtain ⟨b1, g1⟩ : ∃ z, z = h0.size := ⟨_, rfl⟩
  rw [← g1] at A1 D1 st1
  have ge_b1 : n0 ≤ b1 := own_new O0 g1
  have sz_b1 : h0.size ≤ b1 := Nat.le_trans (Keep.refl h0 []).1 (Nat.le_of_eq g1.symm)
  have O1 := O0.ext E1
  have K1 := (Keep.refl h0 []).ext E1
  have F1_mode : Fld Z h1 b1 "com/example/nimble_quorum/nimblequorum/server/ServerStatus" "mode" "Lcom/example/nimble_quorum/nimblequorum/server/ServerStatus$Mode;" .null := D1 (Or.inr (hw _ (List.mem_of_getElem? (i := 15) rfl))) (ty := (.object "com/example/nimble_quorum/nimblequorum/server/ServerStatus$Mode")) (by decide)
  have F1_lastZxid : Fld Z h1 b1 "com/example/nimble_quorum/nimblequorum/server/ServerStatus" "lastZxid" "J" (.long (0 : Int64)) := D1 (Or.inr (hw _ (List.mem_of_getElem? (i := 17) rfl))) (ty := .long) (by decide)
  obtain ⟨_, _, ⟨T2, L2, k2, n2⟩, -, X2, ⟨Lc2, hQ2, l2, y2, z2⟩, st2⟩ := X1.specialBack hx (y := (⟨"com/example/nimble_quorum/nimblequorum/server/ServerStatus", "<init>", "(Lcom/example/nimble_quorum/nimblequorum/server/ServerStatus$Mode;J)V"⟩ : MethodName)) rfl hown (mvT hZ (hw _ (List.mem_of_getElem? (i := 3) rfl))) (mvT hZ (hw _ (List.mem_of_getElem? (i := 4) rfl))) (mvT hZ (hw _ (List.mem_of_getElem? (i := 5) rfl))) (by decide) (backOf (W := 1) (own_init_0 l Z a0 hw [] wSTANDALONE wLEADER wFOLLOWER G h1 n0 O1 b1 p2 ge_b1 A1 F1_mode F1_lastZxid) hZ (hw _ (List.mem_of_getElem? (i := 5) rfl)) (hw _ (List.mem_of_getElem? (i := 2) rfl)) (by decide) (by decide)) (g := (mkF m 50 #[.val (.int p1), .val (.long p2), .second, .val (.int (0 : Int32)), .val .null, .unset, .unset] [(.long p2), .null, (.ref b1), (.ref b1)])) rfl (by rw [hml]; rfl) (Steps.refl _) (a := b1) (argsL := [.null, (.long p2)]) (rest := [(.ref b1)]) (lenOf own_pd_1 rfl) rfl (by show 2 * 0 + _ ≤ _; exact Nat.le_of_eq rfl) (hb hby at_50) (fun _ _ => ⟨rfl, e1, (by decide : 1 + 0 ≤ _), (by decide : 2 + 0 ≤ _)⟩)
  dsimp only [Pt.U, Pt.locs, Pt.cells, Pt.slots] at X2 l2 y2 z2 st2 hQ2
  subst l2 y2 z2
  obtain ⟨rfl, N2q, Kq2, q2_E_o1, q2_F_o1_mode, q2_F_o1_lastZxid⟩ := hQ2
  have N2 := Fr.app N0 N2q
  have f2_E_b1 := A1.keep Kq2
  have O2 := O1.keep Kq2 (allS ge_b1 all0)
  have K2 := K1.trans Kq2 (allS (Or.inr sz_b1) all0)
  obtain ⟨cq3, kq3, q3a, q3b, q3c⟩ := isOf hZ rfl q2_E_o1
  obtain ⟨_, _, ⟨T3, L3, k3, n3⟩, -, X3, ⟨Lc3, hQ3, l3, y3, z3⟩, st3⟩ := X2.virtualBack hx (y := (⟨"com/example/nimble_quorum/nimblequorum/server/ServerStatus", "opensSessions", "()Z"⟩ : MethodName)) (z := (⟨"com/example/nimble_quorum/nimblequorum/server/ServerStatus", "opensSessions", "()Z"⟩ : MethodName)) hown (mvT hZ (hw _ (List.mem_of_getElem? (i := 18) rfl))) (mvT hZ (hw _ (List.mem_of_getElem? (i := 19) rfl))) (notFace_of_selects (args := #[]) (mvT hZ (hw _ (List.mem_of_getElem? (i := 21) rfl)))) (mvT hZ (hw _ (List.mem_of_getElem? (i := 21) rfl))) (mvT hZ (hw _ (List.mem_of_getElem? (i := 20) rfl))) (by decide) (backOf (W := 0) (own_opensSessions_2 l Z a0 hw [] wSTANDALONE wLEADER wFOLLOWER G T2.heap n0 O2 b1 p2 ge_b1 q2_E_o1 q2_F_o1_mode q2_F_o1_lastZxid) hZ (hw _ (List.mem_of_getElem? (i := 22) rfl)) (hw _ (List.mem_of_getElem? (i := 2) rfl)) (by decide) (by decide)) q3a q3c (g := (mkF m 68 #[.val (.int p1), .val (.long p2), .second, .val (.int (0 : Int32)), .val .null, .val (.ref b1), .val (.int (0 : Int32))] [(.ref b1)])) rfl (by rw [hml]; rfl) (Steps.refl _) (argsL := []) (rest := []) (lenOf own_pd_2 rfl) rfl (by show 2 * 0 + _ ≤ _; exact Nat.le_of_eq rfl) (hb hby at_68) (fun _ _ => ⟨rfl, rfl, (by decide : 1 + 0 ≤ _), (by decide : 2 + 0 ≤ _)⟩)
  dsimp only [Pt.U, Pt.locs, Pt.cells, Pt.slots] at X3 l3 y3 z3 st3 hQ3
  subst l3 y3 z3
  obtain ⟨rfl, N3q, e3⟩ := hQ3
  have N3 := Fr.app N2 N3q
  obtain ⟨fs, hr, hrun, hended, hW, hsame⟩ := X3.leave (v := some (.int (1 : Int32))) (fun h => by rw [Bd.returns] at h; cases h)
  refine ⟨_, _, pre0 _ ?_, hrun, hended, _, _, rfl, ?_, ⟨_, rfl⟩, hW, hsame.mono (by decide) (by decide)⟩
  · show Steps p.tables e below (s₁.setTop (mkF m 0 #[.val (.int p1), .val (.long p2), .second, .unset, .unset, .unset, .unset] [])) _
    refine XS.iloadN X0.here hx rfl (hb hby at_0) rfl ?_
    show Steps p.tables e below (s₁.setTop (mkF m 1 #[.val (.int p1), .val (.long p2), .second, .unset, .unset, .unset, .unset] [(.int p1)])) _
    refine XS.iconst X0.here hx rfl (hb hby at_1) ?_
    show Steps p.tables e below (s₁.setTop (mkF m 2 #[.val (.int p1), .val (.long p2), .second, .unset, .unset, .unset, .unset] [(.int (3 : Int32)), (.int p1)])) _
    refine XS.iand X0.here hx rfl (hb hby at_2) rfl ?_
    show Steps p.tables e below (s₁.setTop (mkF m 3 #[.val (.int p1), .val (.long p2), .second, .unset, .unset, .unset, .unset] [(.int (p1 &&& (3 : Int32)))])) _
    refine castTop (g' := (mkF m 3 #[.val (.int p1), .val (.long p2), .second, .unset, .unset, .unset, .unset] [(.int (0 : Int32))])) (by rw [hi]) ?_
    show Steps p.tables e below (s₁.setTop (mkF m 3 #[.val (.int p1), .val (.long p2), .second, .unset, .unset, .unset, .unset] [(.int (0 : Int32))])) _
    refine XS.istoreN X0.here hx rfl (hb hby at_3) rfl (l' := #[.val (.int p1), .val (.long p2), .second, .val (.int (0 : Int32)), .unset, .unset, .unset]) rfl ?_
    show Steps p.tables e below (s₁.setTop (mkF m 4 #[.val (.int p1), .val (.long p2), .second, .val (.int (0 : Int32)), .unset, .unset, .unset] [])) _
    refine XS.aconstNull X0.here hx rfl (hb hby at_4) ?_
    show Steps p.tables e below (s₁.setTop (mkF m 5 #[.val (.int p1), .val (.long p2), .second, .val (.int (0 : Int32)), .unset, .unset, .unset] [.null])) _
    refine XS.astore X0.here hx rfl (hb hby at_5) rfl rfl (l' := #[.val (.int p1), .val (.long p2), .second, .val (.int (0 : Int32)), .val .null, .unset, .unset]) rfl ?_
    show Steps p.tables e below (s₁.setTop (mkF m 7 #[.val (.int p1), .val (.long p2), .second, .val (.int (0 : Int32)), .val .null, .unset, .unset] [])) _
    refine XS.iloadN X0.here hx rfl (hb hby at_7) rfl ?_
    show Steps p.tables e below (s₁.setTop (mkF m 8 #[.val (.int p1), .val (.long p2), .second, .val (.int (0 : Int32)), .val .null, .unset, .unset] [(.int (0 : Int32))])) _
    refine XS.iconst X0.here hx rfl (hb hby at_8) ?_
    show Steps p.tables e below (s₁.setTop (mkF m 9 #[.val (.int p1), .val (.long p2), .second, .val (.int (0 : Int32)), .val .null, .unset, .unset] [(.int (1 : Int32)), (.int (0 : Int32))])) _
    refine XS.icmpYes X0.here hx rfl (pc0 := 9) (pc' := 20) rfl (hb hby at_9) rfl (by decide) (by decide) (by decide) ?_
    show Steps p.tables e below (s₁.setTop (mkF m 20 #[.val (.int p1), .val (.long p2), .second, .val (.int (0 : Int32)), .val .null, .unset, .unset] [])) _
    refine XS.iloadN X0.here hx rfl (hb hby at_20) rfl ?_
    show Steps p.tables e below (s₁.setTop (mkF m 21 #[.val (.int p1), .val (.long p2), .second, .val (.int (0 : Int32)), .val .null, .unset, .unset] [(.int (0 : Int32))])) _
    refine XS.iconst X0.here hx rfl (hb hby at_21) ?_
    show Steps p.tables e below (s₁.setTop (mkF m 22 #[.val (.int p1), .val (.long p2), .second, .val (.int (0 : Int32)), .val .null, .unset, .unset] [(.int (2 : Int32)), (.int (0 : Int32))])) _
    refine XS.icmpYes X0.here hx rfl (pc0 := 22) (pc' := 33) rfl (hb hby at_22) rfl (by decide) (by decide) (by decide) ?_
    show Steps p.tables e below (s₁.setTop (mkF m 33 #[.val (.int p1), .val (.long p2), .second, .val (.int (0 : Int32)), .val .null, .unset, .unset] [])) _
    refine XS.iloadN X0.here hx rfl (hb hby at_33) rfl ?_
    show Steps p.tables e below (s₁.setTop (mkF m 34 #[.val (.int p1), .val (.long p2), .second, .val (.int (0 : Int32)), .val .null, .unset, .unset] [(.int (0 : Int32))])) _
    refine XS.iconst X0.here hx rfl (hb hby at_34) ?_
    show Steps p.tables e below (s₁.setTop (mkF m 35 #[.val (.int p1), .val (.long p2), .second, .val (.int (0 : Int32)), .val .null, .unset, .unset] [(.int (3 : Int32)), (.int (0 : Int32))])) _
    refine XS.icmpYes X0.here hx rfl (pc0 := 35) (pc' := 43) rfl (hb hby at_35) rfl (by decide) (by decide) (by decide) ?_
    show Steps p.tables e below (s₁.setTop (mkF m 43 #[.val (.int p1), .val (.long p2), .second, .val (.int (0 : Int32)), .val .null, .unset, .unset] [])) _
    refine st1 _ ?_
    show Steps p.tables e below (T1.setTop (mkF m 46 #[.val (.int p1), .val (.long p2), .second, .val (.int (0 : Int32)), .val .null, .unset, .unset] [(.ref b1)])) _
    refine XS.dup X1.here hx rfl (hb hby at_46) rfl rfl ?_
    show Steps p.tables e below (T1.setTop (mkF m 47 #[.val (.int p1), .val (.long p2), .second, .val (.int (0 : Int32)), .val .null, .unset, .unset] [(.ref b1), (.ref b1)])) _
    refine XS.aload X1.here hx rfl (hb hby at_47) rfl rfl ?_
    show Steps p.tables e below (T1.setTop (mkF m 49 #[.val (.int p1), .val (.long p2), .second, .val (.int (0 : Int32)), .val .null, .unset, .unset] [.null, (.ref b1), (.ref b1)])) _
    refine XS.lloadN X1.here hx rfl (hb hby at_49) rfl ?_
    show Steps p.tables e below (T1.setTop (mkF m 50 #[.val (.int p1), .val (.long p2), .second, .val (.int (0 : Int32)), .val .null, .unset, .unset] [(.long p2), .null, (.ref b1), (.ref b1)])) _
    refine st2.trans ?_
    show Steps p.tables e below (T2.setTop (mkF m 53 #[.val (.int p1), .val (.long p2), .second, .val (.int (0 : Int32)), .val .null, .unset, .unset] [(.ref b1)])) _
    refine XS.astore X2.here hx rfl (hb hby at_53) rfl rfl (l' := #[.val (.int p1), .val (.long p2), .second, .val (.int (0 : Int32)), .val .null, .val (.ref b1), .unset]) rfl ?_
    show Steps p.tables e below (T2.setTop (mkF m 55 #[.val (.int p1), .val (.long p2), .second, .val (.int (0 : Int32)), .val .null, .val (.ref b1), .unset] [])) _
    refine XS.iloadN X2.here hx rfl (hb hby at_55) rfl ?_
    show Steps p.tables e below (T2.setTop (mkF m 56 #[.val (.int p1), .val (.long p2), .second, .val (.int (0 : Int32)), .val .null, .val (.ref b1), .unset] [(.int (0 : Int32))])) _
    refine XS.ifYes X2.here hx rfl (pc0 := 56) (pc' := 63) rfl (hb hby at_56) rfl (by decide) (by decide) (by decide) ?_
    show Steps p.tables e below (T2.setTop (mkF m 63 #[.val (.int p1), .val (.long p2), .second, .val (.int (0 : Int32)), .val .null, .val (.ref b1), .unset] [])) _
    refine XS.iconst X2.here hx rfl (hb hby at_63) ?_
    show Steps p.tables e below (T2.setTop (mkF m 64 #[.val (.int p1), .val (.long p2), .second, .val (.int (0 : Int32)), .val .null, .val (.ref b1), .unset] [(.int (0 : Int32))])) _
    refine XS.istore X2.here hx rfl (hb hby at_64) rfl (l' := #[.val (.int p1), .val (.long p2), .second, .val (.int (0 : Int32)), .val .null, .val (.ref b1), .val (.int (0 : Int32))]) rfl ?_
    show Steps p.tables e below (T2.setTop (mkF m 66 #[.val (.int p1), .val (.long p2), .second, .val (.int (0 : Int32)), .val .null, .val (.ref b1), .val (.int (0 : Int32))] [])) _
    refine XS.aload X2.here hx rfl (hb hby at_66) rfl rfl ?_
    show Steps p.tables e below (T2.setTop (mkF m 68 #[.val (.int p1), .val (.long p2), .second, .val (.int (0 : Int32)), .val .null, .val (.ref b1), .val (.int (0 : Int32))] [(.ref b1)])) _
    refine st3.trans ?_
    show Steps p.tables e below (T3.setTop (mkF m 71 #[.val (.int p1), .val (.long p2), .second, .val (.int (0 : Int32)), .val .null, .val (.ref b1), .val (.int (0 : Int32))] [(.int (0 : Int32))])) _
    refine XS.iload X3.here hx rfl (hb hby at_71) rfl ?_
    show Steps p.tables e below (T3.setTop (mkF m 73 #[.val (.int p1), .val (.long p2), .second, .val (.int (0 : Int32)), .val .null, .val (.ref b1), .val (.int (0 : Int32))] [(.int (0 : Int32)), (.int (0 : Int32))])) _
    refine XS.icmpNo X3.here hx rfl (hb hby at_73) rfl (by decide) ?_
    show Steps p.tables e below (T3.setTop (mkF m 76 #[.val (.int p1), .val (.long p2), .second, .val (.int (0 : Int32)), .val .null, .val (.ref b1), .val (.int (0 : Int32))] [])) _
    refine XS.iconst X3.here hx rfl (hb hby at_76) ?_
    show Steps p.tables e below (T3.setTop (mkF m 77 #[.val (.int p1), .val (.long p2), .second, .val (.int (0 : Int32)), .val .null, .val (.ref b1), .val (.int (0 : Int32))] [(.int (1 : Int32))])) _
    refine XS.goto X3.here hx rfl (pc0 := 77) (pc' := 81) rfl (hb hby at_77) (by decide) (by decide) ?_
    show Steps p.tables e below (T3.setTop (mkF m 81 #[.val (.int p1), .val (.long p2), .second, .val (.int (0 : Int32)), .val .null, .val (.ref b1), .val (.int (0 : Int32))] [(.int (1 : Int32))])) _
    exact retN X3 hx (t := .boolean) Bd.returns (by simp) (hb hby at_81) hr
  · exact ⟨rfl, N3⟩
theorem own_ef_1_RRJ (m : MethodId) (x0 : Addr) (x1 : Addr) (x2 : Int64) : entryFrame m #[(.ref x0), (.ref x1), (.long x2)] 4 = mkF m 0 #[.val (.ref x0), .val (.ref x1), .val (.long x2), .second] [] := by first | (simp [entryFrame, mkF, argsToLocals, Value.category]; done) | rfl
def OwnQ_own_init_3 (Z : State) (wSTANDALONE : Addr) (wLEADER : Addr) (wFOLLOWER : Addr) (o1 : Addr) (v2 : Int64) (h0 : Heap) (n0 : Nat) (v : Option Value) (h : Heap) (L : List Loc) : Prop :=
  v = none ∧ Fr n0 L ∧ Keep h0 h [o1] ∧ Exa Z h o1 "com/example/nimble_quorum/nimblequorum/server/ServerStatus" ∧ Fld Z h o1 "com/example/nimble_quorum/nimblequorum/server/ServerStatus" "mode" "Lcom/example/nimble_quorum/nimblequorum/server/ServerStatus$Mode;" (.ref wSTANDALONE) ∧ Fld Z h o1 "com/example/nimble_quorum/nimblequorum/server/ServerStatus" "lastZxid" "J" (.long v2)
set_option maxRecDepth 65536 in
set_option maxHeartbeats 40000000 in
theorem own_init_3 (l : Launch) (Z : State) (a0 : Array Value) (hw : ∀ d ∈ tables_1, d.before a0 Z = true) (ws : List Jvm.Cond) (wSTANDALONE : Addr) (wLEADER : Addr) (wFOLLOWER : Addr) (G : OwnG Z wSTANDALONE wLEADER wFOLLOWER) (h0 : Heap) (n0 : Nat) (O0 : Old Z n0 h0) (o1 : Addr) (v2 : Int64) (ge_o1 : n0 ≤ o1) (f0_E_o1 : Exa Z h0 o1 "com/example/nimble_quorum/nimblequorum/server/ServerStatus") (f0_F_o1_mode : Fld Z h0 o1 "com/example/nimble_quorum/nimblequorum/server/ServerStatus" "mode" "Lcom/example/nimble_quorum/nimblequorum/server/ServerStatus$Mode;" .null) (f0_F_o1_lastZxid : Fld Z h0 o1 "com/example/nimble_quorum/nimblequorum/server/ServerStatus" "lastZxid" "J" (.long (0 : Int64))) :
    MetFree l (⟨"com/example/nimble_quorum/nimblequorum/server/ServerStatus", "<init>", "(Lcom/example/nimble_quorum/nimblequorum/server/ServerStatus$Mode;J)V"⟩ : MethodName) (head1 (Jvm.Cond.code (⟨"com/example/nimble_quorum/nimblequorum/server/ServerStatus", "<init>", "(Lcom/example/nimble_quorum/nimblequorum/server/ServerStatus$Mode;J)V"⟩ : MethodName) prog_25_method_1_code 4 none :: ws) ({ frames := 2, cells := 0, slots := 0, locals := 24 } : Room)) (fun a U => a = #[(.ref o1), (.ref wSTANDALONE), (.long v2)] ∧ Z.Warmed39 U.vm ∧ U.heap = h0) (fun _ _ _ _ _ => True) (fun _ U o U' => ∃ v L, o = .returned v ∧ OwnQ_own_init_3 Z wSTANDALONE wLEADER wFOLLOWER o1 v2 h0 n0 v U'.heap L ∧ FrameEnd U o U' L ({ frames := 2, cells := 0, slots := 0, locals := 24 } : Room).cells ({ frames := 2, cells := 0, slots := 0, locals := 24 } : Room).slots) := by
  refine MetFree.of_bodySF (plainFor_of_name own_pn_1) hisR ?_
  intro p e s m args below meth c s₁ Bd hml0 hP hK
  obtain ⟨rfl, hZ, hh⟩ := hP
  have hx := Bd.exec
  have hby := Bd.bytes
  have hml : c.maxLocals = 4 := hml0
  have hown : s.vm.findClass "com/example/nimble_quorum/nimblequorum/server/ServerStatus" = some m.cls := findClass_of_methodNamed Bd.named
  have hnm := (name_of_methodNamed Bd.named Bd.method).1
  have X0 : Stand p l e ({ frames := 2, cells := 0, slots := 0, locals := 24 } : Room) s m #[(.ref o1), (.ref wSTANDALONE), (.long v2)] below meth c s₁ [] 0 0 := Stand.of_body Bd
  have e0 : s₁.heap = h0 := by rw [← hh, Bd.state]; rfl
  have N0 := Fr.nil n0
  have pre0 : ∀ t, Steps p.tables e below (s₁.setTop (mkF m 0 #[.val (.ref o1), .val (.ref wSTANDALONE), .val (.long v2), .second] [])) t → Steps p.tables e below (s₁.setTop (entryFrame m #[(.ref o1), (.ref wSTANDALONE), (.long v2)] 4)) t := fun t k => castTop (own_ef_1_RRJ m o1 wSTANDALONE v2) k
  obtain ⟨_, _, ⟨T1, L1, k1, n1⟩, -, X1, ⟨Lc1, hQ1, l1, y1, z1⟩, st1⟩ := X0.specialBack hx (y := (⟨"java/lang/Record", "<init>", "()V"⟩ : MethodName)) rfl hown (mvT hZ (hw _ (List.mem_of_getElem? (i := 6) rfl))) (mvT hZ (hw _ (List.mem_of_getElem? (i := 7) rfl))) (mvT hZ (hw _ (List.mem_of_getElem? (i := 10) rfl))) (by decide) (backOf (W := 0) (own_init_1 l Z a0 hw [] wSTANDALONE wLEADER wFOLLOWER G h0 n0 O0 o1 ge_o1 f0_E_o1 f0_F_o1_mode f0_F_o1_lastZxid) hZ (hw _ (List.mem_of_getElem? (i := 10) rfl)) (hw _ (List.mem_of_getElem? (i := 9) rfl)) (by decide) (by decide)) (g := (mkF m 1 #[.val (.ref o1), .val (.ref wSTANDALONE), .val (.long v2), .second] [(.ref o1)])) rfl (by rw [hml]; rfl) (Steps.refl _) (a := o1) (argsL := []) (rest := []) (lenOf own_pd_0 rfl) rfl (by show 2 * 0 + _ ≤ _; exact Nat.le_of_eq rfl) (hb hby own_d1_1) (fun _ _ => ⟨rfl, e0, (by decide : 0 + 0 ≤ _), (by decide : 0 + 0 ≤ _)⟩)
  dsimp only [Pt.U, Pt.locs, Pt.cells, Pt.slots] at X1 l1 y1 z1 st1 hQ1
  subst l1 y1 z1
  obtain ⟨rfl, N1q, e1⟩ := hQ1
  have N1 := Fr.app N0 N1q
  obtain ⟨T2, h2, X2, e2, W2, st2⟩ := putF X1 hx hZ hown (host := "") (Or.inl (hw _ (List.mem_of_getElem? (i := 14) rfl))) Via.refl e1 f0_F_o1_mode f0_E_o1 (Or.inr ⟨(hw _ (List.mem_of_getElem? (i := 15) rfl)), rfl, hnm⟩) (hw _ (List.mem_of_getElem? (i := 1) rfl)) (ty := (.object "com/example/nimble_quorum/nimblequorum/server/ServerStatus$Mode")) (by decide) rfl rfl (g := (mkF m 6 #[.val (.ref o1), .val (.ref wSTANDALONE), .val (.long v2), .second] [(.ref wSTANDALONE), (.ref o1)])) rfl rfl (hb hby own_d1_6)
  have f2_E_o1 := f0_E_o1.wr W2
  have f2_F_o1_mode := f0_F_o1_mode.same W2
  have f2_F_o1_lastZxid := f0_F_o1_lastZxid.other W2 (Or.inr (slot_ne (Or.inr (hw _ (List.mem_of_getElem? (i := 17) rfl))) (Or.inr (hw _ (List.mem_of_getElem? (i := 15) rfl))) (by decide) (t := .long) (t' := (.object "com/example/nimble_quorum/nimblequorum/server/ServerStatus$Mode")) (by decide) (by decide)))
  have O2 := O0.wr W2 ge_o1
  have K2 := (Keep.refl h0 [o1]).wr W2 (Or.inl (List.mem_of_getElem? (i := 0) rfl))
  have N2 := Fr.snoc X2 N1 ge_o1
  obtain ⟨T3, h3, X3, e3, W3, st3⟩ := putF X2 hx hZ hown (host := "") (Or.inl (hw _ (List.mem_of_getElem? (i := 16) rfl))) Via.refl e2 f2_F_o1_lastZxid f2_E_o1 (Or.inr ⟨(hw _ (List.mem_of_getElem? (i := 17) rfl)), rfl, hnm⟩) (hw _ (List.mem_of_getElem? (i := 1) rfl)) (ty := .long) (by decide) rfl rfl (g := (mkF m 11 #[.val (.ref o1), .val (.ref wSTANDALONE), .val (.long v2), .second] [(.long v2), (.ref o1)])) rfl rfl (hb hby own_d1_11)
  have f3_E_o1 := f2_E_o1.wr W3
  have f3_F_o1_mode := f2_F_o1_mode.other W3 (Or.inr (slot_ne (Or.inr (hw _ (List.mem_of_getElem? (i := 15) rfl))) (Or.inr (hw _ (List.mem_of_getElem? (i := 17) rfl))) (by decide) (t := (.object "com/example/nimble_quorum/nimblequorum/server/ServerStatus$Mode")) (t' := .long) (by decide) (by decide)))
  have f3_F_o1_lastZxid := f2_F_o1_lastZxid.same W3
  have O3 := O2.wr W3 ge_o1
  have K3 := K2.wr W3 (Or.inl (List.mem_of_getElem? (i := 0) rfl))
  have N3 := Fr.snoc X3 N2 ge_o1
  obtain ⟨fs, hr, hrun, hended, hW, hsame⟩ := X3.leave (v := none) (fun _ => rfl)
  refine ⟨_, _, pre0 _ ?_, hrun, hended, _, _, rfl, ?_, ⟨_, rfl⟩, hW, hsame.mono (by decide) (by decide)⟩
  · show Steps p.tables e below (s₁.setTop (mkF m 0 #[.val (.ref o1), .val (.ref wSTANDALONE), .val (.long v2), .second] [])) _
    refine XS.aloadN X0.here hx rfl (hb hby own_d1_0) rfl rfl ?_
    show Steps p.tables e below (s₁.setTop (mkF m 1 #[.val (.ref o1), .val (.ref wSTANDALONE), .val (.long v2), .second] [(.ref o1)])) _
    refine st1.trans ?_
    show Steps p.tables e below (T1.setTop (mkF m 4 #[.val (.ref o1), .val (.ref wSTANDALONE), .val (.long v2), .second] [])) _
    refine XS.aloadN X1.here hx rfl (hb hby own_d1_4) rfl rfl ?_
    show Steps p.tables e below (T1.setTop (mkF m 5 #[.val (.ref o1), .val (.ref wSTANDALONE), .val (.long v2), .second] [(.ref o1)])) _
    refine XS.aloadN X1.here hx rfl (hb hby own_d1_5) rfl rfl ?_
    show Steps p.tables e below (T1.setTop (mkF m 6 #[.val (.ref o1), .val (.ref wSTANDALONE), .val (.long v2), .second] [(.ref wSTANDALONE), (.ref o1)])) _
    refine st2 _ ?_
    show Steps p.tables e below (T2.setTop (mkF m 9 #[.val (.ref o1), .val (.ref wSTANDALONE), .val (.long v2), .second] [])) _
    refine XS.aloadN X2.here hx rfl (hb hby own_d1_9) rfl rfl ?_
    show Steps p.tables e below (T2.setTop (mkF m 10 #[.val (.ref o1), .val (.ref wSTANDALONE), .val (.long v2), .second] [(.ref o1)])) _
    refine XS.lloadN X2.here hx rfl (hb hby own_d1_10) rfl ?_
    show Steps p.tables e below (T2.setTop (mkF m 11 #[.val (.ref o1), .val (.ref wSTANDALONE), .val (.long v2), .second] [(.long v2), (.ref o1)])) _
    refine st3 _ ?_
    show Steps p.tables e below (T3.setTop (mkF m 14 #[.val (.ref o1), .val (.ref wSTANDALONE), .val (.long v2), .second] [])) _
    exact X3.returnOut hx Bd.returns (hb hby own_d1_14) hr
  · show OwnQ_own_init_3 Z wSTANDALONE wLEADER wFOLLOWER o1 v2 h0 n0 _ T3.heap _
    rw [e3]
    exact ⟨rfl, N3, K3, f3_E_o1, f3_F_o1_mode, f3_F_o1_lastZxid⟩
theorem own_d4_7 : decode prog_25_method_2_code 7 = .ok (.iconst 1, 1) := by decide +kernel
theorem own_d4_8 : decode prog_25_method_2_code 8 = .ok (.goto 4, 3) := by decide +kernel
set_option maxRecDepth 65536 in
set_option maxHeartbeats 40000000 in
theorem own_opensSessions_4 (l : Launch) (Z : State) (a0 : Array Value) (hw : ∀ d ∈ tables_1, d.before a0 Z = true) (ws : List Jvm.Cond) (wSTANDALONE : Addr) (wLEADER : Addr) (wFOLLOWER : Addr) (G : OwnG Z wSTANDALONE wLEADER wFOLLOWER) (h0 : Heap) (n0 : Nat) (O0 : Old Z n0 h0) (o1 : Addr) (v2 : Int64) (ge_o1 : n0 ≤ o1) (f0_E_o1 : Exa Z h0 o1 "com/example/nimble_quorum/nimblequorum/server/ServerStatus") (f0_F_o1_mode : Fld Z h0 o1 "com/example/nimble_quorum/nimblequorum/server/ServerStatus" "mode" "Lcom/example/nimble_quorum/nimblequorum/server/ServerStatus$Mode;" (.ref wSTANDALONE)) (f0_F_o1_lastZxid : Fld Z h0 o1 "com/example/nimble_quorum/nimblequorum/server/ServerStatus" "lastZxid" "J" (.long v2)) :
    MetFree l (⟨"com/example/nimble_quorum/nimblequorum/server/ServerStatus", "opensSessions", "()Z"⟩ : MethodName) (head1 (Jvm.Cond.code (⟨"com/example/nimble_quorum/nimblequorum/server/ServerStatus", "opensSessions", "()Z"⟩ : MethodName) prog_25_method_2_code 1 (some .boolean) :: ws) ({ frames := 0, cells := 0, slots := 0, locals := 0 } : Room)) (fun a U => a = #[(.ref o1)] ∧ Z.Warmed39 U.vm ∧ U.heap = h0) (fun _ _ _ _ _ => True) (fun _ U o U' => ∃ v L, o = .returned v ∧ OwnQ (some (.int (1 : Int32))) h0 n0 v U'.heap L ∧ FrameEnd U o U' L ({ frames := 0, cells := 0, slots := 0, locals := 0 } : Room).cells ({ frames := 0, cells := 0, slots := 0, locals := 0 } : Room).slots) := by
  refine MetFree.of_bodySF (plainFor_of_name own_pn_1) hisR ?_
  intro p e s m args below meth c s₁ Bd hml0 hP hK
  obtain ⟨rfl, hZ, hh⟩ := hP
  have hx := Bd.exec
  have hby := Bd.bytes
  have hml : c.maxLocals = 1 := hml0
  have hown : s.vm.findClass "com/example/nimble_quorum/nimblequorum/server/ServerStatus" = some m.cls := findClass_of_methodNamed Bd.named
  have hnm := (name_of_methodNamed Bd.named Bd.method).1
  have X0 : Stand p l e ({ frames := 0, cells := 0, slots := 0, locals := 0 } : Room) s m #[(.ref o1)] below meth c s₁ [] 0 0 := Stand.of_body Bd
  have e0 : s₁.heap = h0 := by rw [← hh, Bd.state]; rfl
  have N0 := Fr.nil n0
  have pre0 : ∀ t, Steps p.tables e below (s₁.setTop (mkF m 0 #[.val (.ref o1)] [])) t → Steps p.tables e below (s₁.setTop (entryFrame m #[(.ref o1)] 1)) t := fun t k => castTop (own_ef_4_R m o1) k
  obtain ⟨T1, X1, e1, st1⟩ := getF X0 hx hZ hown (host := "") (Or.inl (hw _ (List.mem_of_getElem? (i := 14) rfl))) Via.refl e0 f0_F_o1_mode (g := (mkF m 1 #[.val (.ref o1)] [(.ref o1)])) rfl rfl (hb hby own_d4_1)
  obtain ⟨fs, hr, hrun, hended, hW, hsame⟩ := X1.leave (v := some (.int (1 : Int32))) (fun h => by rw [Bd.returns] at h; cases h)
  refine ⟨_, _, pre0 _ ?_, hrun, hended, _, _, rfl, ?_, ⟨_, rfl⟩, hW, hsame.mono (by decide) (by decide)⟩
  · show Steps p.tables e below (s₁.setTop (mkF m 0 #[.val (.ref o1)] [])) _
    refine XS.aloadN X0.here hx rfl (hb hby own_d4_0) rfl rfl ?_
    show Steps p.tables e below (s₁.setTop (mkF m 1 #[.val (.ref o1)] [(.ref o1)])) _
    refine st1 _ ?_
    show Steps p.tables e below (T1.setTop (mkF m 4 #[.val (.ref o1)] [(.ref wSTANDALONE)])) _
    refine XS.ifnullNo X1.here hx rfl (hb hby own_d4_4) rfl ?_
    show Steps p.tables e below (T1.setTop (mkF m 7 #[.val (.ref o1)] [])) _
    refine XS.iconst X1.here hx rfl (hb hby own_d4_7) ?_
    show Steps p.tables e below (T1.setTop (mkF m 8 #[.val (.ref o1)] [(.int (1 : Int32))])) _
    refine XS.goto X1.here hx rfl (pc0 := 8) (pc' := 12) rfl (hb hby own_d4_8) (by decide) (by decide) ?_
    show Steps p.tables e below (T1.setTop (mkF m 12 #[.val (.ref o1)] [(.int (1 : Int32))])) _
    exact retN X1 hx (t := .boolean) Bd.returns (by simp) (hb hby own_d4_12) hr
  · show OwnQ _ h0 n0 _ T1.heap _
    exact ⟨rfl, N0, e1⟩
set_option maxRecDepth 65536 in
set_option maxHeartbeats 40000000 in
theorem own_law_1 (l : Launch) (Z : State) (a0 : Array Value) (hw : ∀ d ∈ tables_1, d.before a0 Z = true) (ws : List Jvm.Cond) (wSTANDALONE : Addr) (wLEADER : Addr) (wFOLLOWER : Addr) (G : OwnG Z wSTANDALONE wLEADER wFOLLOWER) (h0 : Heap) (n0 : Nat) (O0 : Old Z n0 h0) (p1 : Int32) (p2 : Int64) (hi : (p1 &&& (3 : Int32)) = (1 : Int32)) :
    MetFree l x (head1 (Jvm.Cond.code x code maxLocals ret :: ws) room_1) (fun a U => a = #[(.int p1), (.long p2)] ∧ Z.Warmed39 U.vm ∧ U.heap = h0) (fun _ _ _ _ _ => True) (fun _ U o U' => ∃ v L, o = .returned v ∧ (v = some (.int 1) ∧ Fr n0 L) ∧ FrameEnd U o U' L room_1.cells room_1.slots) := by
  refine MetFree.of_bodySF (plainFor_of_name own_pn_0) hisR ?_
  intro p e s m args below meth c s₁ Bd hml0 hP hK
  obtain ⟨rfl, hZ, hh⟩ := hP
  have hx := Bd.exec
  have hby := Bd.bytes
  have hml : c.maxLocals = 7 := hml0
  have hown : s.vm.findClass "com/example/nimble_quorum/nimblequorum/server/ServerStatusOpensSessionsPinLaw" = some m.cls := findClass_of_methodNamed Bd.named
  have hnm := (name_of_methodNamed Bd.named Bd.method).1
  have X0 : Stand p l e room_1 s m #[(.int p1), (.long p2)] below meth c s₁ [] 0 0 := Stand.of_body Bd
  have e0 : s₁.heap = h0 := by rw [← hh, Bd.state]; rfl
  have N0 := Fr.nil n0
  have pre0 : ∀ t, Steps p.tables e below (s₁.setTop (mkF m 0 #[.val (.int p1), .val (.long p2), .second, .unset, .unset, .unset, .unset] [])) t → Steps p.tables e below (s₁.setTop (entryFrame m #[(.int p1), (.long p2)] maxLocals)) t := fun t k => castTop (own_ef_0_IJ m p1 p2) k
  obtain ⟨T1, X1, e1, st1⟩ := getS2 X0 hx hZ hown (host := "") (Or.inl (hw _ (List.mem_of_getElem? (i := 23) rfl))) Via.refl e0 (G.1.ext O0.2) (g := (mkF m 12 #[.val (.int p1), .val (.long p2), .second, .val (.int (1 : Int32)), .val .null, .unset, .unset] [])) rfl (hb hby at_12)
  obtain ⟨T2, h2, X2, e2, E2, A2, D2, -, st2⟩ := newO X1 hx hZ hown (hw _ (List.mem_of_getElem? (i := 0) rfl)) (hw _ (List.mem_of_getElem? (i := 1) rfl)) (hw _ (List.mem_of_getElem? (i := 2) rfl)) e1 (g := (mkF m 43 #[.val (.int p1), .val (.long p2), .second, .val (.int (1 : Int32)), .val (.ref wSTANDALONE), .unset, .unset] [])) rfl (hb hby at_43) (by decide) (by decide)
  obtain ⟨b2, g2⟩ : ∃ z, z = h0.size := ⟨_, rfl⟩
  rw [← g2] at A2 D2 st2
  have ge_b2 : n0 ≤ b2 := own_new O0 g2
  have sz_b2 : h0.size ≤ b2 := Nat.le_trans (Keep.refl h0 []).1 (Nat.le_of_eq g2.symm)
  have O2 := O0.ext E2
  have K2 := (Keep.refl h0 []).ext E2
  have F2_mode : Fld Z h2 b2 "com/example/nimble_quorum/nimblequorum/server/ServerStatus" "mode" "Lcom/example/nimble_quorum/nimblequorum/server/ServerStatus$Mode;" .null := D2 (Or.inr (hw _ (List.mem_of_getElem? (i := 15) rfl))) (ty := (.object "com/example/nimble_quorum/nimblequorum/server/ServerStatus$Mode")) (by decide)
  have F2_lastZxid : Fld Z h2 b2 "com/example/nimble_quorum/nimblequorum/server/ServerStatus" "lastZxid" "J" (.long (0 : Int64)) := D2 (Or.inr (hw _ (List.mem_of_getElem? (i := 17) rfl))) (ty := .long) (by decide)
  obtain ⟨_, _, ⟨T3, L3, k3, n3⟩, -, X3, ⟨Lc3, hQ3, l3, y3, z3⟩, st3⟩ := X2.specialBack hx (y := (⟨"com/example/nimble_quorum/nimblequorum/server/ServerStatus", "<init>", "(Lcom/example/nimble_quorum/nimblequorum/server/ServerStatus$Mode;J)V"⟩ : MethodName)) rfl hown (mvT hZ (hw _ (List.mem_of_getElem? (i := 3) rfl))) (mvT hZ (hw _ (List.mem_of_getElem? (i := 4) rfl))) (mvT hZ (hw _ (List.mem_of_getElem? (i := 5) rfl))) (by decide) (backOf (W := 1) (own_init_3 l Z a0 hw [] wSTANDALONE wLEADER wFOLLOWER G h2 n0 O2 b2 p2 ge_b2 A2 F2_mode F2_lastZxid) hZ (hw _ (List.mem_of_getElem? (i := 5) rfl)) (hw _ (List.mem_of_getElem? (i := 2) rfl)) (by decide) (by decide)) (g := (mkF m 50 #[.val (.int p1), .val (.long p2), .second, .val (.int (1 : Int32)), .val (.ref wSTANDALONE), .unset, .unset] [(.long p2), (.ref wSTANDALONE), (.ref b2), (.ref b2)])) rfl (by rw [hml]; rfl) (Steps.refl _) (a := b2) (argsL := [(.ref wSTANDALONE), (.long p2)]) (rest := [(.ref b2)]) (lenOf own_pd_1 rfl) rfl (by show 2 * 0 + _ ≤ _; exact Nat.le_of_eq rfl) (hb hby at_50) (fun _ _ => ⟨rfl, e2, (by decide : 1 + 0 ≤ _), (by decide : 2 + 0 ≤ _)⟩)
  dsimp only [Pt.U, Pt.locs, Pt.cells, Pt.slots] at X3 l3 y3 z3 st3 hQ3
  subst l3 y3 z3
  obtain ⟨rfl, N3q, Kq3, q3_E_o1, q3_F_o1_mode, q3_F_o1_lastZxid⟩ := hQ3
  have N3 := Fr.app N0 N3q
  have f3_E_b2 := A2.keep Kq3
  have O3 := O2.keep Kq3 (allS ge_b2 all0)
  have K3 := K2.trans Kq3 (allS (Or.inr sz_b2) all0)
  obtain ⟨cq4, kq4, q4a, q4b, q4c⟩ := isOf hZ rfl q3_E_o1
  obtain ⟨_, _, ⟨T4, L4, k4, n4⟩, -, X4, ⟨Lc4, hQ4, l4, y4, z4⟩, st4⟩ := X3.virtualBack hx (y := (⟨"com/example/nimble_quorum/nimblequorum/server/ServerStatus", "opensSessions", "()Z"⟩ : MethodName)) (z := (⟨"com/example/nimble_quorum/nimblequorum/server/ServerStatus", "opensSessions", "()Z"⟩ : MethodName)) hown (mvT hZ (hw _ (List.mem_of_getElem? (i := 18) rfl))) (mvT hZ (hw _ (List.mem_of_getElem? (i := 19) rfl))) (notFace_of_selects (args := #[]) (mvT hZ (hw _ (List.mem_of_getElem? (i := 21) rfl)))) (mvT hZ (hw _ (List.mem_of_getElem? (i := 21) rfl))) (mvT hZ (hw _ (List.mem_of_getElem? (i := 20) rfl))) (by decide) (backOf (W := 0) (own_opensSessions_4 l Z a0 hw [] wSTANDALONE wLEADER wFOLLOWER G T3.heap n0 O3 b2 p2 ge_b2 q3_E_o1 q3_F_o1_mode q3_F_o1_lastZxid) hZ (hw _ (List.mem_of_getElem? (i := 22) rfl)) (hw _ (List.mem_of_getElem? (i := 2) rfl)) (by decide) (by decide)) q4a q4c (g := (mkF m 68 #[.val (.int p1), .val (.long p2), .second, .val (.int (1 : Int32)), .val (.ref wSTANDALONE), .val (.ref b2), .val (.int (1 : Int32))] [(.ref b2)])) rfl (by rw [hml]; rfl) (Steps.refl _) (argsL := []) (rest := []) (lenOf own_pd_2 rfl) rfl (by show 2 * 0 + _ ≤ _; exact Nat.le_of_eq rfl) (hb hby at_68) (fun _ _ => ⟨rfl, rfl, (by decide : 1 + 0 ≤ _), (by decide : 2 + 0 ≤ _)⟩)
  dsimp only [Pt.U, Pt.locs, Pt.cells, Pt.slots] at X4 l4 y4 z4 st4 hQ4
  subst l4 y4 z4
  obtain ⟨rfl, N4q, e4⟩ := hQ4
  have N4 := Fr.app N3 N4q
  obtain ⟨fs, hr, hrun, hended, hW, hsame⟩ := X4.leave (v := some (.int (1 : Int32))) (fun h => by rw [Bd.returns] at h; cases h)
  refine ⟨_, _, pre0 _ ?_, hrun, hended, _, _, rfl, ?_, ⟨_, rfl⟩, hW, hsame.mono (by decide) (by decide)⟩
  · show Steps p.tables e below (s₁.setTop (mkF m 0 #[.val (.int p1), .val (.long p2), .second, .unset, .unset, .unset, .unset] [])) _
    refine XS.iloadN X0.here hx rfl (hb hby at_0) rfl ?_
    show Steps p.tables e below (s₁.setTop (mkF m 1 #[.val (.int p1), .val (.long p2), .second, .unset, .unset, .unset, .unset] [(.int p1)])) _
    refine XS.iconst X0.here hx rfl (hb hby at_1) ?_
    show Steps p.tables e below (s₁.setTop (mkF m 2 #[.val (.int p1), .val (.long p2), .second, .unset, .unset, .unset, .unset] [(.int (3 : Int32)), (.int p1)])) _
    refine XS.iand X0.here hx rfl (hb hby at_2) rfl ?_
    show Steps p.tables e below (s₁.setTop (mkF m 3 #[.val (.int p1), .val (.long p2), .second, .unset, .unset, .unset, .unset] [(.int (p1 &&& (3 : Int32)))])) _
    refine castTop (g' := (mkF m 3 #[.val (.int p1), .val (.long p2), .second, .unset, .unset, .unset, .unset] [(.int (1 : Int32))])) (by rw [hi]) ?_
    show Steps p.tables e below (s₁.setTop (mkF m 3 #[.val (.int p1), .val (.long p2), .second, .unset, .unset, .unset, .unset] [(.int (1 : Int32))])) _
    refine XS.istoreN X0.here hx rfl (hb hby at_3) rfl (l' := #[.val (.int p1), .val (.long p2), .second, .val (.int (1 : Int32)), .unset, .unset, .unset]) rfl ?_
    show Steps p.tables e below (s₁.setTop (mkF m 4 #[.val (.int p1), .val (.long p2), .second, .val (.int (1 : Int32)), .unset, .unset, .unset] [])) _
    refine XS.aconstNull X0.here hx rfl (hb hby at_4) ?_
    show Steps p.tables e below (s₁.setTop (mkF m 5 #[.val (.int p1), .val (.long p2), .second, .val (.int (1 : Int32)), .unset, .unset, .unset] [.null])) _
    refine XS.astore X0.here hx rfl (hb hby at_5) rfl rfl (l' := #[.val (.int p1), .val (.long p2), .second, .val (.int (1 : Int32)), .val .null, .unset, .unset]) rfl ?_
    show Steps p.tables e below (s₁.setTop (mkF m 7 #[.val (.int p1), .val (.long p2), .second, .val (.int (1 : Int32)), .val .null, .unset, .unset] [])) _
    refine XS.iloadN X0.here hx rfl (hb hby at_7) rfl ?_
    show Steps p.tables e below (s₁.setTop (mkF m 8 #[.val (.int p1), .val (.long p2), .second, .val (.int (1 : Int32)), .val .null, .unset, .unset] [(.int (1 : Int32))])) _
    refine XS.iconst X0.here hx rfl (hb hby at_8) ?_
    show Steps p.tables e below (s₁.setTop (mkF m 9 #[.val (.int p1), .val (.long p2), .second, .val (.int (1 : Int32)), .val .null, .unset, .unset] [(.int (1 : Int32)), (.int (1 : Int32))])) _
    refine XS.icmpNo X0.here hx rfl (hb hby at_9) rfl (by decide) ?_
    show Steps p.tables e below (s₁.setTop (mkF m 12 #[.val (.int p1), .val (.long p2), .second, .val (.int (1 : Int32)), .val .null, .unset, .unset] [])) _
    refine st1 _ ?_
    show Steps p.tables e below (T1.setTop (mkF m 15 #[.val (.int p1), .val (.long p2), .second, .val (.int (1 : Int32)), .val .null, .unset, .unset] [(.ref wSTANDALONE)])) _
    refine XS.astore X1.here hx rfl (hb hby at_15) rfl rfl (l' := #[.val (.int p1), .val (.long p2), .second, .val (.int (1 : Int32)), .val (.ref wSTANDALONE), .unset, .unset]) rfl ?_
    show Steps p.tables e below (T1.setTop (mkF m 17 #[.val (.int p1), .val (.long p2), .second, .val (.int (1 : Int32)), .val (.ref wSTANDALONE), .unset, .unset] [])) _
    refine XS.goto X1.here hx rfl (pc0 := 17) (pc' := 43) rfl (hb hby at_17) (by decide) (by decide) ?_
    show Steps p.tables e below (T1.setTop (mkF m 43 #[.val (.int p1), .val (.long p2), .second, .val (.int (1 : Int32)), .val (.ref wSTANDALONE), .unset, .unset] [])) _
    refine st2 _ ?_
    show Steps p.tables e below (T2.setTop (mkF m 46 #[.val (.int p1), .val (.long p2), .second, .val (.int (1 : Int32)), .val (.ref wSTANDALONE), .unset, .unset] [(.ref b2)])) _
    refine XS.dup X2.here hx rfl (hb hby at_46) rfl rfl ?_
    show Steps p.tables e below (T2.setTop (mkF m 47 #[.val (.int p1), .val (.long p2), .second, .val (.int (1 : Int32)), .val (.ref wSTANDALONE), .unset, .unset] [(.ref b2), (.ref b2)])) _
    refine XS.aload X2.here hx rfl (hb hby at_47) rfl rfl ?_
    show Steps p.tables e below (T2.setTop (mkF m 49 #[.val (.int p1), .val (.long p2), .second, .val (.int (1 : Int32)), .val (.ref wSTANDALONE), .unset, .unset] [(.ref wSTANDALONE), (.ref b2), (.ref b2)])) _
    refine XS.lloadN X2.here hx rfl (hb hby at_49) rfl ?_
    show Steps p.tables e below (T2.setTop (mkF m 50 #[.val (.int p1), .val (.long p2), .second, .val (.int (1 : Int32)), .val (.ref wSTANDALONE), .unset, .unset] [(.long p2), (.ref wSTANDALONE), (.ref b2), (.ref b2)])) _
    refine st3.trans ?_
    show Steps p.tables e below (T3.setTop (mkF m 53 #[.val (.int p1), .val (.long p2), .second, .val (.int (1 : Int32)), .val (.ref wSTANDALONE), .unset, .unset] [(.ref b2)])) _
    refine XS.astore X3.here hx rfl (hb hby at_53) rfl rfl (l' := #[.val (.int p1), .val (.long p2), .second, .val (.int (1 : Int32)), .val (.ref wSTANDALONE), .val (.ref b2), .unset]) rfl ?_
    show Steps p.tables e below (T3.setTop (mkF m 55 #[.val (.int p1), .val (.long p2), .second, .val (.int (1 : Int32)), .val (.ref wSTANDALONE), .val (.ref b2), .unset] [])) _
    refine XS.iloadN X3.here hx rfl (hb hby at_55) rfl ?_
    show Steps p.tables e below (T3.setTop (mkF m 56 #[.val (.int p1), .val (.long p2), .second, .val (.int (1 : Int32)), .val (.ref wSTANDALONE), .val (.ref b2), .unset] [(.int (1 : Int32))])) _
    refine XS.ifNo X3.here hx rfl (hb hby at_56) rfl (by decide) ?_
    show Steps p.tables e below (T3.setTop (mkF m 59 #[.val (.int p1), .val (.long p2), .second, .val (.int (1 : Int32)), .val (.ref wSTANDALONE), .val (.ref b2), .unset] [])) _
    refine XS.iconst X3.here hx rfl (hb hby at_59) ?_
    show Steps p.tables e below (T3.setTop (mkF m 60 #[.val (.int p1), .val (.long p2), .second, .val (.int (1 : Int32)), .val (.ref wSTANDALONE), .val (.ref b2), .unset] [(.int (1 : Int32))])) _
    refine XS.goto X3.here hx rfl (pc0 := 60) (pc' := 64) rfl (hb hby at_60) (by decide) (by decide) ?_
    show Steps p.tables e below (T3.setTop (mkF m 64 #[.val (.int p1), .val (.long p2), .second, .val (.int (1 : Int32)), .val (.ref wSTANDALONE), .val (.ref b2), .unset] [(.int (1 : Int32))])) _
    refine XS.istore X3.here hx rfl (hb hby at_64) rfl (l' := #[.val (.int p1), .val (.long p2), .second, .val (.int (1 : Int32)), .val (.ref wSTANDALONE), .val (.ref b2), .val (.int (1 : Int32))]) rfl ?_
    show Steps p.tables e below (T3.setTop (mkF m 66 #[.val (.int p1), .val (.long p2), .second, .val (.int (1 : Int32)), .val (.ref wSTANDALONE), .val (.ref b2), .val (.int (1 : Int32))] [])) _
    refine XS.aload X3.here hx rfl (hb hby at_66) rfl rfl ?_
    show Steps p.tables e below (T3.setTop (mkF m 68 #[.val (.int p1), .val (.long p2), .second, .val (.int (1 : Int32)), .val (.ref wSTANDALONE), .val (.ref b2), .val (.int (1 : Int32))] [(.ref b2)])) _
    refine st4.trans ?_
    show Steps p.tables e below (T4.setTop (mkF m 71 #[.val (.int p1), .val (.long p2), .second, .val (.int (1 : Int32)), .val (.ref wSTANDALONE), .val (.ref b2), .val (.int (1 : Int32))] [(.int (1 : Int32))])) _
    refine XS.iload X4.here hx rfl (hb hby at_71) rfl ?_
    show Steps p.tables e below (T4.setTop (mkF m 73 #[.val (.int p1), .val (.long p2), .second, .val (.int (1 : Int32)), .val (.ref wSTANDALONE), .val (.ref b2), .val (.int (1 : Int32))] [(.int (1 : Int32)), (.int (1 : Int32))])) _
    refine XS.icmpNo X4.here hx rfl (hb hby at_73) rfl (by decide) ?_
    show Steps p.tables e below (T4.setTop (mkF m 76 #[.val (.int p1), .val (.long p2), .second, .val (.int (1 : Int32)), .val (.ref wSTANDALONE), .val (.ref b2), .val (.int (1 : Int32))] [])) _
    refine XS.iconst X4.here hx rfl (hb hby at_76) ?_
    show Steps p.tables e below (T4.setTop (mkF m 77 #[.val (.int p1), .val (.long p2), .second, .val (.int (1 : Int32)), .val (.ref wSTANDALONE), .val (.ref b2), .val (.int (1 : Int32))] [(.int (1 : Int32))])) _
    refine XS.goto X4.here hx rfl (pc0 := 77) (pc' := 81) rfl (hb hby at_77) (by decide) (by decide) ?_
    show Steps p.tables e below (T4.setTop (mkF m 81 #[.val (.int p1), .val (.long p2), .second, .val (.int (1 : Int32)), .val (.ref wSTANDALONE), .val (.ref b2), .val (.int (1 : Int32))] [(.int (1 : Int32))])) _
    exact retN X4 hx (t := .boolean) Bd.returns (by simp) (hb hby at_81) hr
  · exact ⟨rfl, N4⟩
def OwnQ_own_init_5 (Z : State) (wSTANDALONE : Addr) (wLEADER : Addr) (wFOLLOWER : Addr) (o1 : Addr) (v2 : Int64) (h0 : Heap) (n0 : Nat) (v : Option Value) (h : Heap) (L : List Loc) : Prop :=
  v = none ∧ Fr n0 L ∧ Keep h0 h [o1] ∧ Exa Z h o1 "com/example/nimble_quorum/nimblequorum/server/ServerStatus" ∧ Fld Z h o1 "com/example/nimble_quorum/nimblequorum/server/ServerStatus" "mode" "Lcom/example/nimble_quorum/nimblequorum/server/ServerStatus$Mode;" (.ref wLEADER) ∧ Fld Z h o1 "com/example/nimble_quorum/nimblequorum/server/ServerStatus" "lastZxid" "J" (.long v2)
set_option maxRecDepth 65536 in
set_option maxHeartbeats 40000000 in
theorem own_init_5 (l : Launch) (Z : State) (a0 : Array Value) (hw : ∀ d ∈ tables_1, d.before a0 Z = true) (ws : List Jvm.Cond) (wSTANDALONE : Addr) (wLEADER : Addr) (wFOLLOWER : Addr) (G : OwnG Z wSTANDALONE wLEADER wFOLLOWER) (h0 : Heap) (n0 : Nat) (O0 : Old Z n0 h0) (o1 : Addr) (v2 : Int64) (ge_o1 : n0 ≤ o1) (f0_E_o1 : Exa Z h0 o1 "com/example/nimble_quorum/nimblequorum/server/ServerStatus") (f0_F_o1_mode : Fld Z h0 o1 "com/example/nimble_quorum/nimblequorum/server/ServerStatus" "mode" "Lcom/example/nimble_quorum/nimblequorum/server/ServerStatus$Mode;" .null) (f0_F_o1_lastZxid : Fld Z h0 o1 "com/example/nimble_quorum/nimblequorum/server/ServerStatus" "lastZxid" "J" (.long (0 : Int64))) :
    MetFree l (⟨"com/example/nimble_quorum/nimblequorum/server/ServerStatus", "<init>", "(Lcom/example/nimble_quorum/nimblequorum/server/ServerStatus$Mode;J)V"⟩ : MethodName) (head1 (Jvm.Cond.code (⟨"com/example/nimble_quorum/nimblequorum/server/ServerStatus", "<init>", "(Lcom/example/nimble_quorum/nimblequorum/server/ServerStatus$Mode;J)V"⟩ : MethodName) prog_25_method_1_code 4 none :: ws) ({ frames := 2, cells := 0, slots := 0, locals := 24 } : Room)) (fun a U => a = #[(.ref o1), (.ref wLEADER), (.long v2)] ∧ Z.Warmed39 U.vm ∧ U.heap = h0) (fun _ _ _ _ _ => True) (fun _ U o U' => ∃ v L, o = .returned v ∧ OwnQ_own_init_5 Z wSTANDALONE wLEADER wFOLLOWER o1 v2 h0 n0 v U'.heap L ∧ FrameEnd U o U' L ({ frames := 2, cells := 0, slots := 0, locals := 24 } : Room).cells ({ frames := 2, cells := 0, slots := 0, locals := 24 } : Room).slots) := by
  refine MetFree.of_bodySF (plainFor_of_name own_pn_1) hisR ?_
  intro p e s m args below meth c s₁ Bd hml0 hP hK
  obtain ⟨rfl, hZ, hh⟩ := hP
  have hx := Bd.exec
  have hby := Bd.bytes
  have hml : c.maxLocals = 4 := hml0
  have hown : s.vm.findClass "com/example/nimble_quorum/nimblequorum/server/ServerStatus" = some m.cls := findClass_of_methodNamed Bd.named
  have hnm := (name_of_methodNamed Bd.named Bd.method).1
  have X0 : Stand p l e ({ frames := 2, cells := 0, slots := 0, locals := 24 } : Room) s m #[(.ref o1), (.ref wLEADER), (.long v2)] below meth c s₁ [] 0 0 := Stand.of_body Bd
  have e0 : s₁.heap = h0 := by rw [← hh, Bd.state]; rfl
  have N0 := Fr.nil n0
  have pre0 : ∀ t, Steps p.tables e below (s₁.setTop (mkF m 0 #[.val (.ref o1), .val (.ref wLEADER), .val (.long v2), .second] [])) t → Steps p.tables e below (s₁.setTop (entryFrame m #[(.ref o1), (.ref wLEADER), (.long v2)] 4)) t := fun t k => castTop (own_ef_1_RRJ m o1 wLEADER v2) k
  obtain ⟨_, _, ⟨T1, L1, k1, n1⟩, -, X1, ⟨Lc1, hQ1, l1, y1, z1⟩, st1⟩ := X0.specialBack hx (y := (⟨"java/lang/Record", "<init>", "()V"⟩ : MethodName)) rfl hown (mvT hZ (hw _ (List.mem_of_getElem? (i := 6) rfl))) (mvT hZ (hw _ (List.mem_of_getElem? (i := 7) rfl))) (mvT hZ (hw _ (List.mem_of_getElem? (i := 10) rfl))) (by decide) (backOf (W := 0) (own_init_1 l Z a0 hw [] wSTANDALONE wLEADER wFOLLOWER G h0 n0 O0 o1 ge_o1 f0_E_o1 f0_F_o1_mode f0_F_o1_lastZxid) hZ (hw _ (List.mem_of_getElem? (i := 10) rfl)) (hw _ (List.mem_of_getElem? (i := 9) rfl)) (by decide) (by decide)) (g := (mkF m 1 #[.val (.ref o1), .val (.ref wLEADER), .val (.long v2), .second] [(.ref o1)])) rfl (by rw [hml]; rfl) (Steps.refl _) (a := o1) (argsL := []) (rest := []) (lenOf own_pd_0 rfl) rfl (by show 2 * 0 + _ ≤ _; exact Nat.le_of_eq rfl) (hb hby own_d1_1) (fun _ _ => ⟨rfl, e0, (by decide : 0 + 0 ≤ _), (by decide : 0 + 0 ≤ _)⟩)
  dsimp only [Pt.U, Pt.locs, Pt.cells, Pt.slots] at X1 l1 y1 z1 st1 hQ1
  subst l1 y1 z1
  obtain ⟨rfl, N1q, e1⟩ := hQ1
  have N1 := Fr.app N0 N1q
  obtain ⟨T2, h2, X2, e2, W2, st2⟩ := putF X1 hx hZ hown (host := "") (Or.inl (hw _ (List.mem_of_getElem? (i := 14) rfl))) Via.refl e1 f0_F_o1_mode f0_E_o1 (Or.inr ⟨(hw _ (List.mem_of_getElem? (i := 15) rfl)), rfl, hnm⟩) (hw _ (List.mem_of_getElem? (i := 1) rfl)) (ty := (.object "com/example/nimble_quorum/nimblequorum/server/ServerStatus$Mode")) (by decide) rfl rfl (g := (mkF m 6 #[.val (.ref o1), .val (.ref wLEADER), .val (.long v2), .second] [(.ref wLEADER), (.ref o1)])) rfl rfl (hb hby own_d1_6)
  have f2_E_o1 := f0_E_o1.wr W2
  have f2_F_o1_mode := f0_F_o1_mode.same W2
  have f2_F_o1_lastZxid := f0_F_o1_lastZxid.other W2 (Or.inr (slot_ne (Or.inr (hw _ (List.mem_of_getElem? (i := 17) rfl))) (Or.inr (hw _ (List.mem_of_getElem? (i := 15) rfl))) (by decide) (t := .long) (t' := (.object "com/example/nimble_quorum/nimblequorum/server/ServerStatus$Mode")) (by decide) (by decide)))
  have O2 := O0.wr W2 ge_o1
  have K2 := (Keep.refl h0 [o1]).wr W2 (Or.inl (List.mem_of_getElem? (i := 0) rfl))
  have N2 := Fr.snoc X2 N1 ge_o1
  obtain ⟨T3, h3, X3, e3, W3, st3⟩ := putF X2 hx hZ hown (host := "") (Or.inl (hw _ (List.mem_of_getElem? (i := 16) rfl))) Via.refl e2 f2_F_o1_lastZxid f2_E_o1 (Or.inr ⟨(hw _ (List.mem_of_getElem? (i := 17) rfl)), rfl, hnm⟩) (hw _ (List.mem_of_getElem? (i := 1) rfl)) (ty := .long) (by decide) rfl rfl (g := (mkF m 11 #[.val (.ref o1), .val (.ref wLEADER), .val (.long v2), .second] [(.long v2), (.ref o1)])) rfl rfl (hb hby own_d1_11)
  have f3_E_o1 := f2_E_o1.wr W3
  have f3_F_o1_mode := f2_F_o1_mode.other W3 (Or.inr (slot_ne (Or.inr (hw _ (List.mem_of_getElem? (i := 15) rfl))) (Or.inr (hw _ (List.mem_of_getElem? (i := 17) rfl))) (by decide) (t := (.object "com/example/nimble_quorum/nimblequorum/server/ServerStatus$Mode")) (t' := .long) (by decide) (by decide)))
  have f3_F_o1_lastZxid := f2_F_o1_lastZxid.same W3
  have O3 := O2.wr W3 ge_o1
  have K3 := K2.wr W3 (Or.inl (List.mem_of_getElem? (i := 0) rfl))
  have N3 := Fr.snoc X3 N2 ge_o1
  obtain ⟨fs, hr, hrun, hended, hW, hsame⟩ := X3.leave (v := none) (fun _ => rfl)
  refine ⟨_, _, pre0 _ ?_, hrun, hended, _, _, rfl, ?_, ⟨_, rfl⟩, hW, hsame.mono (by decide) (by decide)⟩
  · show Steps p.tables e below (s₁.setTop (mkF m 0 #[.val (.ref o1), .val (.ref wLEADER), .val (.long v2), .second] [])) _
    refine XS.aloadN X0.here hx rfl (hb hby own_d1_0) rfl rfl ?_
    show Steps p.tables e below (s₁.setTop (mkF m 1 #[.val (.ref o1), .val (.ref wLEADER), .val (.long v2), .second] [(.ref o1)])) _
    refine st1.trans ?_
    show Steps p.tables e below (T1.setTop (mkF m 4 #[.val (.ref o1), .val (.ref wLEADER), .val (.long v2), .second] [])) _
    refine XS.aloadN X1.here hx rfl (hb hby own_d1_4) rfl rfl ?_
    show Steps p.tables e below (T1.setTop (mkF m 5 #[.val (.ref o1), .val (.ref wLEADER), .val (.long v2), .second] [(.ref o1)])) _
    refine XS.aloadN X1.here hx rfl (hb hby own_d1_5) rfl rfl ?_
    show Steps p.tables e below (T1.setTop (mkF m 6 #[.val (.ref o1), .val (.ref wLEADER), .val (.long v2), .second] [(.ref wLEADER), (.ref o1)])) _
    refine st2 _ ?_
    show Steps p.tables e below (T2.setTop (mkF m 9 #[.val (.ref o1), .val (.ref wLEADER), .val (.long v2), .second] [])) _
    refine XS.aloadN X2.here hx rfl (hb hby own_d1_9) rfl rfl ?_
    show Steps p.tables e below (T2.setTop (mkF m 10 #[.val (.ref o1), .val (.ref wLEADER), .val (.long v2), .second] [(.ref o1)])) _
    refine XS.lloadN X2.here hx rfl (hb hby own_d1_10) rfl ?_
    show Steps p.tables e below (T2.setTop (mkF m 11 #[.val (.ref o1), .val (.ref wLEADER), .val (.long v2), .second] [(.long v2), (.ref o1)])) _
    refine st3 _ ?_
    show Steps p.tables e below (T3.setTop (mkF m 14 #[.val (.ref o1), .val (.ref wLEADER), .val (.long v2), .second] [])) _
    exact X3.returnOut hx Bd.returns (hb hby own_d1_14) hr
  · show OwnQ_own_init_5 Z wSTANDALONE wLEADER wFOLLOWER o1 v2 h0 n0 _ T3.heap _
    rw [e3]
    exact ⟨rfl, N3, K3, f3_E_o1, f3_F_o1_mode, f3_F_o1_lastZxid⟩
set_option maxRecDepth 65536 in
set_option maxHeartbeats 40000000 in
theorem own_opensSessions_6 (l : Launch) (Z : State) (a0 : Array Value) (hw : ∀ d ∈ tables_1, d.before a0 Z = true) (ws : List Jvm.Cond) (wSTANDALONE : Addr) (wLEADER : Addr) (wFOLLOWER : Addr) (G : OwnG Z wSTANDALONE wLEADER wFOLLOWER) (h0 : Heap) (n0 : Nat) (O0 : Old Z n0 h0) (o1 : Addr) (v2 : Int64) (ge_o1 : n0 ≤ o1) (f0_E_o1 : Exa Z h0 o1 "com/example/nimble_quorum/nimblequorum/server/ServerStatus") (f0_F_o1_mode : Fld Z h0 o1 "com/example/nimble_quorum/nimblequorum/server/ServerStatus" "mode" "Lcom/example/nimble_quorum/nimblequorum/server/ServerStatus$Mode;" (.ref wLEADER)) (f0_F_o1_lastZxid : Fld Z h0 o1 "com/example/nimble_quorum/nimblequorum/server/ServerStatus" "lastZxid" "J" (.long v2)) :
    MetFree l (⟨"com/example/nimble_quorum/nimblequorum/server/ServerStatus", "opensSessions", "()Z"⟩ : MethodName) (head1 (Jvm.Cond.code (⟨"com/example/nimble_quorum/nimblequorum/server/ServerStatus", "opensSessions", "()Z"⟩ : MethodName) prog_25_method_2_code 1 (some .boolean) :: ws) ({ frames := 0, cells := 0, slots := 0, locals := 0 } : Room)) (fun a U => a = #[(.ref o1)] ∧ Z.Warmed39 U.vm ∧ U.heap = h0) (fun _ _ _ _ _ => True) (fun _ U o U' => ∃ v L, o = .returned v ∧ OwnQ (some (.int (1 : Int32))) h0 n0 v U'.heap L ∧ FrameEnd U o U' L ({ frames := 0, cells := 0, slots := 0, locals := 0 } : Room).cells ({ frames := 0, cells := 0, slots := 0, locals := 0 } : Room).slots) := by
  refine MetFree.of_bodySF (plainFor_of_name own_pn_1) hisR ?_
  intro p e s m args below meth c s₁ Bd hml0 hP hK
  obtain ⟨rfl, hZ, hh⟩ := hP
  have hx := Bd.exec
  have hby := Bd.bytes
  have hml : c.maxLocals = 1 := hml0
  have hown : s.vm.findClass "com/example/nimble_quorum/nimblequorum/server/ServerStatus" = some m.cls := findClass_of_methodNamed Bd.named
  have hnm := (name_of_methodNamed Bd.named Bd.method).1
  have X0 : Stand p l e ({ frames := 0, cells := 0, slots := 0, locals := 0 } : Room) s m #[(.ref o1)] below meth c s₁ [] 0 0 := Stand.of_body Bd
  have e0 : s₁.heap = h0 := by rw [← hh, Bd.state]; rfl
  have N0 := Fr.nil n0
  have pre0 : ∀ t, Steps p.tables e below (s₁.setTop (mkF m 0 #[.val (.ref o1)] [])) t → Steps p.tables e below (s₁.setTop (entryFrame m #[(.ref o1)] 1)) t := fun t k => castTop (own_ef_4_R m o1) k
  obtain ⟨T1, X1, e1, st1⟩ := getF X0 hx hZ hown (host := "") (Or.inl (hw _ (List.mem_of_getElem? (i := 14) rfl))) Via.refl e0 f0_F_o1_mode (g := (mkF m 1 #[.val (.ref o1)] [(.ref o1)])) rfl rfl (hb hby own_d4_1)
  obtain ⟨fs, hr, hrun, hended, hW, hsame⟩ := X1.leave (v := some (.int (1 : Int32))) (fun h => by rw [Bd.returns] at h; cases h)
  refine ⟨_, _, pre0 _ ?_, hrun, hended, _, _, rfl, ?_, ⟨_, rfl⟩, hW, hsame.mono (by decide) (by decide)⟩
  · show Steps p.tables e below (s₁.setTop (mkF m 0 #[.val (.ref o1)] [])) _
    refine XS.aloadN X0.here hx rfl (hb hby own_d4_0) rfl rfl ?_
    show Steps p.tables e below (s₁.setTop (mkF m 1 #[.val (.ref o1)] [(.ref o1)])) _
    refine st1 _ ?_
    show Steps p.tables e below (T1.setTop (mkF m 4 #[.val (.ref o1)] [(.ref wLEADER)])) _
    refine XS.ifnullNo X1.here hx rfl (hb hby own_d4_4) rfl ?_
    show Steps p.tables e below (T1.setTop (mkF m 7 #[.val (.ref o1)] [])) _
    refine XS.iconst X1.here hx rfl (hb hby own_d4_7) ?_
    show Steps p.tables e below (T1.setTop (mkF m 8 #[.val (.ref o1)] [(.int (1 : Int32))])) _
    refine XS.goto X1.here hx rfl (pc0 := 8) (pc' := 12) rfl (hb hby own_d4_8) (by decide) (by decide) ?_
    show Steps p.tables e below (T1.setTop (mkF m 12 #[.val (.ref o1)] [(.int (1 : Int32))])) _
    exact retN X1 hx (t := .boolean) Bd.returns (by simp) (hb hby own_d4_12) hr
  · show OwnQ _ h0 n0 _ T1.heap _
    exact ⟨rfl, N0, e1⟩
set_option maxRecDepth 65536 in
set_option maxHeartbeats 40000000 in
theorem own_law_2 (l : Launch) (Z : State) (a0 : Array Value) (hw : ∀ d ∈ tables_1, d.before a0 Z = true) (ws : List Jvm.Cond) (wSTANDALONE : Addr) (wLEADER : Addr) (wFOLLOWER : Addr) (G : OwnG Z wSTANDALONE wLEADER wFOLLOWER) (h0 : Heap) (n0 : Nat) (O0 : Old Z n0 h0) (p1 : Int32) (p2 : Int64) (hi : (p1 &&& (3 : Int32)) = (2 : Int32)) :
    MetFree l x (head1 (Jvm.Cond.code x code maxLocals ret :: ws) room_1) (fun a U => a = #[(.int p1), (.long p2)] ∧ Z.Warmed39 U.vm ∧ U.heap = h0) (fun _ _ _ _ _ => True) (fun _ U o U' => ∃ v L, o = .returned v ∧ (v = some (.int 1) ∧ Fr n0 L) ∧ FrameEnd U o U' L room_1.cells room_1.slots) := by
  refine MetFree.of_bodySF (plainFor_of_name own_pn_0) hisR ?_
  intro p e s m args below meth c s₁ Bd hml0 hP hK
  obtain ⟨rfl, hZ, hh⟩ := hP
  have hx := Bd.exec
  have hby := Bd.bytes
  have hml : c.maxLocals = 7 := hml0
  have hown : s.vm.findClass "com/example/nimble_quorum/nimblequorum/server/ServerStatusOpensSessionsPinLaw" = some m.cls := findClass_of_methodNamed Bd.named
  have hnm := (name_of_methodNamed Bd.named Bd.method).1
  have X0 : Stand p l e room_1 s m #[(.int p1), (.long p2)] below meth c s₁ [] 0 0 := Stand.of_body Bd
  have e0 : s₁.heap = h0 := by rw [← hh, Bd.state]; rfl
  have N0 := Fr.nil n0
  have pre0 : ∀ t, Steps p.tables e below (s₁.setTop (mkF m 0 #[.val (.int p1), .val (.long p2), .second, .unset, .unset, .unset, .unset] [])) t → Steps p.tables e below (s₁.setTop (entryFrame m #[(.int p1), (.long p2)] maxLocals)) t := fun t k => castTop (own_ef_0_IJ m p1 p2) k
  obtain ⟨T1, X1, e1, st1⟩ := getS2 X0 hx hZ hown (host := "") (Or.inl (hw _ (List.mem_of_getElem? (i := 26) rfl))) Via.refl e0 (G.2.2.1.ext O0.2) (g := (mkF m 25 #[.val (.int p1), .val (.long p2), .second, .val (.int (2 : Int32)), .val .null, .unset, .unset] [])) rfl (hb hby at_25)
  obtain ⟨T2, h2, X2, e2, E2, A2, D2, -, st2⟩ := newO X1 hx hZ hown (hw _ (List.mem_of_getElem? (i := 0) rfl)) (hw _ (List.mem_of_getElem? (i := 1) rfl)) (hw _ (List.mem_of_getElem? (i := 2) rfl)) e1 (g := (mkF m 43 #[.val (.int p1), .val (.long p2), .second, .val (.int (2 : Int32)), .val (.ref wLEADER), .unset, .unset] [])) rfl (hb hby at_43) (by decide) (by decide)
  obtain ⟨b2, g2⟩ : ∃ z, z = h0.size := ⟨_, rfl⟩
  rw [← g2] at A2 D2 st2
  have ge_b2 : n0 ≤ b2 := own_new O0 g2
  have sz_b2 : h0.size ≤ b2 := Nat.le_trans (Keep.refl h0 []).1 (Nat.le_of_eq g2.symm)
  have O2 := O0.ext E2
  have K2 := (Keep.refl h0 []).ext E2
  have F2_mode : Fld Z h2 b2 "com/example/nimble_quorum/nimblequorum/server/ServerStatus" "mode" "Lcom/example/nimble_quorum/nimblequorum/server/ServerStatus$Mode;" .null := D2 (Or.inr (hw _ (List.mem_of_getElem? (i := 15) rfl))) (ty := (.object "com/example/nimble_quorum/nimblequorum/server/ServerStatus$Mode")) (by decide)
  have F2_lastZxid : Fld Z h2 b2 "com/example/nimble_quorum/nimblequorum/server/ServerStatus" "lastZxid" "J" (.long (0 : Int64)) := D2 (Or.inr (hw _ (List.mem_of_getElem? (i := 17) rfl))) (ty := .long) (by decide)
  obtain ⟨_, _, ⟨T3, L3, k3, n3⟩, -, X3, ⟨Lc3, hQ3, l3, y3, z3⟩, st3⟩ := X2.specialBack hx (y := (⟨"com/example/nimble_quorum/nimblequorum/server/ServerStatus", "<init>", "(Lcom/example/nimble_quorum/nimblequorum/server/ServerStatus$Mode;J)V"⟩ : MethodName)) rfl hown (mvT hZ (hw _ (List.mem_of_getElem? (i := 3) rfl))) (mvT hZ (hw _ (List.mem_of_getElem? (i := 4) rfl))) (mvT hZ (hw _ (List.mem_of_getElem? (i := 5) rfl))) (by decide) (backOf (W := 1) (own_init_5 l Z a0 hw [] wSTANDALONE wLEADER wFOLLOWER G h2 n0 O2 b2 p2 ge_b2 A2 F2_mode F2_lastZxid) hZ (hw _ (List.mem_of_getElem? (i := 5) rfl)) (hw _ (List.mem_of_getElem? (i := 2) rfl)) (by decide) (by decide)) (g := (mkF m 50 #[.val (.int p1), .val (.long p2), .second, .val (.int (2 : Int32)), .val (.ref wLEADER), .unset, .unset] [(.long p2), (.ref wLEADER), (.ref b2), (.ref b2)])) rfl (by rw [hml]; rfl) (Steps.refl _) (a := b2) (argsL := [(.ref wLEADER), (.long p2)]) (rest := [(.ref b2)]) (lenOf own_pd_1 rfl) rfl (by show 2 * 0 + _ ≤ _; exact Nat.le_of_eq rfl) (hb hby at_50) (fun _ _ => ⟨rfl, e2, (by decide : 1 + 0 ≤ _), (by decide : 2 + 0 ≤ _)⟩)
  dsimp only [Pt.U, Pt.locs, Pt.cells, Pt.slots] at X3 l3 y3 z3 st3 hQ3
  subst l3 y3 z3
  obtain ⟨rfl, N3q, Kq3, q3_E_o1, q3_F_o1_mode, q3_F_o1_lastZxid⟩ := hQ3
  have N3 := Fr.app N0 N3q
  have f3_E_b2 := A2.keep Kq3
  have O3 := O2.keep Kq3 (allS ge_b2 all0)
  have K3 := K2.trans Kq3 (allS (Or.inr sz_b2) all0)
  obtain ⟨cq4, kq4, q4a, q4b, q4c⟩ := isOf hZ rfl q3_E_o1
  obtain ⟨_, _, ⟨T4, L4, k4, n4⟩, -, X4, ⟨Lc4, hQ4, l4, y4, z4⟩, st4⟩ := X3.virtualBack hx (y := (⟨"com/example/nimble_quorum/nimblequorum/server/ServerStatus", "opensSessions", "()Z"⟩ : MethodName)) (z := (⟨"com/example/nimble_quorum/nimblequorum/server/ServerStatus", "opensSessions", "()Z"⟩ : MethodName)) hown (mvT hZ (hw _ (List.mem_of_getElem? (i := 18) rfl))) (mvT hZ (hw _ (List.mem_of_getElem? (i := 19) rfl))) (notFace_of_selects (args := #[]) (mvT hZ (hw _ (List.mem_of_getElem? (i := 21) rfl)))) (mvT hZ (hw _ (List.mem_of_getElem? (i := 21) rfl))) (mvT hZ (hw _ (List.mem_of_getElem? (i := 20) rfl))) (by decide) (backOf (W := 0) (own_opensSessions_6 l Z a0 hw [] wSTANDALONE wLEADER wFOLLOWER G T3.heap n0 O3 b2 p2 ge_b2 q3_E_o1 q3_F_o1_mode q3_F_o1_lastZxid) hZ (hw _ (List.mem_of_getElem? (i := 22) rfl)) (hw _ (List.mem_of_getElem? (i := 2) rfl)) (by decide) (by decide)) q4a q4c (g := (mkF m 68 #[.val (.int p1), .val (.long p2), .second, .val (.int (2 : Int32)), .val (.ref wLEADER), .val (.ref b2), .val (.int (1 : Int32))] [(.ref b2)])) rfl (by rw [hml]; rfl) (Steps.refl _) (argsL := []) (rest := []) (lenOf own_pd_2 rfl) rfl (by show 2 * 0 + _ ≤ _; exact Nat.le_of_eq rfl) (hb hby at_68) (fun _ _ => ⟨rfl, rfl, (by decide : 1 + 0 ≤ _), (by decide : 2 + 0 ≤ _)⟩)
  dsimp only [Pt.U, Pt.locs, Pt.cells, Pt.slots] at X4 l4 y4 z4 st4 hQ4
  subst l4 y4 z4
  obtain ⟨rfl, N4q, e4⟩ := hQ4
  have N4 := Fr.app N3 N4q
  obtain ⟨fs, hr, hrun, hended, hW, hsame⟩ := X4.leave (v := some (.int (1 : Int32))) (fun h => by rw [Bd.returns] at h; cases h)
  refine ⟨_, _, pre0 _ ?_, hrun, hended, _, _, rfl, ?_, ⟨_, rfl⟩, hW, hsame.mono (by decide) (by decide)⟩
  · show Steps p.tables e below (s₁.setTop (mkF m 0 #[.val (.int p1), .val (.long p2), .second, .unset, .unset, .unset, .unset] [])) _
    refine XS.iloadN X0.here hx rfl (hb hby at_0) rfl ?_
    show Steps p.tables e below (s₁.setTop (mkF m 1 #[.val (.int p1), .val (.long p2), .second, .unset, .unset, .unset, .unset] [(.int p1)])) _
    refine XS.iconst X0.here hx rfl (hb hby at_1) ?_
    show Steps p.tables e below (s₁.setTop (mkF m 2 #[.val (.int p1), .val (.long p2), .second, .unset, .unset, .unset, .unset] [(.int (3 : Int32)), (.int p1)])) _
    refine XS.iand X0.here hx rfl (hb hby at_2) rfl ?_
    show Steps p.tables e below (s₁.setTop (mkF m 3 #[.val (.int p1), .val (.long p2), .second, .unset, .unset, .unset, .unset] [(.int (p1 &&& (3 : Int32)))])) _
    refine castTop (g' := (mkF m 3 #[.val (.int p1), .val (.long p2), .second, .unset, .unset, .unset, .unset] [(.int (2 : Int32))])) (by rw [hi]) ?_
    show Steps p.tables e below (s₁.setTop (mkF m 3 #[.val (.int p1), .val (.long p2), .second, .unset, .unset, .unset, .unset] [(.int (2 : Int32))])) _
    refine XS.istoreN X0.here hx rfl (hb hby at_3) rfl (l' := #[.val (.int p1), .val (.long p2), .second, .val (.int (2 : Int32)), .unset, .unset, .unset]) rfl ?_
    show Steps p.tables e below (s₁.setTop (mkF m 4 #[.val (.int p1), .val (.long p2), .second, .val (.int (2 : Int32)), .unset, .unset, .unset] [])) _
    refine XS.aconstNull X0.here hx rfl (hb hby at_4) ?_
    show Steps p.tables e below (s₁.setTop (mkF m 5 #[.val (.int p1), .val (.long p2), .second, .val (.int (2 : Int32)), .unset, .unset, .unset] [.null])) _
    refine XS.astore X0.here hx rfl (hb hby at_5) rfl rfl (l' := #[.val (.int p1), .val (.long p2), .second, .val (.int (2 : Int32)), .val .null, .unset, .unset]) rfl ?_
    show Steps p.tables e below (s₁.setTop (mkF m 7 #[.val (.int p1), .val (.long p2), .second, .val (.int (2 : Int32)), .val .null, .unset, .unset] [])) _
    refine XS.iloadN X0.here hx rfl (hb hby at_7) rfl ?_
    show Steps p.tables e below (s₁.setTop (mkF m 8 #[.val (.int p1), .val (.long p2), .second, .val (.int (2 : Int32)), .val .null, .unset, .unset] [(.int (2 : Int32))])) _
    refine XS.iconst X0.here hx rfl (hb hby at_8) ?_
    show Steps p.tables e below (s₁.setTop (mkF m 9 #[.val (.int p1), .val (.long p2), .second, .val (.int (2 : Int32)), .val .null, .unset, .unset] [(.int (1 : Int32)), (.int (2 : Int32))])) _
    refine XS.icmpYes X0.here hx rfl (pc0 := 9) (pc' := 20) rfl (hb hby at_9) rfl (by decide) (by decide) (by decide) ?_
    show Steps p.tables e below (s₁.setTop (mkF m 20 #[.val (.int p1), .val (.long p2), .second, .val (.int (2 : Int32)), .val .null, .unset, .unset] [])) _
    refine XS.iloadN X0.here hx rfl (hb hby at_20) rfl ?_
    show Steps p.tables e below (s₁.setTop (mkF m 21 #[.val (.int p1), .val (.long p2), .second, .val (.int (2 : Int32)), .val .null, .unset, .unset] [(.int (2 : Int32))])) _
    refine XS.iconst X0.here hx rfl (hb hby at_21) ?_
    show Steps p.tables e below (s₁.setTop (mkF m 22 #[.val (.int p1), .val (.long p2), .second, .val (.int (2 : Int32)), .val .null, .unset, .unset] [(.int (2 : Int32)), (.int (2 : Int32))])) _
    refine XS.icmpNo X0.here hx rfl (hb hby at_22) rfl (by decide) ?_
    show Steps p.tables e below (s₁.setTop (mkF m 25 #[.val (.int p1), .val (.long p2), .second, .val (.int (2 : Int32)), .val .null, .unset, .unset] [])) _
    refine st1 _ ?_
    show Steps p.tables e below (T1.setTop (mkF m 28 #[.val (.int p1), .val (.long p2), .second, .val (.int (2 : Int32)), .val .null, .unset, .unset] [(.ref wLEADER)])) _
    refine XS.astore X1.here hx rfl (hb hby at_28) rfl rfl (l' := #[.val (.int p1), .val (.long p2), .second, .val (.int (2 : Int32)), .val (.ref wLEADER), .unset, .unset]) rfl ?_
    show Steps p.tables e below (T1.setTop (mkF m 30 #[.val (.int p1), .val (.long p2), .second, .val (.int (2 : Int32)), .val (.ref wLEADER), .unset, .unset] [])) _
    refine XS.goto X1.here hx rfl (pc0 := 30) (pc' := 43) rfl (hb hby at_30) (by decide) (by decide) ?_
    show Steps p.tables e below (T1.setTop (mkF m 43 #[.val (.int p1), .val (.long p2), .second, .val (.int (2 : Int32)), .val (.ref wLEADER), .unset, .unset] [])) _
    refine st2 _ ?_
    show Steps p.tables e below (T2.setTop (mkF m 46 #[.val (.int p1), .val (.long p2), .second, .val (.int (2 : Int32)), .val (.ref wLEADER), .unset, .unset] [(.ref b2)])) _
    refine XS.dup X2.here hx rfl (hb hby at_46) rfl rfl ?_
    show Steps p.tables e below (T2.setTop (mkF m 47 #[.val (.int p1), .val (.long p2), .second, .val (.int (2 : Int32)), .val (.ref wLEADER), .unset, .unset] [(.ref b2), (.ref b2)])) _
    refine XS.aload X2.here hx rfl (hb hby at_47) rfl rfl ?_
    show Steps p.tables e below (T2.setTop (mkF m 49 #[.val (.int p1), .val (.long p2), .second, .val (.int (2 : Int32)), .val (.ref wLEADER), .unset, .unset] [(.ref wLEADER), (.ref b2), (.ref b2)])) _
    refine XS.lloadN X2.here hx rfl (hb hby at_49) rfl ?_
    show Steps p.tables e below (T2.setTop (mkF m 50 #[.val (.int p1), .val (.long p2), .second, .val (.int (2 : Int32)), .val (.ref wLEADER), .unset, .unset] [(.long p2), (.ref wLEADER), (.ref b2), (.ref b2)])) _
    refine st3.trans ?_
    show Steps p.tables e below (T3.setTop (mkF m 53 #[.val (.int p1), .val (.long p2), .second, .val (.int (2 : Int32)), .val (.ref wLEADER), .unset, .unset] [(.ref b2)])) _
    refine XS.astore X3.here hx rfl (hb hby at_53) rfl rfl (l' := #[.val (.int p1), .val (.long p2), .second, .val (.int (2 : Int32)), .val (.ref wLEADER), .val (.ref b2), .unset]) rfl ?_
    show Steps p.tables e below (T3.setTop (mkF m 55 #[.val (.int p1), .val (.long p2), .second, .val (.int (2 : Int32)), .val (.ref wLEADER), .val (.ref b2), .unset] [])) _
    refine XS.iloadN X3.here hx rfl (hb hby at_55) rfl ?_
    show Steps p.tables e below (T3.setTop (mkF m 56 #[.val (.int p1), .val (.long p2), .second, .val (.int (2 : Int32)), .val (.ref wLEADER), .val (.ref b2), .unset] [(.int (2 : Int32))])) _
    refine XS.ifNo X3.here hx rfl (hb hby at_56) rfl (by decide) ?_
    show Steps p.tables e below (T3.setTop (mkF m 59 #[.val (.int p1), .val (.long p2), .second, .val (.int (2 : Int32)), .val (.ref wLEADER), .val (.ref b2), .unset] [])) _
    refine XS.iconst X3.here hx rfl (hb hby at_59) ?_
    show Steps p.tables e below (T3.setTop (mkF m 60 #[.val (.int p1), .val (.long p2), .second, .val (.int (2 : Int32)), .val (.ref wLEADER), .val (.ref b2), .unset] [(.int (1 : Int32))])) _
    refine XS.goto X3.here hx rfl (pc0 := 60) (pc' := 64) rfl (hb hby at_60) (by decide) (by decide) ?_
    show Steps p.tables e below (T3.setTop (mkF m 64 #[.val (.int p1), .val (.long p2), .second, .val (.int (2 : Int32)), .val (.ref wLEADER), .val (.ref b2), .unset] [(.int (1 : Int32))])) _
    refine XS.istore X3.here hx rfl (hb hby at_64) rfl (l' := #[.val (.int p1), .val (.long p2), .second, .val (.int (2 : Int32)), .val (.ref wLEADER), .val (.ref b2), .val (.int (1 : Int32))]) rfl ?_
    show Steps p.tables e below (T3.setTop (mkF m 66 #[.val (.int p1), .val (.long p2), .second, .val (.int (2 : Int32)), .val (.ref wLEADER), .val (.ref b2), .val (.int (1 : Int32))] [])) _
    refine XS.aload X3.here hx rfl (hb hby at_66) rfl rfl ?_
    show Steps p.tables e below (T3.setTop (mkF m 68 #[.val (.int p1), .val (.long p2), .second, .val (.int (2 : Int32)), .val (.ref wLEADER), .val (.ref b2), .val (.int (1 : Int32))] [(.ref b2)])) _
    refine st4.trans ?_
    show Steps p.tables e below (T4.setTop (mkF m 71 #[.val (.int p1), .val (.long p2), .second, .val (.int (2 : Int32)), .val (.ref wLEADER), .val (.ref b2), .val (.int (1 : Int32))] [(.int (1 : Int32))])) _
    refine XS.iload X4.here hx rfl (hb hby at_71) rfl ?_
    show Steps p.tables e below (T4.setTop (mkF m 73 #[.val (.int p1), .val (.long p2), .second, .val (.int (2 : Int32)), .val (.ref wLEADER), .val (.ref b2), .val (.int (1 : Int32))] [(.int (1 : Int32)), (.int (1 : Int32))])) _
    refine XS.icmpNo X4.here hx rfl (hb hby at_73) rfl (by decide) ?_
    show Steps p.tables e below (T4.setTop (mkF m 76 #[.val (.int p1), .val (.long p2), .second, .val (.int (2 : Int32)), .val (.ref wLEADER), .val (.ref b2), .val (.int (1 : Int32))] [])) _
    refine XS.iconst X4.here hx rfl (hb hby at_76) ?_
    show Steps p.tables e below (T4.setTop (mkF m 77 #[.val (.int p1), .val (.long p2), .second, .val (.int (2 : Int32)), .val (.ref wLEADER), .val (.ref b2), .val (.int (1 : Int32))] [(.int (1 : Int32))])) _
    refine XS.goto X4.here hx rfl (pc0 := 77) (pc' := 81) rfl (hb hby at_77) (by decide) (by decide) ?_
    show Steps p.tables e below (T4.setTop (mkF m 81 #[.val (.int p1), .val (.long p2), .second, .val (.int (2 : Int32)), .val (.ref wLEADER), .val (.ref b2), .val (.int (1 : Int32))] [(.int (1 : Int32))])) _
    exact retN X4 hx (t := .boolean) Bd.returns (by simp) (hb hby at_81) hr
  · exact ⟨rfl, N4⟩
def OwnQ_own_init_7 (Z : State) (wSTANDALONE : Addr) (wLEADER : Addr) (wFOLLOWER : Addr) (o1 : Addr) (v2 : Int64) (h0 : Heap) (n0 : Nat) (v : Option Value) (h : Heap) (L : List Loc) : Prop :=
  v = none ∧ Fr n0 L ∧ Keep h0 h [o1] ∧ Exa Z h o1 "com/example/nimble_quorum/nimblequorum/server/ServerStatus" ∧ Fld Z h o1 "com/example/nimble_quorum/nimblequorum/server/ServerStatus" "mode" "Lcom/example/nimble_quorum/nimblequorum/server/ServerStatus$Mode;" (.ref wFOLLOWER) ∧ Fld Z h o1 "com/example/nimble_quorum/nimblequorum/server/ServerStatus" "lastZxid" "J" (.long v2)
set_option maxRecDepth 65536 in
set_option maxHeartbeats 40000000 in
theorem own_init_7 (l : Launch) (Z : State) (a0 : Array Value) (hw : ∀ d ∈ tables_1, d.before a0 Z = true) (ws : List Jvm.Cond) (wSTANDALONE : Addr) (wLEADER : Addr) (wFOLLOWER : Addr) (G : OwnG Z wSTANDALONE wLEADER wFOLLOWER) (h0 : Heap) (n0 : Nat) (O0 : Old Z n0 h0) (o1 : Addr) (v2 : Int64) (ge_o1 : n0 ≤ o1) (f0_E_o1 : Exa Z h0 o1 "com/example/nimble_quorum/nimblequorum/server/ServerStatus") (f0_F_o1_mode : Fld Z h0 o1 "com/example/nimble_quorum/nimblequorum/server/ServerStatus" "mode" "Lcom/example/nimble_quorum/nimblequorum/server/ServerStatus$Mode;" .null) (f0_F_o1_lastZxid : Fld Z h0 o1 "com/example/nimble_quorum/nimblequorum/server/ServerStatus" "lastZxid" "J" (.long (0 : Int64))) :
    MetFree l (⟨"com/example/nimble_quorum/nimblequorum/server/ServerStatus", "<init>", "(Lcom/example/nimble_quorum/nimblequorum/server/ServerStatus$Mode;J)V"⟩ : MethodName) (head1 (Jvm.Cond.code (⟨"com/example/nimble_quorum/nimblequorum/server/ServerStatus", "<init>", "(Lcom/example/nimble_quorum/nimblequorum/server/ServerStatus$Mode;J)V"⟩ : MethodName) prog_25_method_1_code 4 none :: ws) ({ frames := 2, cells := 0, slots := 0, locals := 24 } : Room)) (fun a U => a = #[(.ref o1), (.ref wFOLLOWER), (.long v2)] ∧ Z.Warmed39 U.vm ∧ U.heap = h0) (fun _ _ _ _ _ => True) (fun _ U o U' => ∃ v L, o = .returned v ∧ OwnQ_own_init_7 Z wSTANDALONE wLEADER wFOLLOWER o1 v2 h0 n0 v U'.heap L ∧ FrameEnd U o U' L ({ frames := 2, cells := 0, slots := 0, locals := 24 } : Room).cells ({ frames := 2, cells := 0, slots := 0, locals := 24 } : Room).slots) := by
  refine MetFree.of_bodySF (plainFor_of_name own_pn_1) hisR ?_
  intro p e s m args below meth c s₁ Bd hml0 hP hK
  obtain ⟨rfl, hZ, hh⟩ := hP
  have hx := Bd.exec
  have hby := Bd.bytes
  have hml : c.maxLocals = 4 := hml0
  have hown : s.vm.findClass "com/example/nimble_quorum/nimblequorum/server/ServerStatus" = some m.cls := findClass_of_methodNamed Bd.named
  have hnm := (name_of_methodNamed Bd.named Bd.method).1
  have X0 : Stand p l e ({ frames := 2, cells := 0, slots := 0, locals := 24 } : Room) s m #[(.ref o1), (.ref wFOLLOWER), (.long v2)] below meth c s₁ [] 0 0 := Stand.of_body Bd
  have e0 : s₁.heap = h0 := by rw [← hh, Bd.state]; rfl
  have N0 := Fr.nil n0
  have pre0 : ∀ t, Steps p.tables e below (s₁.setTop (mkF m 0 #[.val (.ref o1), .val (.ref wFOLLOWER), .val (.long v2), .second] [])) t → Steps p.tables e below (s₁.setTop (entryFrame m #[(.ref o1), (.ref wFOLLOWER), (.long v2)] 4)) t := fun t k => castTop (own_ef_1_RRJ m o1 wFOLLOWER v2) k
  obtain ⟨_, _, ⟨T1, L1, k1, n1⟩, -, X1, ⟨Lc1, hQ1, l1, y1, z1⟩, st1⟩ := X0.specialBack hx (y := (⟨"java/lang/Record", "<init>", "()V"⟩ : MethodName)) rfl hown (mvT hZ (hw _ (List.mem_of_getElem? (i := 6) rfl))) (mvT hZ (hw _ (List.mem_of_getElem? (i := 7) rfl))) (mvT hZ (hw _ (List.mem_of_getElem? (i := 10) rfl))) (by decide) (backOf (W := 0) (own_init_1 l Z a0 hw [] wSTANDALONE wLEADER wFOLLOWER G h0 n0 O0 o1 ge_o1 f0_E_o1 f0_F_o1_mode f0_F_o1_lastZxid) hZ (hw _ (List.mem_of_getElem? (i := 10) rfl)) (hw _ (List.mem_of_getElem? (i := 9) rfl)) (by decide) (by decide)) (g := (mkF m 1 #[.val (.ref o1), .val (.ref wFOLLOWER), .val (.long v2), .second] [(.ref o1)])) rfl (by rw [hml]; rfl) (Steps.refl _) (a := o1) (argsL := []) (rest := []) (lenOf own_pd_0 rfl) rfl (by show 2 * 0 + _ ≤ _; exact Nat.le_of_eq rfl) (hb hby own_d1_1) (fun _ _ => ⟨rfl, e0, (by decide : 0 + 0 ≤ _), (by decide : 0 + 0 ≤ _)⟩)
  dsimp only [Pt.U, Pt.locs, Pt.cells, Pt.slots] at X1 l1 y1 z1 st1 hQ1
  subst l1 y1 z1
  obtain ⟨rfl, N1q, e1⟩ := hQ1
  have N1 := Fr.app N0 N1q
  obtain ⟨T2, h2, X2, e2, W2, st2⟩ := putF X1 hx hZ hown (host := "") (Or.inl (hw _ (List.mem_of_getElem? (i := 14) rfl))) Via.refl e1 f0_F_o1_mode f0_E_o1 (Or.inr ⟨(hw _ (List.mem_of_getElem? (i := 15) rfl)), rfl, hnm⟩) (hw _ (List.mem_of_getElem? (i := 1) rfl)) (ty := (.object "com/example/nimble_quorum/nimblequorum/server/ServerStatus$Mode")) (by decide) rfl rfl (g := (mkF m 6 #[.val (.ref o1), .val (.ref wFOLLOWER), .val (.long v2), .second] [(.ref wFOLLOWER), (.ref o1)])) rfl rfl (hb hby own_d1_6)
  have f2_E_o1 := f0_E_o1.wr W2
  have f2_F_o1_mode := f0_F_o1_mode.same W2
  have f2_F_o1_lastZxid := f0_F_o1_lastZxid.other W2 (Or.inr (slot_ne (Or.inr (hw _ (List.mem_of_getElem? (i := 17) rfl))) (Or.inr (hw _ (List.mem_of_getElem? (i := 15) rfl))) (by decide) (t := .long) (t' := (.object "com/example/nimble_quorum/nimblequorum/server/ServerStatus$Mode")) (by decide) (by decide)))
  have O2 := O0.wr W2 ge_o1
  have K2 := (Keep.refl h0 [o1]).wr W2 (Or.inl (List.mem_of_getElem? (i := 0) rfl))
  have N2 := Fr.snoc X2 N1 ge_o1
  obtain ⟨T3, h3, X3, e3, W3, st3⟩ := putF X2 hx hZ hown (host := "") (Or.inl (hw _ (List.mem_of_getElem? (i := 16) rfl))) Via.refl e2 f2_F_o1_lastZxid f2_E_o1 (Or.inr ⟨(hw _ (List.mem_of_getElem? (i := 17) rfl)), rfl, hnm⟩) (hw _ (List.mem_of_getElem? (i := 1) rfl)) (ty := .long) (by decide) rfl rfl (g := (mkF m 11 #[.val (.ref o1), .val (.ref wFOLLOWER), .val (.long v2), .second] [(.long v2), (.ref o1)])) rfl rfl (hb hby own_d1_11)
  have f3_E_o1 := f2_E_o1.wr W3
  have f3_F_o1_mode := f2_F_o1_mode.other W3 (Or.inr (slot_ne (Or.inr (hw _ (List.mem_of_getElem? (i := 15) rfl))) (Or.inr (hw _ (List.mem_of_getElem? (i := 17) rfl))) (by decide) (t := (.object "com/example/nimble_quorum/nimblequorum/server/ServerStatus$Mode")) (t' := .long) (by decide) (by decide)))
  have f3_F_o1_lastZxid := f2_F_o1_lastZxid.same W3
  have O3 := O2.wr W3 ge_o1
  have K3 := K2.wr W3 (Or.inl (List.mem_of_getElem? (i := 0) rfl))
  have N3 := Fr.snoc X3 N2 ge_o1
  obtain ⟨fs, hr, hrun, hended, hW, hsame⟩ := X3.leave (v := none) (fun _ => rfl)
  refine ⟨_, _, pre0 _ ?_, hrun, hended, _, _, rfl, ?_, ⟨_, rfl⟩, hW, hsame.mono (by decide) (by decide)⟩
  · show Steps p.tables e below (s₁.setTop (mkF m 0 #[.val (.ref o1), .val (.ref wFOLLOWER), .val (.long v2), .second] [])) _
    refine XS.aloadN X0.here hx rfl (hb hby own_d1_0) rfl rfl ?_
    show Steps p.tables e below (s₁.setTop (mkF m 1 #[.val (.ref o1), .val (.ref wFOLLOWER), .val (.long v2), .second] [(.ref o1)])) _
    refine st1.trans ?_
    show Steps p.tables e below (T1.setTop (mkF m 4 #[.val (.ref o1), .val (.ref wFOLLOWER), .val (.long v2), .second] [])) _
    refine XS.aloadN X1.here hx rfl (hb hby own_d1_4) rfl rfl ?_
    show Steps p.tables e below (T1.setTop (mkF m 5 #[.val (.ref o1), .val (.ref wFOLLOWER), .val (.long v2), .second] [(.ref o1)])) _
    refine XS.aloadN X1.here hx rfl (hb hby own_d1_5) rfl rfl ?_
    show Steps p.tables e below (T1.setTop (mkF m 6 #[.val (.ref o1), .val (.ref wFOLLOWER), .val (.long v2), .second] [(.ref wFOLLOWER), (.ref o1)])) _
    refine st2 _ ?_
    show Steps p.tables e below (T2.setTop (mkF m 9 #[.val (.ref o1), .val (.ref wFOLLOWER), .val (.long v2), .second] [])) _
    refine XS.aloadN X2.here hx rfl (hb hby own_d1_9) rfl rfl ?_
    show Steps p.tables e below (T2.setTop (mkF m 10 #[.val (.ref o1), .val (.ref wFOLLOWER), .val (.long v2), .second] [(.ref o1)])) _
    refine XS.lloadN X2.here hx rfl (hb hby own_d1_10) rfl ?_
    show Steps p.tables e below (T2.setTop (mkF m 11 #[.val (.ref o1), .val (.ref wFOLLOWER), .val (.long v2), .second] [(.long v2), (.ref o1)])) _
    refine st3 _ ?_
    show Steps p.tables e below (T3.setTop (mkF m 14 #[.val (.ref o1), .val (.ref wFOLLOWER), .val (.long v2), .second] [])) _
    exact X3.returnOut hx Bd.returns (hb hby own_d1_14) hr
  · show OwnQ_own_init_7 Z wSTANDALONE wLEADER wFOLLOWER o1 v2 h0 n0 _ T3.heap _
    rw [e3]
    exact ⟨rfl, N3, K3, f3_E_o1, f3_F_o1_mode, f3_F_o1_lastZxid⟩
set_option maxRecDepth 65536 in
set_option maxHeartbeats 40000000 in
theorem own_opensSessions_8 (l : Launch) (Z : State) (a0 : Array Value) (hw : ∀ d ∈ tables_1, d.before a0 Z = true) (ws : List Jvm.Cond) (wSTANDALONE : Addr) (wLEADER : Addr) (wFOLLOWER : Addr) (G : OwnG Z wSTANDALONE wLEADER wFOLLOWER) (h0 : Heap) (n0 : Nat) (O0 : Old Z n0 h0) (o1 : Addr) (v2 : Int64) (ge_o1 : n0 ≤ o1) (f0_E_o1 : Exa Z h0 o1 "com/example/nimble_quorum/nimblequorum/server/ServerStatus") (f0_F_o1_mode : Fld Z h0 o1 "com/example/nimble_quorum/nimblequorum/server/ServerStatus" "mode" "Lcom/example/nimble_quorum/nimblequorum/server/ServerStatus$Mode;" (.ref wFOLLOWER)) (f0_F_o1_lastZxid : Fld Z h0 o1 "com/example/nimble_quorum/nimblequorum/server/ServerStatus" "lastZxid" "J" (.long v2)) :
    MetFree l (⟨"com/example/nimble_quorum/nimblequorum/server/ServerStatus", "opensSessions", "()Z"⟩ : MethodName) (head1 (Jvm.Cond.code (⟨"com/example/nimble_quorum/nimblequorum/server/ServerStatus", "opensSessions", "()Z"⟩ : MethodName) prog_25_method_2_code 1 (some .boolean) :: ws) ({ frames := 0, cells := 0, slots := 0, locals := 0 } : Room)) (fun a U => a = #[(.ref o1)] ∧ Z.Warmed39 U.vm ∧ U.heap = h0) (fun _ _ _ _ _ => True) (fun _ U o U' => ∃ v L, o = .returned v ∧ OwnQ (some (.int (1 : Int32))) h0 n0 v U'.heap L ∧ FrameEnd U o U' L ({ frames := 0, cells := 0, slots := 0, locals := 0 } : Room).cells ({ frames := 0, cells := 0, slots := 0, locals := 0 } : Room).slots) := by
  refine MetFree.of_bodySF (plainFor_of_name own_pn_1) hisR ?_
  intro p e s m args below meth c s₁ Bd hml0 hP hK
  obtain ⟨rfl, hZ, hh⟩ := hP
  have hx := Bd.exec
  have hby := Bd.bytes
  have hml : c.maxLocals = 1 := hml0
  have hown : s.vm.findClass "com/example/nimble_quorum/nimblequorum/server/ServerStatus" = some m.cls := findClass_of_methodNamed Bd.named
  have hnm := (name_of_methodNamed Bd.named Bd.method).1
  have X0 : Stand p l e ({ frames := 0, cells := 0, slots := 0, locals := 0 } : Room) s m #[(.ref o1)] below meth c s₁ [] 0 0 := Stand.of_body Bd
  have e0 : s₁.heap = h0 := by rw [← hh, Bd.state]; rfl
  have N0 := Fr.nil n0
  have pre0 : ∀ t, Steps p.tables e below (s₁.setTop (mkF m 0 #[.val (.ref o1)] [])) t → Steps p.tables e below (s₁.setTop (entryFrame m #[(.ref o1)] 1)) t := fun t k => castTop (own_ef_4_R m o1) k
  obtain ⟨T1, X1, e1, st1⟩ := getF X0 hx hZ hown (host := "") (Or.inl (hw _ (List.mem_of_getElem? (i := 14) rfl))) Via.refl e0 f0_F_o1_mode (g := (mkF m 1 #[.val (.ref o1)] [(.ref o1)])) rfl rfl (hb hby own_d4_1)
  obtain ⟨fs, hr, hrun, hended, hW, hsame⟩ := X1.leave (v := some (.int (1 : Int32))) (fun h => by rw [Bd.returns] at h; cases h)
  refine ⟨_, _, pre0 _ ?_, hrun, hended, _, _, rfl, ?_, ⟨_, rfl⟩, hW, hsame.mono (by decide) (by decide)⟩
  · show Steps p.tables e below (s₁.setTop (mkF m 0 #[.val (.ref o1)] [])) _
    refine XS.aloadN X0.here hx rfl (hb hby own_d4_0) rfl rfl ?_
    show Steps p.tables e below (s₁.setTop (mkF m 1 #[.val (.ref o1)] [(.ref o1)])) _
    refine st1 _ ?_
    show Steps p.tables e below (T1.setTop (mkF m 4 #[.val (.ref o1)] [(.ref wFOLLOWER)])) _
    refine XS.ifnullNo X1.here hx rfl (hb hby own_d4_4) rfl ?_
    show Steps p.tables e below (T1.setTop (mkF m 7 #[.val (.ref o1)] [])) _
    refine XS.iconst X1.here hx rfl (hb hby own_d4_7) ?_
    show Steps p.tables e below (T1.setTop (mkF m 8 #[.val (.ref o1)] [(.int (1 : Int32))])) _
    refine XS.goto X1.here hx rfl (pc0 := 8) (pc' := 12) rfl (hb hby own_d4_8) (by decide) (by decide) ?_
    show Steps p.tables e below (T1.setTop (mkF m 12 #[.val (.ref o1)] [(.int (1 : Int32))])) _
    exact retN X1 hx (t := .boolean) Bd.returns (by simp) (hb hby own_d4_12) hr
  · show OwnQ _ h0 n0 _ T1.heap _
    exact ⟨rfl, N0, e1⟩
set_option maxRecDepth 65536 in
set_option maxHeartbeats 40000000 in
theorem own_law_3 (l : Launch) (Z : State) (a0 : Array Value) (hw : ∀ d ∈ tables_1, d.before a0 Z = true) (ws : List Jvm.Cond) (wSTANDALONE : Addr) (wLEADER : Addr) (wFOLLOWER : Addr) (G : OwnG Z wSTANDALONE wLEADER wFOLLOWER) (h0 : Heap) (n0 : Nat) (O0 : Old Z n0 h0) (p1 : Int32) (p2 : Int64) (hi : (p1 &&& (3 : Int32)) = (3 : Int32)) :
    MetFree l x (head1 (Jvm.Cond.code x code maxLocals ret :: ws) room_1) (fun a U => a = #[(.int p1), (.long p2)] ∧ Z.Warmed39 U.vm ∧ U.heap = h0) (fun _ _ _ _ _ => True) (fun _ U o U' => ∃ v L, o = .returned v ∧ (v = some (.int 1) ∧ Fr n0 L) ∧ FrameEnd U o U' L room_1.cells room_1.slots) := by
  refine MetFree.of_bodySF (plainFor_of_name own_pn_0) hisR ?_
  intro p e s m args below meth c s₁ Bd hml0 hP hK
  obtain ⟨rfl, hZ, hh⟩ := hP
  have hx := Bd.exec
  have hby := Bd.bytes
  have hml : c.maxLocals = 7 := hml0
  have hown : s.vm.findClass "com/example/nimble_quorum/nimblequorum/server/ServerStatusOpensSessionsPinLaw" = some m.cls := findClass_of_methodNamed Bd.named
  have hnm := (name_of_methodNamed Bd.named Bd.method).1
  have X0 : Stand p l e room_1 s m #[(.int p1), (.long p2)] below meth c s₁ [] 0 0 := Stand.of_body Bd
  have e0 : s₁.heap = h0 := by rw [← hh, Bd.state]; rfl
  have N0 := Fr.nil n0
  have pre0 : ∀ t, Steps p.tables e below (s₁.setTop (mkF m 0 #[.val (.int p1), .val (.long p2), .second, .unset, .unset, .unset, .unset] [])) t → Steps p.tables e below (s₁.setTop (entryFrame m #[(.int p1), (.long p2)] maxLocals)) t := fun t k => castTop (own_ef_0_IJ m p1 p2) k
  obtain ⟨T1, X1, e1, st1⟩ := getS2 X0 hx hZ hown (host := "") (Or.inl (hw _ (List.mem_of_getElem? (i := 28) rfl))) Via.refl e0 (G.2.2.2.2.1.ext O0.2) (g := (mkF m 38 #[.val (.int p1), .val (.long p2), .second, .val (.int (3 : Int32)), .val .null, .unset, .unset] [])) rfl (hb hby at_38)
  obtain ⟨T2, h2, X2, e2, E2, A2, D2, -, st2⟩ := newO X1 hx hZ hown (hw _ (List.mem_of_getElem? (i := 0) rfl)) (hw _ (List.mem_of_getElem? (i := 1) rfl)) (hw _ (List.mem_of_getElem? (i := 2) rfl)) e1 (g := (mkF m 43 #[.val (.int p1), .val (.long p2), .second, .val (.int (3 : Int32)), .val (.ref wFOLLOWER), .unset, .unset] [])) rfl (hb hby at_43) (by decide) (by decide)
  obtain ⟨b2, g2⟩ : ∃ z, z = h0.size := ⟨_, rfl⟩
  rw [← g2] at A2 D2 st2
  have ge_b2 : n0 ≤ b2 := own_new O0 g2
  have sz_b2 : h0.size ≤ b2 := Nat.le_trans (Keep.refl h0 []).1 (Nat.le_of_eq g2.symm)
  have O2 := O0.ext E2
  have K2 := (Keep.refl h0 []).ext E2
  have F2_mode : Fld Z h2 b2 "com/example/nimble_quorum/nimblequorum/server/ServerStatus" "mode" "Lcom/example/nimble_quorum/nimblequorum/server/ServerStatus$Mode;" .null := D2 (Or.inr (hw _ (List.mem_of_getElem? (i := 15) rfl))) (ty := (.object "com/example/nimble_quorum/nimblequorum/server/ServerStatus$Mode")) (by decide)
  have F2_lastZxid : Fld Z h2 b2 "com/example/nimble_quorum/nimblequorum/server/ServerStatus" "lastZxid" "J" (.long (0 : Int64)) := D2 (Or.inr (hw _ (List.mem_of_getElem? (i := 17) rfl))) (ty := .long) (by decide)
  obtain ⟨_, _, ⟨T3, L3, k3, n3⟩, -, X3, ⟨Lc3, hQ3, l3, y3, z3⟩, st3⟩ := X2.specialBack hx (y := (⟨"com/example/nimble_quorum/nimblequorum/server/ServerStatus", "<init>", "(Lcom/example/nimble_quorum/nimblequorum/server/ServerStatus$Mode;J)V"⟩ : MethodName)) rfl hown (mvT hZ (hw _ (List.mem_of_getElem? (i := 3) rfl))) (mvT hZ (hw _ (List.mem_of_getElem? (i := 4) rfl))) (mvT hZ (hw _ (List.mem_of_getElem? (i := 5) rfl))) (by decide) (backOf (W := 1) (own_init_7 l Z a0 hw [] wSTANDALONE wLEADER wFOLLOWER G h2 n0 O2 b2 p2 ge_b2 A2 F2_mode F2_lastZxid) hZ (hw _ (List.mem_of_getElem? (i := 5) rfl)) (hw _ (List.mem_of_getElem? (i := 2) rfl)) (by decide) (by decide)) (g := (mkF m 50 #[.val (.int p1), .val (.long p2), .second, .val (.int (3 : Int32)), .val (.ref wFOLLOWER), .unset, .unset] [(.long p2), (.ref wFOLLOWER), (.ref b2), (.ref b2)])) rfl (by rw [hml]; rfl) (Steps.refl _) (a := b2) (argsL := [(.ref wFOLLOWER), (.long p2)]) (rest := [(.ref b2)]) (lenOf own_pd_1 rfl) rfl (by show 2 * 0 + _ ≤ _; exact Nat.le_of_eq rfl) (hb hby at_50) (fun _ _ => ⟨rfl, e2, (by decide : 1 + 0 ≤ _), (by decide : 2 + 0 ≤ _)⟩)
  dsimp only [Pt.U, Pt.locs, Pt.cells, Pt.slots] at X3 l3 y3 z3 st3 hQ3
  subst l3 y3 z3
  obtain ⟨rfl, N3q, Kq3, q3_E_o1, q3_F_o1_mode, q3_F_o1_lastZxid⟩ := hQ3
  have N3 := Fr.app N0 N3q
  have f3_E_b2 := A2.keep Kq3
  have O3 := O2.keep Kq3 (allS ge_b2 all0)
  have K3 := K2.trans Kq3 (allS (Or.inr sz_b2) all0)
  obtain ⟨cq4, kq4, q4a, q4b, q4c⟩ := isOf hZ rfl q3_E_o1
  obtain ⟨_, _, ⟨T4, L4, k4, n4⟩, -, X4, ⟨Lc4, hQ4, l4, y4, z4⟩, st4⟩ := X3.virtualBack hx (y := (⟨"com/example/nimble_quorum/nimblequorum/server/ServerStatus", "opensSessions", "()Z"⟩ : MethodName)) (z := (⟨"com/example/nimble_quorum/nimblequorum/server/ServerStatus", "opensSessions", "()Z"⟩ : MethodName)) hown (mvT hZ (hw _ (List.mem_of_getElem? (i := 18) rfl))) (mvT hZ (hw _ (List.mem_of_getElem? (i := 19) rfl))) (notFace_of_selects (args := #[]) (mvT hZ (hw _ (List.mem_of_getElem? (i := 21) rfl)))) (mvT hZ (hw _ (List.mem_of_getElem? (i := 21) rfl))) (mvT hZ (hw _ (List.mem_of_getElem? (i := 20) rfl))) (by decide) (backOf (W := 0) (own_opensSessions_8 l Z a0 hw [] wSTANDALONE wLEADER wFOLLOWER G T3.heap n0 O3 b2 p2 ge_b2 q3_E_o1 q3_F_o1_mode q3_F_o1_lastZxid) hZ (hw _ (List.mem_of_getElem? (i := 22) rfl)) (hw _ (List.mem_of_getElem? (i := 2) rfl)) (by decide) (by decide)) q4a q4c (g := (mkF m 68 #[.val (.int p1), .val (.long p2), .second, .val (.int (3 : Int32)), .val (.ref wFOLLOWER), .val (.ref b2), .val (.int (1 : Int32))] [(.ref b2)])) rfl (by rw [hml]; rfl) (Steps.refl _) (argsL := []) (rest := []) (lenOf own_pd_2 rfl) rfl (by show 2 * 0 + _ ≤ _; exact Nat.le_of_eq rfl) (hb hby at_68) (fun _ _ => ⟨rfl, rfl, (by decide : 1 + 0 ≤ _), (by decide : 2 + 0 ≤ _)⟩)
  dsimp only [Pt.U, Pt.locs, Pt.cells, Pt.slots] at X4 l4 y4 z4 st4 hQ4
  subst l4 y4 z4
  obtain ⟨rfl, N4q, e4⟩ := hQ4
  have N4 := Fr.app N3 N4q
  obtain ⟨fs, hr, hrun, hended, hW, hsame⟩ := X4.leave (v := some (.int (1 : Int32))) (fun h => by rw [Bd.returns] at h; cases h)
  refine ⟨_, _, pre0 _ ?_, hrun, hended, _, _, rfl, ?_, ⟨_, rfl⟩, hW, hsame.mono (by decide) (by decide)⟩
  · show Steps p.tables e below (s₁.setTop (mkF m 0 #[.val (.int p1), .val (.long p2), .second, .unset, .unset, .unset, .unset] [])) _
    refine XS.iloadN X0.here hx rfl (hb hby at_0) rfl ?_
    show Steps p.tables e below (s₁.setTop (mkF m 1 #[.val (.int p1), .val (.long p2), .second, .unset, .unset, .unset, .unset] [(.int p1)])) _
    refine XS.iconst X0.here hx rfl (hb hby at_1) ?_
    show Steps p.tables e below (s₁.setTop (mkF m 2 #[.val (.int p1), .val (.long p2), .second, .unset, .unset, .unset, .unset] [(.int (3 : Int32)), (.int p1)])) _
    refine XS.iand X0.here hx rfl (hb hby at_2) rfl ?_
    show Steps p.tables e below (s₁.setTop (mkF m 3 #[.val (.int p1), .val (.long p2), .second, .unset, .unset, .unset, .unset] [(.int (p1 &&& (3 : Int32)))])) _
    refine castTop (g' := (mkF m 3 #[.val (.int p1), .val (.long p2), .second, .unset, .unset, .unset, .unset] [(.int (3 : Int32))])) (by rw [hi]) ?_
    show Steps p.tables e below (s₁.setTop (mkF m 3 #[.val (.int p1), .val (.long p2), .second, .unset, .unset, .unset, .unset] [(.int (3 : Int32))])) _
    refine XS.istoreN X0.here hx rfl (hb hby at_3) rfl (l' := #[.val (.int p1), .val (.long p2), .second, .val (.int (3 : Int32)), .unset, .unset, .unset]) rfl ?_
    show Steps p.tables e below (s₁.setTop (mkF m 4 #[.val (.int p1), .val (.long p2), .second, .val (.int (3 : Int32)), .unset, .unset, .unset] [])) _
    refine XS.aconstNull X0.here hx rfl (hb hby at_4) ?_
    show Steps p.tables e below (s₁.setTop (mkF m 5 #[.val (.int p1), .val (.long p2), .second, .val (.int (3 : Int32)), .unset, .unset, .unset] [.null])) _
    refine XS.astore X0.here hx rfl (hb hby at_5) rfl rfl (l' := #[.val (.int p1), .val (.long p2), .second, .val (.int (3 : Int32)), .val .null, .unset, .unset]) rfl ?_
    show Steps p.tables e below (s₁.setTop (mkF m 7 #[.val (.int p1), .val (.long p2), .second, .val (.int (3 : Int32)), .val .null, .unset, .unset] [])) _
    refine XS.iloadN X0.here hx rfl (hb hby at_7) rfl ?_
    show Steps p.tables e below (s₁.setTop (mkF m 8 #[.val (.int p1), .val (.long p2), .second, .val (.int (3 : Int32)), .val .null, .unset, .unset] [(.int (3 : Int32))])) _
    refine XS.iconst X0.here hx rfl (hb hby at_8) ?_
    show Steps p.tables e below (s₁.setTop (mkF m 9 #[.val (.int p1), .val (.long p2), .second, .val (.int (3 : Int32)), .val .null, .unset, .unset] [(.int (1 : Int32)), (.int (3 : Int32))])) _
    refine XS.icmpYes X0.here hx rfl (pc0 := 9) (pc' := 20) rfl (hb hby at_9) rfl (by decide) (by decide) (by decide) ?_
    show Steps p.tables e below (s₁.setTop (mkF m 20 #[.val (.int p1), .val (.long p2), .second, .val (.int (3 : Int32)), .val .null, .unset, .unset] [])) _
    refine XS.iloadN X0.here hx rfl (hb hby at_20) rfl ?_
    show Steps p.tables e below (s₁.setTop (mkF m 21 #[.val (.int p1), .val (.long p2), .second, .val (.int (3 : Int32)), .val .null, .unset, .unset] [(.int (3 : Int32))])) _
    refine XS.iconst X0.here hx rfl (hb hby at_21) ?_
    show Steps p.tables e below (s₁.setTop (mkF m 22 #[.val (.int p1), .val (.long p2), .second, .val (.int (3 : Int32)), .val .null, .unset, .unset] [(.int (2 : Int32)), (.int (3 : Int32))])) _
    refine XS.icmpYes X0.here hx rfl (pc0 := 22) (pc' := 33) rfl (hb hby at_22) rfl (by decide) (by decide) (by decide) ?_
    show Steps p.tables e below (s₁.setTop (mkF m 33 #[.val (.int p1), .val (.long p2), .second, .val (.int (3 : Int32)), .val .null, .unset, .unset] [])) _
    refine XS.iloadN X0.here hx rfl (hb hby at_33) rfl ?_
    show Steps p.tables e below (s₁.setTop (mkF m 34 #[.val (.int p1), .val (.long p2), .second, .val (.int (3 : Int32)), .val .null, .unset, .unset] [(.int (3 : Int32))])) _
    refine XS.iconst X0.here hx rfl (hb hby at_34) ?_
    show Steps p.tables e below (s₁.setTop (mkF m 35 #[.val (.int p1), .val (.long p2), .second, .val (.int (3 : Int32)), .val .null, .unset, .unset] [(.int (3 : Int32)), (.int (3 : Int32))])) _
    refine XS.icmpNo X0.here hx rfl (hb hby at_35) rfl (by decide) ?_
    show Steps p.tables e below (s₁.setTop (mkF m 38 #[.val (.int p1), .val (.long p2), .second, .val (.int (3 : Int32)), .val .null, .unset, .unset] [])) _
    refine st1 _ ?_
    show Steps p.tables e below (T1.setTop (mkF m 41 #[.val (.int p1), .val (.long p2), .second, .val (.int (3 : Int32)), .val .null, .unset, .unset] [(.ref wFOLLOWER)])) _
    refine XS.astore X1.here hx rfl (hb hby at_41) rfl rfl (l' := #[.val (.int p1), .val (.long p2), .second, .val (.int (3 : Int32)), .val (.ref wFOLLOWER), .unset, .unset]) rfl ?_
    show Steps p.tables e below (T1.setTop (mkF m 43 #[.val (.int p1), .val (.long p2), .second, .val (.int (3 : Int32)), .val (.ref wFOLLOWER), .unset, .unset] [])) _
    refine st2 _ ?_
    show Steps p.tables e below (T2.setTop (mkF m 46 #[.val (.int p1), .val (.long p2), .second, .val (.int (3 : Int32)), .val (.ref wFOLLOWER), .unset, .unset] [(.ref b2)])) _
    refine XS.dup X2.here hx rfl (hb hby at_46) rfl rfl ?_
    show Steps p.tables e below (T2.setTop (mkF m 47 #[.val (.int p1), .val (.long p2), .second, .val (.int (3 : Int32)), .val (.ref wFOLLOWER), .unset, .unset] [(.ref b2), (.ref b2)])) _
    refine XS.aload X2.here hx rfl (hb hby at_47) rfl rfl ?_
    show Steps p.tables e below (T2.setTop (mkF m 49 #[.val (.int p1), .val (.long p2), .second, .val (.int (3 : Int32)), .val (.ref wFOLLOWER), .unset, .unset] [(.ref wFOLLOWER), (.ref b2), (.ref b2)])) _
    refine XS.lloadN X2.here hx rfl (hb hby at_49) rfl ?_
    show Steps p.tables e below (T2.setTop (mkF m 50 #[.val (.int p1), .val (.long p2), .second, .val (.int (3 : Int32)), .val (.ref wFOLLOWER), .unset, .unset] [(.long p2), (.ref wFOLLOWER), (.ref b2), (.ref b2)])) _
    refine st3.trans ?_
    show Steps p.tables e below (T3.setTop (mkF m 53 #[.val (.int p1), .val (.long p2), .second, .val (.int (3 : Int32)), .val (.ref wFOLLOWER), .unset, .unset] [(.ref b2)])) _
    refine XS.astore X3.here hx rfl (hb hby at_53) rfl rfl (l' := #[.val (.int p1), .val (.long p2), .second, .val (.int (3 : Int32)), .val (.ref wFOLLOWER), .val (.ref b2), .unset]) rfl ?_
    show Steps p.tables e below (T3.setTop (mkF m 55 #[.val (.int p1), .val (.long p2), .second, .val (.int (3 : Int32)), .val (.ref wFOLLOWER), .val (.ref b2), .unset] [])) _
    refine XS.iloadN X3.here hx rfl (hb hby at_55) rfl ?_
    show Steps p.tables e below (T3.setTop (mkF m 56 #[.val (.int p1), .val (.long p2), .second, .val (.int (3 : Int32)), .val (.ref wFOLLOWER), .val (.ref b2), .unset] [(.int (3 : Int32))])) _
    refine XS.ifNo X3.here hx rfl (hb hby at_56) rfl (by decide) ?_
    show Steps p.tables e below (T3.setTop (mkF m 59 #[.val (.int p1), .val (.long p2), .second, .val (.int (3 : Int32)), .val (.ref wFOLLOWER), .val (.ref b2), .unset] [])) _
    refine XS.iconst X3.here hx rfl (hb hby at_59) ?_
    show Steps p.tables e below (T3.setTop (mkF m 60 #[.val (.int p1), .val (.long p2), .second, .val (.int (3 : Int32)), .val (.ref wFOLLOWER), .val (.ref b2), .unset] [(.int (1 : Int32))])) _
    refine XS.goto X3.here hx rfl (pc0 := 60) (pc' := 64) rfl (hb hby at_60) (by decide) (by decide) ?_
    show Steps p.tables e below (T3.setTop (mkF m 64 #[.val (.int p1), .val (.long p2), .second, .val (.int (3 : Int32)), .val (.ref wFOLLOWER), .val (.ref b2), .unset] [(.int (1 : Int32))])) _
    refine XS.istore X3.here hx rfl (hb hby at_64) rfl (l' := #[.val (.int p1), .val (.long p2), .second, .val (.int (3 : Int32)), .val (.ref wFOLLOWER), .val (.ref b2), .val (.int (1 : Int32))]) rfl ?_
    show Steps p.tables e below (T3.setTop (mkF m 66 #[.val (.int p1), .val (.long p2), .second, .val (.int (3 : Int32)), .val (.ref wFOLLOWER), .val (.ref b2), .val (.int (1 : Int32))] [])) _
    refine XS.aload X3.here hx rfl (hb hby at_66) rfl rfl ?_
    show Steps p.tables e below (T3.setTop (mkF m 68 #[.val (.int p1), .val (.long p2), .second, .val (.int (3 : Int32)), .val (.ref wFOLLOWER), .val (.ref b2), .val (.int (1 : Int32))] [(.ref b2)])) _
    refine st4.trans ?_
    show Steps p.tables e below (T4.setTop (mkF m 71 #[.val (.int p1), .val (.long p2), .second, .val (.int (3 : Int32)), .val (.ref wFOLLOWER), .val (.ref b2), .val (.int (1 : Int32))] [(.int (1 : Int32))])) _
    refine XS.iload X4.here hx rfl (hb hby at_71) rfl ?_
    show Steps p.tables e below (T4.setTop (mkF m 73 #[.val (.int p1), .val (.long p2), .second, .val (.int (3 : Int32)), .val (.ref wFOLLOWER), .val (.ref b2), .val (.int (1 : Int32))] [(.int (1 : Int32)), (.int (1 : Int32))])) _
    refine XS.icmpNo X4.here hx rfl (hb hby at_73) rfl (by decide) ?_
    show Steps p.tables e below (T4.setTop (mkF m 76 #[.val (.int p1), .val (.long p2), .second, .val (.int (3 : Int32)), .val (.ref wFOLLOWER), .val (.ref b2), .val (.int (1 : Int32))] [])) _
    refine XS.iconst X4.here hx rfl (hb hby at_76) ?_
    show Steps p.tables e below (T4.setTop (mkF m 77 #[.val (.int p1), .val (.long p2), .second, .val (.int (3 : Int32)), .val (.ref wFOLLOWER), .val (.ref b2), .val (.int (1 : Int32))] [(.int (1 : Int32))])) _
    refine XS.goto X4.here hx rfl (pc0 := 77) (pc' := 81) rfl (hb hby at_77) (by decide) (by decide) ?_
    show Steps p.tables e below (T4.setTop (mkF m 81 #[.val (.int p1), .val (.long p2), .second, .val (.int (3 : Int32)), .val (.ref wFOLLOWER), .val (.ref b2), .val (.int (1 : Int32))] [(.int (1 : Int32))])) _
    exact retN X4 hx (t := .boolean) Bd.returns (by simp) (hb hby at_81) hr
  · exact ⟨rfl, N4⟩
theorem own_and3 (x : Int32) : x &&& (3 : Int32) = 0 ∨ x &&& (3 : Int32) = 1 ∨ x &&& (3 : Int32) = 2 ∨ x &&& (3 : Int32) = 3 := by
  have h1 := c_and x 3 (by decide)
  have e3 : (3 : Int32).toInt = 3 := by decide
  have h3 : (x &&& (3 : Int32)).toInt = 0 ∨ (x &&& (3 : Int32)).toInt = 1 ∨ (x &&& (3 : Int32)).toInt = 2 ∨ (x &&& (3 : Int32)).toInt = 3 := by omega
  rcases h3 with h | h | h | h
  · exact Or.inl (Int32.toInt_inj.mp h)
  · exact Or.inr (Or.inl (Int32.toInt_inj.mp h))
  · exact Or.inr (Or.inr (Or.inl (Int32.toInt_inj.mp h)))
  · exact Or.inr (Or.inr (Or.inr (Int32.toInt_inj.mp h)))
theorem own_law (l : Launch) (Z : State) (a0 : Array Value) (hw : ∀ d ∈ tables_1, d.before a0 Z = true) (ws : List Jvm.Cond) (wSTANDALONE : Addr) (wLEADER : Addr) (wFOLLOWER : Addr) (G : OwnG Z wSTANDALONE wLEADER wFOLLOWER) (h0 : Heap) (n0 : Nat) (O0 : Old Z n0 h0) (p1 : Int32) (p2 : Int64) :
    MetFree l x (head1 (Jvm.Cond.code x code maxLocals ret :: ws) room_1) (fun a U => a = #[(.int p1), (.long p2)] ∧ Z.Warmed39 U.vm ∧ U.heap = h0) (fun _ _ _ _ _ => True) (fun _ U o U' => ∃ v L, o = .returned v ∧ (v = some (.int 1) ∧ Fr n0 L) ∧ FrameEnd U o U' L room_1.cells room_1.slots) := by
  rcases own_and3 p1 with h | h | h | h
  · exact own_law_0 l Z a0 hw ws wSTANDALONE wLEADER wFOLLOWER G h0 n0 O0 p1 p2 h
  · exact own_law_1 l Z a0 hw ws wSTANDALONE wLEADER wFOLLOWER G h0 n0 O0 p1 p2 h
  · exact own_law_2 l Z a0 hw ws wSTANDALONE wLEADER wFOLLOWER G h0 n0 O0 p1 p2 h
  · exact own_law_3 l Z a0 hw ws wSTANDALONE wLEADER wFOLLOWER G h0 n0 O0 p1 p2 h
set_option maxRecDepth 65536 in
set_option maxHeartbeats 40000000 in
theorem comes_1 {Post : Tables → Env → Array Value → State → Outcome → State → Prop} (hpost : ∀ tb e args s v u, (limb_1_1.after args s (.returned v) u = true ∧ limb_1_2.after args s (.returned v) u = true ∧ True) → FrameEnd s (.returned v) u (Jvm.fieldLocs frame_1_writes args s ++ Jvm.arrayLocs frame_1_arrays args s ++ Jvm.staticLocs frame_1_statics s) 16 128 → Post tb e args s (.returned v) u) :
    ArmFor flags0 classFile x code maxLocals ret World_1 tables_1 room_1 Calls_1 rest_1 Pre_1 Post := by
  intro l hfl _ _ p e ha hc hk s m args below hf hA hF happ hP
  obtain ⟨hcalls, hrest, hpre⟩ := hP
  obtain ⟨-, -, -, hnamed, -, -, -, hat⟩ := (Spec.applies_iff hf).mp happ
  obtain ⟨hg, hn⟩ := and_e (Cond.before_iff.mp (show (Jvm.Cond.and given_1 narrow_1).before args s = true from hpre))
  obtain ⟨hgv0, hgm0⟩ := and_e hg
  obtain ⟨hgv1, hgm1⟩ := and_e hgm0
  have hgv2 := hgm1
  obtain ⟨w0, w1, rfl⟩ : ∃ w0 w1 : Value, args = #[w0, w1] := by
    have hs : args.size = 2 := by simpa [Cond.value, given_1] using hgv0
    obtain ⟨L⟩ := args
    match L, hs with
    | [w0, w1], _ => exact ⟨w0, w1, rfl⟩
  have hw := fun d (hd : d ∈ tables_1) => atoms_spec (ws := Jvm.Cond.code x code maxLocals ret :: tables_1) hat d (List.mem_cons_of_mem _ hd)
  have hfit : Fit s := fun {y c} hc i hi => by
    obtain ⟨ha, rfl⟩ := Array.getElem?_eq_some_iff.mp hc
    have q := List.all_eq_true.mp ((Array.all_eq_true_iff_forall_mem.mp hF) _ (Array.getElem_mem ha)) i (List.mem_range.mpr hi)
    simpa [Array.getElem?_eq_getElem hi] using q
  obtain ⟨i0, ei0⟩ := is_v hgv1
  obtain rfl : w0 = (.int i0) := Option.some.inj ei0
  obtain ⟨i1, ei1⟩ := isL_v hgv2
  obtain rfl : w1 = (.long i1) := Option.some.inj ei1
  obtain ⟨hc0, hm0⟩ := and_e hn
  obtain ⟨hc1, hm1⟩ := and_e hm0
  have hc2 := hm1
  obtain ⟨wSTANDALONE, ev_wSTANDALONE⟩ := exa_v hc0
  obtain ⟨wLEADER, ev_wLEADER⟩ := exa_v hc1
  obtain ⟨wFOLLOWER, ev_wFOLLOWER⟩ := exa_v hc2
  have gf0 := Sta.start ev_wSTANDALONE (Or.inr ⟨(hw _ (List.mem_of_getElem? (i := 24) rfl)), (hw _ (List.mem_of_getElem? (i := 25) rfl))⟩)
  have gf1 := Exa.start ev_wSTANDALONE hc0
  have gf2 := Sta.start ev_wLEADER (Or.inr ⟨(hw _ (List.mem_of_getElem? (i := 24) rfl)), (hw _ (List.mem_of_getElem? (i := 27) rfl))⟩)
  have gf3 := Exa.start ev_wLEADER hc1
  have gf4 := Sta.start ev_wFOLLOWER (Or.inr ⟨(hw _ (List.mem_of_getElem? (i := 24) rfl)), (hw _ (List.mem_of_getElem? (i := 29) rfl))⟩)
  have gf5 := Exa.start ev_wFOLLOWER hc2
  have G : OwnG s wSTANDALONE wLEADER wFOLLOWER := ⟨gf0, gf1, gf2, gf3, gf4, gf5⟩
  obtain ⟨n, o, h1, h2, h3, _, L, rfl, ⟨rfl, N⟩, hq⟩ := own_law l s _ hw tables_1 wSTANDALONE wLEADER wFOLLOWER G s.heap s.heap.size (Old.start s) i0 i1 p e ha hc hk s m _ below hf ((Spec.applies_iff_loose hf).mp happ).1 ⟨rfl, State.Warmed39.refl s, rfl⟩ trivial
  exact ⟨n, _, h1, h2, h3, hpost _ _ _ _ _ _ ⟨Cond.after_iff.mpr rfl, Cond.after_iff.mpr (eq_i res_at (Term.int_eval (1)) rfl), trivial⟩ ⟨hq.1, hq.2.1, (hq.2.2.sift fun y hy => Or.inr (N y hy)).mono (by decide) (by decide)⟩⟩
theorem main_1_1 : Claimed_1_1 := comes_1 fun _ _ _ _ _ _ h hF => ⟨h.1, hF⟩
theorem main_1_2 : Claimed_1_2 := comes_1 fun _ _ _ _ _ _ h hF => ⟨h.2.1, hF⟩
end Jvm.Pilot.@@N@@
namespace Jvm.Pilot.@@N@@
open Jvm Jvm.ClassFile Sem Op Lib Jvm.Free Jvm.Stand Jvm.Pilot.@@N@@.Jvm.D
/-! MADE BY PROGRAM (witnessworld.py) out of the Statement's table words and the real class files: 14 classes; the members and pool entries that the words name. The judged class is class 1, her method 1. -/
namespace start1
open Jvm.ClassFile
def u (s : String) : CpInfo := .utf8 (stringToUtf16 s)
/-- a pool by its gaps: so many unusable entries, then the entry; so many at the end -/
def gap : Nat → List CpInfo → List CpInfo
  | 0, r => r
  | n + 1, r => .unusable :: gap n r
def poolList (es : List (Nat × CpInfo)) (last : Nat) : List CpInfo := es.foldr (fun e r => gap e.1 (e.2 :: r)) (gap last [])
def pool (es : List (Nat × CpInfo)) (last : Nat) : Array CpInfo := ⟨poolList es last⟩
def fileOf (pool : Array CpInfo) (this : Nat) (attrs : Array Attribute := #[]) (ms : Array MethodInfo := #[]) (fl : Nat := 33) (sup : Nat := 0) (ifs : Array Nat := #[]) (fds : Array FieldInfo := #[]) : ClassFile where
  minorVersion := 0
  majorVersion := 65
  constantPool := pool
  accessFlags := fl
  thisClass := this
  superClass := sup
  interfaces := ifs
  fields := fds
  methods := ms
  attributes := attrs
def plain (name : String) (sup : Option ClassId) : Class where
  name := name
  kind := .ordinary
  loader := none
  accessFlags := 33
  super := sup
  interfaces := #[]
  cf := none
  fields := #[]
  methods := #[]
  instanceTypes := #[]
  staticTypes := #[]
  resolved := #[]
  callSites := []
  init := .initialized
  statics := none
  mirror := none

def pool0 : Array CpInfo := pool [(5, u "<init>"), (0, u "()V"), (1, .class_ 10), (1, u "java/lang/Object")] 113

def k0c0 : Code := { maxStack := 0, maxLocals := 1, code := object_method_1_code, exceptionTable := #[], attributes := #[] }
def k0m0 : Method := { name := "<init>", desc := "()V", sig := { parameters := [], returnType := none }, accessFlags := 1, code := some k0c0 }
/-- java/lang/Object -/
def k0 : Class := { plain "java/lang/Object" none with
  accessFlags := 33
  interfaces := #[]
  cf := some (fileOf pool0 8 #[] #[{ accessFlags := 1, nameIndex := 5, descriptorIndex := 6, attributes := #[] }] 33 0 #[] #[])
  fields := #[]
  methods := #[k0m0]
  instanceTypes := #[]
  staticTypes := #[]
  resolved := Array.replicate 124 none
  statics := none }

def pool1 : Array CpInfo := pool [(2, .class_ 4), (1, u "java/lang/Object"), (0, u "<init>"), (0, u "()V"), (0, .fieldref 8 9), (0, .class_ 10), (0, .nameAndType 11 12), (0, u "com/example/nimble_quorum/nimblequorum/server/ServerStatus$Mode"), (0, u "STANDALONE"), (0, u "Lcom/example/nimble_quorum/nimblequorum/server/ServerStatus$Mode;"), (0, .fieldref 8 14), (0, .nameAndType 15 12), (0, u "LEADER"), (0, .fieldref 8 17), (0, .nameAndType 18 12), (0, u "FOLLOWER"), (0, .class_ 20), (0, u "com/example/nimble_quorum/nimblequorum/server/ServerStatus"), (0, .methodref 19 22), (0, .nameAndType 5 23), (0, u "(Lcom/example/nimble_quorum/nimblequorum/server/ServerStatus$Mode;J)V"), (0, .methodref 19 25), (0, .nameAndType 26 27), (0, u "opensSessions"), (0, u "()Z"), (0, .class_ 29), (0, u "com/example/nimble_quorum/nimblequorum/server/ServerStatusOpensSessionsPinLaw"), (2, u "law"), (0, u "(IJ)Z")] 5

def k1m0 : Method := { name := "<init>", desc := "()V", sig := { parameters := [], returnType := none }, accessFlags := 1, code := none }
def k1c1 : Code := { maxStack := 5, maxLocals := 7, code := code, exceptionTable := #[], attributes := #[] }
def k1m1 : Method := { name := "law", desc := "(IJ)Z", sig := { parameters := [.int, .long], returnType := some .boolean }, accessFlags := 9, code := some k1c1 }
/-- com/example/nimble_quorum/nimblequorum/server/ServerStatusOpensSessionsPinLaw -/
def k1 : Class := { plain "com/example/nimble_quorum/nimblequorum/server/ServerStatusOpensSessionsPinLaw" (some 0) with
  accessFlags := 49
  interfaces := #[]
  cf := some (fileOf pool1 28 #[] #[{ accessFlags := 1, nameIndex := 5, descriptorIndex := 6, attributes := #[] }, { accessFlags := 9, nameIndex := 32, descriptorIndex := 33, attributes := #[] }] 49 2 #[] #[])
  fields := #[]
  methods := #[k1m0, k1m1]
  instanceTypes := #[]
  staticTypes := #[]
  resolved := Array.replicate 39 none
  statics := none }

def pool2 : Array CpInfo := pool [(1, .methodref 2 3), (0, .class_ 4), (0, .nameAndType 5 6), (0, u "java/lang/Object"), (0, u "<init>"), (0, u "()V"), (0, .class_ 8), (0, u "java/lang/Record")] 13

def k2c0 : Code := { maxStack := 1, maxLocals := 1, code := jdk_30_method_1_code, exceptionTable := #[], attributes := #[] }
def k2m0 : Method := { name := "<init>", desc := "()V", sig := { parameters := [], returnType := none }, accessFlags := 4, code := some k2c0 }
/-- java/lang/Record -/
def k2 : Class := { plain "java/lang/Record" (some 0) with
  accessFlags := 1057
  interfaces := #[]
  cf := some (fileOf pool2 7 #[] #[{ accessFlags := 4, nameIndex := 5, descriptorIndex := 6, attributes := #[] }] 1057 2 #[] #[])
  fields := #[]
  methods := #[k2m0]
  instanceTypes := #[]
  staticTypes := #[]
  resolved := Array.replicate 22 none
  statics := none }

def pool3 : Array CpInfo := pool [(1, .methodref 2 3), (0, .class_ 4), (0, .nameAndType 5 6), (0, u "java/lang/Record"), (0, u "<init>"), (0, u "()V"), (0, .fieldref 8 9), (0, .class_ 10), (0, .nameAndType 11 12), (0, u "com/example/nimble_quorum/nimblequorum/server/ServerStatus"), (0, u "mode"), (0, u "Lcom/example/nimble_quorum/nimblequorum/server/ServerStatus$Mode;"), (0, .fieldref 8 14), (0, .nameAndType 15 16), (0, u "lastZxid"), (0, u "J"), (12, u "(Lcom/example/nimble_quorum/nimblequorum/server/ServerStatus$Mode;J)V"), (3, u "opensSessions"), (0, u "()Z"), (9, .class_ 45), (0, u "com/example/nimble_quorum/nimblequorum/server/ServerStatus$Mode")] 20

def k3c0 : Code := { maxStack := 3, maxLocals := 4, code := prog_25_method_1_code, exceptionTable := #[], attributes := #[] }
def k3m0 : Method := { name := "<init>", desc := "(Lcom/example/nimble_quorum/nimblequorum/server/ServerStatus$Mode;J)V", sig := { parameters := [(.object "com/example/nimble_quorum/nimblequorum/server/ServerStatus$Mode"), .long], returnType := none }, accessFlags := 0, code := some k3c0 }
def k3c1 : Code := { maxStack := 1, maxLocals := 1, code := prog_25_method_2_code, exceptionTable := #[], attributes := #[] }
def k3m1 : Method := { name := "opensSessions", desc := "()Z", sig := { parameters := [], returnType := some .boolean }, accessFlags := 0, code := some k3c1 }
/-- com/example/nimble_quorum/nimblequorum/server/ServerStatus -/
def k3 : Class := { plain "com/example/nimble_quorum/nimblequorum/server/ServerStatus" (some 2) with
  accessFlags := 48
  interfaces := #[]
  cf := some (fileOf pool3 8 #[.nestMembers #[44]] #[{ accessFlags := 0, nameIndex := 5, descriptorIndex := 29, attributes := #[] }, { accessFlags := 0, nameIndex := 33, descriptorIndex := 34, attributes := #[] }] 48 2 #[] #[{ accessFlags := 18, nameIndex := 11, descriptorIndex := 12, attributes := #[] }, { accessFlags := 18, nameIndex := 15, descriptorIndex := 16, attributes := #[] }])
  fields := #[{ name := "mode", type := (.object "com/example/nimble_quorum/nimblequorum/server/ServerStatus$Mode"), accessFlags := 18, slot := 0, constantValue := 0 }, { name := "lastZxid", type := .long, accessFlags := 18, slot := 1, constantValue := 0 }]
  methods := #[k3m0, k3m1]
  instanceTypes := #[(.object "com/example/nimble_quorum/nimblequorum/server/ServerStatus$Mode"), .long]
  staticTypes := #[]
  resolved := Array.replicate 66 none
  statics := none }

def pool4 : Array CpInfo := pool [(1, .class_ 2), (0, u "java/lang/constant/Constable"), (0, .class_ 4), (0, u "java/lang/Object")] 6

/-- java/lang/constant/Constable -/
def k4 : Class := { plain "java/lang/constant/Constable" (some 0) with
  accessFlags := 1537
  interfaces := #[]
  cf := some (fileOf pool4 1 #[] #[] 1537 3 #[] #[])
  fields := #[]
  methods := #[]
  instanceTypes := #[]
  staticTypes := #[]
  resolved := Array.replicate 11 none
  statics := none }

def pool5 : Array CpInfo := pool [(1, .class_ 2), (0, u "java/lang/Comparable"), (0, .class_ 4), (0, u "java/lang/Object")] 7

/-- java/lang/Comparable -/
def k5 : Class := { plain "java/lang/Comparable" (some 0) with
  accessFlags := 1537
  interfaces := #[]
  cf := some (fileOf pool5 1 #[] #[] 1537 3 #[] #[])
  fields := #[]
  methods := #[]
  instanceTypes := #[]
  staticTypes := #[]
  resolved := Array.replicate 12 none
  statics := none }

def pool6 : Array CpInfo := pool [(1, .class_ 2), (0, u "java/io/Serializable"), (0, .class_ 4), (0, u "java/lang/Object")] 2

/-- java/io/Serializable -/
def k6 : Class := { plain "java/io/Serializable" (some 0) with
  accessFlags := 1537
  interfaces := #[]
  cf := some (fileOf pool6 1 #[] #[] 1537 3 #[] #[])
  fields := #[]
  methods := #[]
  instanceTypes := #[]
  staticTypes := #[]
  resolved := Array.replicate 7 none
  statics := none }

def pool7 : Array CpInfo := pool [(2, .class_ 4), (1, u "java/lang/Enum"), (0, u "name"), (0, u "Ljava/lang/String;"), (2, u "ordinal"), (0, u "I"), (1, .class_ 14), (1, u "java/lang/Object"), (4, u "hash"), (86, .class_ 108), (1, u "java/lang/Enum$EnumDesc"), (2, .class_ 112), (0, u "java/lang/constant/Constable"), (0, .class_ 114), (0, u "java/lang/Comparable"), (0, .class_ 116), (0, u "java/io/Serializable")] 87

/-- java/lang/Enum -/
def k7 : Class := { plain "java/lang/Enum" (some 0) with
  accessFlags := 1057
  interfaces := #[4, 5, 6]
  cf := some (fileOf pool7 2 #[.nestMembers #[106]] #[] 1057 12 #[111, 113, 115] #[{ accessFlags := 18, nameIndex := 5, descriptorIndex := 6, attributes := #[] }, { accessFlags := 18, nameIndex := 9, descriptorIndex := 10, attributes := #[] }, { accessFlags := 2, nameIndex := 19, descriptorIndex := 10, attributes := #[] }])
  fields := #[{ name := "name", type := (.object "java/lang/String"), accessFlags := 18, slot := 0, constantValue := 0 }, { name := "ordinal", type := .int, accessFlags := 18, slot := 1, constantValue := 0 }, { name := "hash", type := .int, accessFlags := 2, slot := 2, constantValue := 0 }]
  methods := #[]
  instanceTypes := #[(.object "java/lang/String"), .int, .int]
  staticTypes := #[]
  resolved := Array.replicate 204 none
  statics := none }

def pool8 : Array CpInfo := pool [(1, .class_ 2), (0, u "com/example/nimble_quorum/nimblequorum/server/ServerStatus$Mode"), (2, u "STANDALONE"), (0, u "Lcom/example/nimble_quorum/nimblequorum/server/ServerStatus$Mode;"), (2, u "LEADER"), (2, u "FOLLOWER"), (2, u "$VALUES"), (0, u "[Lcom/example/nimble_quorum/nimblequorum/server/ServerStatus$Mode;"), (6, .class_ 25), (1, u "java/lang/Enum"), (43, .class_ 70), (0, u "com/example/nimble_quorum/nimblequorum/server/ServerStatus")] 2

/-- com/example/nimble_quorum/nimblequorum/server/ServerStatus$Mode -/
def k8 : Class := { plain "com/example/nimble_quorum/nimblequorum/server/ServerStatus$Mode" (some 7) with
  accessFlags := 16432
  interfaces := #[]
  cf := some (fileOf pool8 1 #[.nestHost 69] #[] 16432 23 #[] #[{ accessFlags := 16409, nameIndex := 5, descriptorIndex := 6, attributes := #[] }, { accessFlags := 16409, nameIndex := 9, descriptorIndex := 6, attributes := #[] }, { accessFlags := 16409, nameIndex := 12, descriptorIndex := 6, attributes := #[] }, { accessFlags := 4122, nameIndex := 15, descriptorIndex := 16, attributes := #[] }])
  fields := #[{ name := "STANDALONE", type := (.object "com/example/nimble_quorum/nimblequorum/server/ServerStatus$Mode"), accessFlags := 16409, slot := 0, constantValue := 0 }, { name := "LEADER", type := (.object "com/example/nimble_quorum/nimblequorum/server/ServerStatus$Mode"), accessFlags := 16409, slot := 1, constantValue := 0 }, { name := "FOLLOWER", type := (.object "com/example/nimble_quorum/nimblequorum/server/ServerStatus$Mode"), accessFlags := 16409, slot := 2, constantValue := 0 }, { name := "$VALUES", type := (.array (.object "com/example/nimble_quorum/nimblequorum/server/ServerStatus$Mode")), accessFlags := 4122, slot := 3, constantValue := 0 }]
  methods := #[]
  instanceTypes := #[(.object "java/lang/String"), .int, .int]
  staticTypes := #[(.object "com/example/nimble_quorum/nimblequorum/server/ServerStatus$Mode"), (.object "com/example/nimble_quorum/nimblequorum/server/ServerStatus$Mode"), (.object "com/example/nimble_quorum/nimblequorum/server/ServerStatus$Mode"), (.array (.object "com/example/nimble_quorum/nimblequorum/server/ServerStatus$Mode"))]
  resolved := Array.replicate 73 none
  statics := some 0 }

def pool9 : Array CpInfo := pool [(1, u "java/lang/Cloneable"), (0, .class_ 1), (0, u "java/lang/Object"), (0, .class_ 3)] 3

/-- java/lang/Cloneable -/
def k9 : Class := { plain "java/lang/Cloneable" (some 0) with
  accessFlags := 1537
  interfaces := #[]
  cf := some (fileOf pool9 2 #[] #[] 1537 4 #[] #[])
  fields := #[]
  methods := #[]
  instanceTypes := #[]
  staticTypes := #[]
  resolved := Array.replicate 8 none
  statics := none }

/-- the primitive byte -/
def k10 : Class := { plain "byte" none with kind := .primitive 'B', accessFlags := 0x411 }
/-- [B -/
def k11 : Class := { plain "[B" (some 0) with kind := .array 10 .byte, interfaces := #[9, 6], accessFlags := 1041 }

/-- the primitive int -/
def k12 : Class := { plain "int" none with kind := .primitive 'I', accessFlags := 0x411 }
/-- [I -/
def k13 : Class := { plain "[I" (some 0) with kind := .array 12 .int, interfaces := #[9, 6], accessFlags := 1041 }

def heap : Heap := #[{ cls := 8, slots := #[.ref 1, .ref 2, .ref 3, .null], vm := .statics 8 },
  { cls := 8, slots := #[.null, .int 0, .int 0], vm := .none },
  { cls := 8, slots := #[.null, .int 0, .int 0], vm := .none },
  { cls := 8, slots := #[.null, .int 0, .int 0], vm := .none }]
def classes : Array Class := #[k0, k1, k2, k3, k4, k5, k6, k7, k8, k9, k10, k11, k12, k13]
def interned : List (Array UInt16 × Addr) := []
def slotsUsed : Nat := 13
def theMethod : MethodId := ⟨1, 1⟩
def args0 : Array Value := #[.int 1, .long 5]
def aboutOver (below : List Frame) : State where
  vm := { classes := classes, interned := interned.toArray }
  heap := heap
  slotsUsed := slotsUsed
  threads := #[{ frames := .invoking theMethod args0 :: below }]
def below0 : List Frame := [.native { method := ⟨0, 0⟩, args := #[] }]
def about1 : State := aboutOver below0
def p0 : Program := .bare "" "" ""
def e0 : Env := launch0.env 0 0 0
theorem w_frames : about1.frames = Frame.invoking theMethod args0 :: below0 := rfl
set_option maxRecDepth 65536 in
theorem w_args : argsFit about1.vm theMethod args0 = true := by decide +kernel
set_option maxRecDepth 65536 in
theorem w_heap : heapFits about1 = true := by decide +kernel
set_option maxRecDepth 65536 in
theorem w_runnable : about1.curStatus? = some .runnable := by decide +kernel
set_option maxRecDepth 65536 in
theorem w_alone : about1.alone = true := by decide +kernel
set_option maxRecDepth 65536 in
theorem w_named : about1.methodNamed? x = some theMethod := by decide +kernel
set_option maxRecDepth 65536 in
theorem w_hears : about1.hears theMethod below0 = true := by decide +kernel
set_option maxRecDepth 65536 in
theorem w_ripe : about1.ripe theMethod args0 below0 = true := by decide +kernel
theorem w_running : about1.status = .running := rfl
set_option maxRecDepth 65536 in
theorem w_room : about1.hasRoom e0.platform room_1 = true :=
  launch0.hasRoom_least _ room_1 (by decide +kernel) (by decide +kernel) (by decide +kernel) (by decide +kernel) (by decide +kernel) (by decide +kernel)
theorem allAtoms_all (ts : List Jvm.Cond) (a : Array Jvm.Value) (st : Jvm.State) : (allAtoms ts).before a st = ts.all (fun c => c.before a st) := by
  induction ts with
  | nil => rfl
  | cons c t ih =>
    show (Jvm.Cond.and c (allAtoms t)).before a st = _
    rw [Jvm.Cond.before_and, ih, List.all_cons]
def words1 : List Jvm.Cond := Jvm.Cond.code x code maxLocals ret :: tables_1
/-- a 'code' word, met by the world's own term for the bytes: nothing is compared byte by byte -/
theorem code_word {y : MethodName} {bytes : ByteArray} {mx : Nat} {rt : Option FieldType} {a : Array Value} {s : State} {m : MethodId} {meth : Method} {c : Code} (h1 : s.methodNamed? y = some m) (h2 : s.vm.method? m = some meth) (h3 : meth.code = some c) (h4 : c.code = bytes)
    (h5 : (c.maxLocals == mx && c.exceptionTable.isEmpty && decide (c.maxStack ≤ mostOperands) && decide (meth.sig.returnType = rt) && !meth.locks && decide (parseMethodDescriptor y.desc = some meth.sig)) = true) : (Jvm.Cond.code y bytes mx rt).before a s = true := by
  simp only [Bool.and_eq_true, beq_iff_eq, Bool.not_eq_true', decide_eq_true_eq] at h5
  obtain ⟨⟨⟨⟨⟨g1, g2⟩, g3⟩, g4⟩, g5⟩, g6⟩ := h5
  simp [Cond.before, Cond.holds, Cond.value, h1, h2, h3, h4, g1, g2, g3, g4, g5, g6]
def isCode : Jvm.Cond → Bool
  | .code _ _ _ _ => true
  | _ => false
theorem all_split {L : List Jvm.Cond} {P : Jvm.Cond → Bool} (h1 : L.all (fun c => isCode c || P c) = true) (h2 : ∀ c ∈ L.filter isCode, P c = true) : L.all P = true := by
  refine List.all_eq_true.mpr fun c hc => ?_
  have h := List.all_eq_true.mp h1 c hc
  rcases Bool.eq_false_or_eq_true (isCode c) with hi | hi
  · exact h2 c (List.mem_filter.mpr ⟨hc, hi⟩)
  · simpa [hi] using h
set_option maxRecDepth 65536 in
theorem w_c0 : (Jvm.Cond.code x code maxLocals ret).before args0 about1 = true := code_word (m := ⟨1, 1⟩) (meth := k1m1) (c := k1c1) (by decide +kernel) rfl rfl rfl (by decide +kernel)
set_option maxRecDepth 65536 in
theorem w_c1 : (Jvm.Cond.code ({ cls := "com/example/nimble_quorum/nimblequorum/server/ServerStatus", name := "<init>", desc := "(Lcom/example/nimble_quorum/nimblequorum/server/ServerStatus$Mode;J)V" } : Jvm.MethodName) prog_25_method_1_code (4 : Nat) (Option.none : Option Jvm.ClassFile.FieldType)).before args0 about1 = true := code_word (m := ⟨3, 0⟩) (meth := k3m0) (c := k3c0) (by decide +kernel) rfl rfl rfl (by decide +kernel)
set_option maxRecDepth 65536 in
theorem w_c2 : (Jvm.Cond.code ({ cls := "java/lang/Record", name := "<init>", desc := "()V" } : Jvm.MethodName) jdk_30_method_1_code (1 : Nat) (Option.none : Option Jvm.ClassFile.FieldType)).before args0 about1 = true := code_word (m := ⟨2, 0⟩) (meth := k2m0) (c := k2c0) (by decide +kernel) rfl rfl rfl (by decide +kernel)
set_option maxRecDepth 65536 in
theorem w_c3 : (Jvm.Cond.code ({ cls := "java/lang/Object", name := "<init>", desc := "()V" } : Jvm.MethodName) object_method_1_code (1 : Nat) (Option.none : Option Jvm.ClassFile.FieldType)).before args0 about1 = true := code_word (m := ⟨0, 0⟩) (meth := k0m0) (c := k0c0) (by decide +kernel) rfl rfl rfl (by decide +kernel)
set_option maxRecDepth 65536 in
theorem w_c4 : (Jvm.Cond.code ({ cls := "com/example/nimble_quorum/nimblequorum/server/ServerStatus", name := "opensSessions", desc := "()Z" } : Jvm.MethodName) prog_25_method_2_code (1 : Nat) (Option.some Jvm.ClassFile.FieldType.boolean)).before args0 about1 = true := code_word (m := ⟨3, 1⟩) (meth := k3m1) (c := k3c1) (by decide +kernel) rfl rfl rfl (by decide +kernel)
def codes1 : List Jvm.Cond := [Jvm.Cond.code x code maxLocals ret, Jvm.Cond.code ({ cls := "com/example/nimble_quorum/nimblequorum/server/ServerStatus", name := "<init>", desc := "(Lcom/example/nimble_quorum/nimblequorum/server/ServerStatus$Mode;J)V" } : Jvm.MethodName) prog_25_method_1_code (4 : Nat) (Option.none : Option Jvm.ClassFile.FieldType), Jvm.Cond.code ({ cls := "java/lang/Record", name := "<init>", desc := "()V" } : Jvm.MethodName) jdk_30_method_1_code (1 : Nat) (Option.none : Option Jvm.ClassFile.FieldType), Jvm.Cond.code ({ cls := "java/lang/Object", name := "<init>", desc := "()V" } : Jvm.MethodName) object_method_1_code (1 : Nat) (Option.none : Option Jvm.ClassFile.FieldType), Jvm.Cond.code ({ cls := "com/example/nimble_quorum/nimblequorum/server/ServerStatus", name := "opensSessions", desc := "()Z" } : Jvm.MethodName) prog_25_method_2_code (1 : Nat) (Option.some Jvm.ClassFile.FieldType.boolean)]
set_option maxRecDepth 65536 in
theorem codes_eq : words1.filter isCode = codes1 := rfl
theorem w_codes : ∀ c ∈ words1.filter isCode, c.before args0 about1 = true := by
  rw [codes_eq]
  intro c hc
  simp only [codes1, List.mem_cons, List.not_mem_nil, or_false] at hc
  rcases hc with rfl | rfl | rfl | rfl | rfl
  · exact w_c0
  · exact w_c1
  · exact w_c2
  · exact w_c3
  · exact w_c4
set_option maxRecDepth 65536 in
theorem w_t1 : (words1.take 24).all (fun c => isCode c || c.before args0 about1) = true := by decide +kernel
set_option maxRecDepth 65536 in
theorem w_t2 : (words1.drop 24).all (fun c => isCode c || c.before args0 about1) = true := by decide +kernel
theorem w_tables : (allAtoms (Jvm.Cond.code x code maxLocals ret :: tables_1)).before args0 about1 = true := by
  rw [allAtoms_all]
  show words1.all (fun c => c.before args0 about1) = true
  refine all_split ?_ w_codes
  rw [← List.take_append_drop 24 words1, List.all_append, w_t1, w_t2]
  rfl
set_option maxRecDepth 65536 in
theorem w_case : (Jvm.Cond.and given_1 narrow_1).before args0 about1 = true := by decide +kernel
theorem w_applies : (headSpec (Jvm.Cond.code x code maxLocals ret :: tables_1) room_1).applies x e0.platform about1 = true :=
  (Spec.applies_iff w_frames).mpr ⟨w_running, w_runnable, w_alone, w_named, w_hears, w_ripe, w_room, w_tables⟩
theorem atStart : AtStart classFile x code maxLocals ret World_1 tables_1 room_1 Calls_1 rest_1 Pre_1 launch0 p0 e0 about1 theMethod args0 below0 :=
  ⟨lists_1, trivial, launch0.admits_env _ _ _, launch0.least_env, fairChoices_fair.cas, fairChoices_fair.clock, w_frames, w_args, w_heap, w_applies, trivial, trivial, w_case⟩
end start1
theorem witness_1 : WitnessClaimed_1 := ⟨start1.p0, start1.e0, start1.about1, start1.theMethod, start1.args0, start1.below0, start1.atStart⟩
end Jvm.Pilot.@@N@@
