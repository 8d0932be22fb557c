import JvmDerived
import JvmDerived.Pilot.@@N@@Statement
import JvmDerived.Pilot.@@N@@Code
set_option linter.unusedVariables false
set_option linter.unusedSimpArgs false
namespace Jvm.RoadKit
open Sem ClassFile Op Lib Jvm.Stand Jvm.Free Jvm.LawKit
section New
variable {p : Program} {l : Launch} {e : Env} {R : Room} {s : State} {m : MethodId} {args : Array Value} {below : List Frame} {meth : Method} {c : Code} {T : State} {locs : List Loc} {cells slots : Nat}
theorem retI (X : Stand p l e R s m args below meth c T locs cells slots) (hx : p.tables.exec = Jvm.exec) {pc : Nat} {Ls : Array Slot} {z : Int32} {rest : List Value} (hret : meth.sig.returnType = some .int) (hd : decode c.code pc = .ok (.ireturn, 1)) {fs : List Frame}
    (hl : ∀ (f : JFrame) (acts : List Action), f.method = m → f.locked = none → f.entered = [] → (doReturn e (T.setTop f) acts (some (.int z))).1 = T.setFrames fs) : Steps p.tables e below (T.setTop (mkF m pc Ls (.int z :: rest))) (T.setFrames fs) := by
  have hm' : T.vm.method? m = some meth := X.method'
  have hn : narrow .int (.int z) = .int z := rfl
  show Steps p.tables e below (T.setTop { method := m, pc := pc, locals := Ls, stack := _ :: rest, locked := none }) _
  jvm_step X.here [X.here.top, hx, hd, hm', hret, hn]
  first | (intro acts; rw [hl _ acts rfl rfl rfl]) | rw [hl _ _ rfl rfl rfl]
  exact Steps.refl _
end New
end Jvm.RoadKit
namespace Jvm.Pilot.@@N@@
open Jvm Jvm.ClassFile Sem Op Lib Jvm.Free Jvm.Stand Jvm.LawKit Jvm.RoadKit Bundle Jvm.Pilot.@@N@@.Jvm.D
def OwnQ (r : Option Value) (h0 : Heap) (n0 : Nat) (v : Option Value) (h : Heap) (L : List Loc) : Prop := v = r ∧ Fr n0 L ∧ h = h0
theorem own_sz {Z : State} {n0 : Nat} {h : Heap} (O : Old Z n0 h) : n0 ≤ h.size := O.1 ▸ O.2.1
theorem own_new {Z : State} {n0 : Nat} {h : Heap} {b : Addr} (O : Old Z n0 h) (g : b = h.size) : n0 ≤ b := Nat.le_trans (own_sz O) (Nat.le_of_eq g.symm)
theorem own_eqi {args : Array Value} {first s : State} {o : Option Outcome} {idx : List Nat} {a : Term} {k : Int32} (h : (Cond.eq a (Term.int k)).value args first o s idx = some true) : a.eval args first o idx s = some (.int k) := by
  obtain ⟨x, y, h1, h2, h3, -⟩ := cmp_v (Or.inl h)
  have e2 : y = .int k := (Option.some.inj ((Term.int_eval k).symm.trans h2)).symm
  subst e2
  cases x with
  | int z =>
    have q : z = k := by
      have h4 := h
      simp only [Cond.value, h1, h2] at h4
      simpa using h4
    rw [h1, q]
  | _ => first | (obtain ⟨z, hz⟩ := h3; cases hz) | (cases h3.2)
def OwnG (Z : State) (wENTITY : Addr) (wROLE_NAME : Addr) : Prop := Sta Z Z.heap "com/example/credlib/credlib/policy/NameRule" "ENTITY" "Lcom/example/credlib/credlib/policy/NameRule;" (.ref wENTITY) ∧
  Exa Z Z.heap wENTITY "com/example/credlib/credlib/policy/NameRule" ∧
  Sta Z Z.heap "com/example/credlib/credlib/policy/NameRule" "ROLE_NAME" "Lcom/example/credlib/credlib/policy/NameRule;" (.ref wROLE_NAME) ∧
  Exa Z Z.heap wROLE_NAME "com/example/credlib/credlib/policy/NameRule" ∧
  Fld Z Z.heap wENTITY "com/example/credlib/credlib/policy/NameRule" "firstStart" "C" (.int (65 : Int32)) ∧
  Fld Z Z.heap wROLE_NAME "com/example/credlib/credlib/policy/NameRule" "firstStart" "C" (.int (97 : Int32)) ∧
  Fld Z Z.heap wENTITY "com/example/credlib/credlib/policy/NameRule" "lastStart" "C" (.int (90 : Int32)) ∧
  Fld Z Z.heap wROLE_NAME "com/example/credlib/credlib/policy/NameRule" "lastStart" "C" (.int (122 : Int32)) ∧
  wENTITY ≠ wROLE_NAME
theorem own_pn_0 : plainName "com/example/credlib/credlib/policy/NameRuleIsPartPinLaw" = true := by first | (simp [plainName, overriddenIn]; done) | decide +kernel
theorem own_ef_0_II (m : MethodId) (x0 : Int32) (x1 : Int32) : entryFrame m #[(.int x0), (.int x1)] maxLocals = mkF m 0 #[.val (.int x0), .val (.int x1), .unset, .unset] [] := by first | (simp [entryFrame, mkF, argsToLocals, Value.category, maxLocals]; done) | rfl
theorem own_pn_1 : plainName "com/example/credlib/credlib/policy/NameRule" = true := by first | (simp [plainName, overriddenIn]; done) | decide +kernel
theorem own_ef_1_I (m : MethodId) (x0 : Int32) : entryFrame m #[(.int x0)] 1 = mkF m 0 #[.val (.int x0)] [] := by first | (simp [entryFrame, mkF, argsToLocals, Value.category]; done) | rfl
theorem own_d1_0 : decode prog_30_method_7_code 0 = .ok (.iload_n 0, 1) := by decide +kernel
theorem own_d1_1 : decode prog_30_method_7_code 1 = .ok (.bipush 65, 2) := by decide +kernel
theorem own_d1_3 : decode prog_30_method_7_code 3 = .ok (.if_icmp .lt 9, 3) := by decide +kernel
theorem own_d1_12 : decode prog_30_method_7_code 12 = .ok (.iload_n 0, 1) := by decide +kernel
theorem own_d1_13 : decode prog_30_method_7_code 13 = .ok (.bipush 97, 2) := by decide +kernel
theorem own_d1_15 : decode prog_30_method_7_code 15 = .ok (.if_icmp .lt 9, 3) := by decide +kernel
theorem own_d1_24 : decode prog_30_method_7_code 24 = .ok (.iload_n 0, 1) := by decide +kernel
theorem own_d1_25 : decode prog_30_method_7_code 25 = .ok (.bipush 48, 2) := by decide +kernel
theorem own_d1_27 : decode prog_30_method_7_code 27 = .ok (.if_icmp .lt 9, 3) := by decide +kernel
theorem own_d1_36 : decode prog_30_method_7_code 36 = .ok (.iload_n 0, 1) := by decide +kernel
theorem own_d1_37 : decode prog_30_method_7_code 37 = .ok (.bipush 95, 2) := by decide +kernel
theorem own_d1_39 : decode prog_30_method_7_code 39 = .ok (.if_icmp .ne 7, 3) := by decide +kernel
theorem own_d1_46 : decode prog_30_method_7_code 46 = .ok (.iconst 0, 1) := by decide +kernel
theorem own_d1_47 : decode prog_30_method_7_code 47 = .ok (.ireturn, 1) := by decide +kernel
set_option maxRecDepth 65536 in
set_option maxHeartbeats 40000000 in
theorem own_isPart_0 (l : Launch) (Z : State) (a0 : Array Value) (hw : ∀ d ∈ tables_1, d.before a0 Z = true) (ws : List Jvm.Cond) (wENTITY : Addr) (wROLE_NAME : Addr) (G : OwnG Z wENTITY wROLE_NAME) (h0 : Heap) (n0 : Nat) (O0 : Old Z n0 h0) (v1 : Int32) (hp1 : v1 < (65 : Int32)) (hp2 : ¬ ((90 : Int32) < v1)) (hp3 : v1 < (97 : Int32)) (hp4 : ¬ ((122 : Int32) < v1)) (hp5 : v1 < (48 : Int32)) (hp6 : ¬ ((57 : Int32) < v1)) (hp7 : ¬ (v1 = (95 : Int32))) (hp8 : (v1 ||| (32 : Int32)) < (97 : Int32)) (hp9 : ¬ ((122 : Int32) < (v1 ||| (32 : Int32)))) (hp10 : (lcmpW ((v1.toInt64) - (48 : Int64)) (0 : Int64)) < (0 : Int32)) (hp11 : (lcmpW ((v1.toInt64) - (48 : Int64)) (10 : Int64)) < (0 : Int32)) :
    MetFree l (⟨"com/example/credlib/credlib/policy/NameRule", "isPart", "(I)Z"⟩ : MethodName) (head1 (Jvm.Cond.code (⟨"com/example/credlib/credlib/policy/NameRule", "isPart", "(I)Z"⟩ : MethodName) prog_30_method_7_code 1 (some .boolean) :: ws) ({ frames := 0, cells := 0, slots := 0, locals := 0 } : Room)) (fun a U => a = #[(.int v1)] ∧ Z.Warmed39 U.vm ∧ U.heap = h0) (fun _ _ _ _ _ => True) (fun _ U o U' => ∃ v L, o = .returned v ∧ OwnQ (some (.int (0 : Int32))) h0 n0 v U'.heap L ∧ FrameEnd U o U' L ({ frames := 0, cells := 0, slots := 0, locals := 0 } : Room).cells ({ frames := 0, cells := 0, slots := 0, locals := 0 } : Room).slots) := by
  refine MetFree.of_bodySF (plainFor_of_name own_pn_1) hisR ?_
  intro p e s m args below meth c s₁ Bd hml0 hP hK
  obtain ⟨rfl, hZ, hh⟩ := hP
  have hx := Bd.exec
  have hby := Bd.bytes
  have hml : c.maxLocals = 1 := hml0
  have hown : s.vm.findClass "com/example/credlib/credlib/policy/NameRule" = some m.cls := findClass_of_methodNamed Bd.named
  have hnm := (name_of_methodNamed Bd.named Bd.method).1
  have X0 : Stand p l e ({ frames := 0, cells := 0, slots := 0, locals := 0 } : Room) s m #[(.int v1)] below meth c s₁ [] 0 0 := Stand.of_body Bd
  have e0 : s₁.heap = h0 := by rw [← hh, Bd.state]; rfl
  have N0 := Fr.nil n0
  have pre0 : ∀ t, Steps p.tables e below (s₁.setTop (mkF m 0 #[.val (.int v1)] [])) t → Steps p.tables e below (s₁.setTop (entryFrame m #[(.int v1)] 1)) t := fun t k => castTop (own_ef_1_I m v1) k
  obtain ⟨fs, hr, hrun, hended, hW, hsame⟩ := X0.leave (v := some (.int (0 : Int32))) (fun h => by rw [Bd.returns] at h; cases h)
  refine ⟨_, _, pre0 _ ?_, hrun, hended, _, _, rfl, ?_, ⟨_, rfl⟩, hW, hsame.mono (by decide) (by decide)⟩
  · show Steps p.tables e below (s₁.setTop (mkF m 0 #[.val (.int v1)] [])) _
    refine XS.iloadN X0.here hx rfl (hb hby own_d1_0) rfl ?_
    show Steps p.tables e below (s₁.setTop (mkF m 1 #[.val (.int v1)] [(.int v1)])) _
    refine XS.bipush X0.here hx rfl (hb hby own_d1_1) ?_
    show Steps p.tables e below (s₁.setTop (mkF m 3 #[.val (.int v1)] [(.int (65 : Int32)), (.int v1)])) _
    refine XS.icmpYes X0.here hx rfl (pc0 := 3) (pc' := 12) rfl (hb hby own_d1_3) rfl (tlt (hp1 : v1 < (65 : Int32))).1 (by decide) (by decide) ?_
    show Steps p.tables e below (s₁.setTop (mkF m 12 #[.val (.int v1)] [])) _
    refine XS.iloadN X0.here hx rfl (hb hby own_d1_12) rfl ?_
    show Steps p.tables e below (s₁.setTop (mkF m 13 #[.val (.int v1)] [(.int v1)])) _
    refine XS.bipush X0.here hx rfl (hb hby own_d1_13) ?_
    show Steps p.tables e below (s₁.setTop (mkF m 15 #[.val (.int v1)] [(.int (97 : Int32)), (.int v1)])) _
    refine XS.icmpYes X0.here hx rfl (pc0 := 15) (pc' := 24) rfl (hb hby own_d1_15) rfl (tlt (hp3 : v1 < (97 : Int32))).1 (by decide) (by decide) ?_
    show Steps p.tables e below (s₁.setTop (mkF m 24 #[.val (.int v1)] [])) _
    refine XS.iloadN X0.here hx rfl (hb hby own_d1_24) rfl ?_
    show Steps p.tables e below (s₁.setTop (mkF m 25 #[.val (.int v1)] [(.int v1)])) _
    refine XS.bipush X0.here hx rfl (hb hby own_d1_25) ?_
    show Steps p.tables e below (s₁.setTop (mkF m 27 #[.val (.int v1)] [(.int (48 : Int32)), (.int v1)])) _
    refine XS.icmpYes X0.here hx rfl (pc0 := 27) (pc' := 36) rfl (hb hby own_d1_27) rfl (tlt (hp5 : v1 < (48 : Int32))).1 (by decide) (by decide) ?_
    show Steps p.tables e below (s₁.setTop (mkF m 36 #[.val (.int v1)] [])) _
    refine XS.iloadN X0.here hx rfl (hb hby own_d1_36) rfl ?_
    show Steps p.tables e below (s₁.setTop (mkF m 37 #[.val (.int v1)] [(.int v1)])) _
    refine XS.bipush X0.here hx rfl (hb hby own_d1_37) ?_
    show Steps p.tables e below (s₁.setTop (mkF m 39 #[.val (.int v1)] [(.int (95 : Int32)), (.int v1)])) _
    refine XS.icmpYes X0.here hx rfl (pc0 := 39) (pc' := 46) rfl (hb hby own_d1_39) rfl (feq (hp7 : ¬ (v1 = (95 : Int32)))).2 (by decide) (by decide) ?_
    show Steps p.tables e below (s₁.setTop (mkF m 46 #[.val (.int v1)] [])) _
    refine XS.iconst X0.here hx rfl (hb hby own_d1_46) ?_
    show Steps p.tables e below (s₁.setTop (mkF m 47 #[.val (.int v1)] [(.int (0 : Int32))])) _
    exact retN X0 hx (t := .boolean) Bd.returns (by simp) (hb hby own_d1_47) hr
  · show OwnQ _ h0 n0 _ s₁.heap _
    exact ⟨rfl, N0, e0⟩
theorem own_pd_0 : parseMethodDescriptor "(I)Z" = some ⟨[.int], some .boolean⟩ := by decide +kernel
theorem own_ef_2_I (m : MethodId) (x0 : Int32) : entryFrame m #[(.int x0)] 7 = mkF m 0 #[.val (.int x0), .unset, .unset, .unset, .unset, .unset, .unset] [] := by first | (simp [entryFrame, mkF, argsToLocals, Value.category]; done) | rfl
theorem own_d2_0 : decode method_2_code 0 = .ok (.iload_n 0, 1) := by decide +kernel
theorem own_d2_1 : decode method_2_code 1 = .ok (.bipush 32, 2) := by decide +kernel
theorem own_d2_3 : decode method_2_code 3 = .ok (.ior, 1) := by decide +kernel
theorem own_d2_4 : decode method_2_code 4 = .ok (.istore_n 1, 1) := by decide +kernel
theorem own_d2_5 : decode method_2_code 5 = .ok (.iload_n 1, 1) := by decide +kernel
theorem own_d2_6 : decode method_2_code 6 = .ok (.bipush 97, 2) := by decide +kernel
theorem own_d2_8 : decode method_2_code 8 = .ok (.if_icmp .lt 13, 3) := by decide +kernel
theorem own_d2_21 : decode method_2_code 21 = .ok (.iconst 0, 1) := by decide +kernel
theorem own_d2_22 : decode method_2_code 22 = .ok (.istore_n 2, 1) := by decide +kernel
theorem own_d2_23 : decode method_2_code 23 = .ok (.iload_n 0, 1) := by decide +kernel
theorem own_d2_24 : decode method_2_code 24 = .ok (.i2l, 1) := by decide +kernel
theorem own_d2_25 : decode method_2_code 25 = .ok (.ldc2_w 7, 3) := by decide +kernel
theorem own_d2_28 : decode method_2_code 28 = .ok (.lsub, 1) := by decide +kernel
theorem own_d2_29 : decode method_2_code 29 = .ok (.lstore_n 3, 1) := by decide +kernel
theorem own_d2_30 : decode method_2_code 30 = .ok (.lload_n 3, 1) := by decide +kernel
theorem own_d2_31 : decode method_2_code 31 = .ok (.lconst 0, 1) := by decide +kernel
theorem own_d2_32 : decode method_2_code 32 = .ok (.lcmp, 1) := by decide +kernel
theorem own_d2_33 : decode method_2_code 33 = .ok (.ifCond .lt 15, 3) := by decide +kernel
theorem own_d2_48 : decode method_2_code 48 = .ok (.iconst 0, 1) := by decide +kernel
theorem own_d2_49 : decode method_2_code 49 = .ok (.istore 5, 2) := by decide +kernel
theorem own_d2_51 : decode method_2_code 51 = .ok (.iload_n 0, 1) := by decide +kernel
theorem own_d2_52 : decode method_2_code 52 = .ok (.bipush 95, 2) := by decide +kernel
theorem own_d2_54 : decode method_2_code 54 = .ok (.if_icmp .ne 7, 3) := by decide +kernel
theorem own_d2_61 : decode method_2_code 61 = .ok (.iconst 0, 1) := by decide +kernel
theorem own_d2_62 : decode method_2_code 62 = .ok (.istore 6, 2) := by decide +kernel
theorem own_d2_64 : decode method_2_code 64 = .ok (.iload_n 2, 1) := by decide +kernel
theorem own_d2_65 : decode method_2_code 65 = .ok (.ifCond .ne 13, 3) := by decide +kernel
theorem own_d2_68 : decode method_2_code 68 = .ok (.iload 5, 2) := by decide +kernel
theorem own_d2_70 : decode method_2_code 70 = .ok (.ifCond .ne 8, 3) := by decide +kernel
theorem own_d2_73 : decode method_2_code 73 = .ok (.iload 6, 2) := by decide +kernel
theorem own_d2_75 : decode method_2_code 75 = .ok (.ifCond .eq 7, 3) := by decide +kernel
theorem own_d2_82 : decode method_2_code 82 = .ok (.iconst 0, 1) := by decide +kernel
theorem own_d2_83 : decode method_2_code 83 = .ok (.ireturn, 1) := by decide +kernel
set_option maxRecDepth 65536 in
set_option maxHeartbeats 40000000 in
theorem own_expected_1 (l : Launch) (Z : State) (a0 : Array Value) (hw : ∀ d ∈ tables_1, d.before a0 Z = true) (ws : List Jvm.Cond) (wENTITY : Addr) (wROLE_NAME : Addr) (G : OwnG Z wENTITY wROLE_NAME) (h0 : Heap) (n0 : Nat) (O0 : Old Z n0 h0) (v1 : Int32) (hp1 : v1 < (65 : Int32)) (hp2 : ¬ ((90 : Int32) < v1)) (hp3 : v1 < (97 : Int32)) (hp4 : ¬ ((122 : Int32) < v1)) (hp5 : v1 < (48 : Int32)) (hp6 : ¬ ((57 : Int32) < v1)) (hp7 : ¬ (v1 = (95 : Int32))) (hp8 : (v1 ||| (32 : Int32)) < (97 : Int32)) (hp9 : ¬ ((122 : Int32) < (v1 ||| (32 : Int32)))) (hp10 : (lcmpW ((v1.toInt64) - (48 : Int64)) (0 : Int64)) < (0 : Int32)) (hp11 : (lcmpW ((v1.toInt64) - (48 : Int64)) (10 : Int64)) < (0 : Int32)) :
    MetFree l (⟨"com/example/credlib/credlib/policy/NameRuleIsPartPinLaw", "expected", "(I)Z"⟩ : MethodName) (head1 (Jvm.Cond.code (⟨"com/example/credlib/credlib/policy/NameRuleIsPartPinLaw", "expected", "(I)Z"⟩ : MethodName) method_2_code 7 (some .boolean) :: ws) ({ frames := 0, cells := 0, slots := 0, locals := 0 } : Room)) (fun a U => a = #[(.int v1)] ∧ Z.Warmed39 U.vm ∧ U.heap = h0) (fun _ _ _ _ _ => True) (fun _ U o U' => ∃ v L, o = .returned v ∧ OwnQ (some (.int (0 : Int32))) h0 n0 v U'.heap L ∧ FrameEnd U o U' L ({ frames := 0, cells := 0, slots := 0, locals := 0 } : Room).cells ({ frames := 0, cells := 0, slots := 0, locals := 0 } : Room).slots) := by
  refine MetFree.of_bodySF (plainFor_of_name own_pn_0) hisR ?_
  intro p e s m args below meth c s₁ Bd hml0 hP hK
  obtain ⟨rfl, hZ, hh⟩ := hP
  have hx := Bd.exec
  have hby := Bd.bytes
  have hml : c.maxLocals = 7 := hml0
  have hown : s.vm.findClass "com/example/credlib/credlib/policy/NameRuleIsPartPinLaw" = some m.cls := findClass_of_methodNamed Bd.named
  have hnm := (name_of_methodNamed Bd.named Bd.method).1
  have X0 : Stand p l e ({ frames := 0, cells := 0, slots := 0, locals := 0 } : Room) s m #[(.int v1)] below meth c s₁ [] 0 0 := Stand.of_body Bd
  have e0 : s₁.heap = h0 := by rw [← hh, Bd.state]; rfl
  have N0 := Fr.nil n0
  have pre0 : ∀ t, Steps p.tables e below (s₁.setTop (mkF m 0 #[.val (.int v1), .unset, .unset, .unset, .unset, .unset, .unset] [])) t → Steps p.tables e below (s₁.setTop (entryFrame m #[(.int v1)] 7)) t := fun t k => castTop (own_ef_2_I m v1) k
  obtain ⟨fs, hr, hrun, hended, hW, hsame⟩ := X0.leave (v := some (.int (0 : Int32))) (fun h => by rw [Bd.returns] at h; cases h)
  refine ⟨_, _, pre0 _ ?_, hrun, hended, _, _, rfl, ?_, ⟨_, rfl⟩, hW, hsame.mono (by decide) (by decide)⟩
  · show Steps p.tables e below (s₁.setTop (mkF m 0 #[.val (.int v1), .unset, .unset, .unset, .unset, .unset, .unset] [])) _
    refine XS.iloadN X0.here hx rfl (hb hby own_d2_0) rfl ?_
    show Steps p.tables e below (s₁.setTop (mkF m 1 #[.val (.int v1), .unset, .unset, .unset, .unset, .unset, .unset] [(.int v1)])) _
    refine XS.bipush X0.here hx rfl (hb hby own_d2_1) ?_
    show Steps p.tables e below (s₁.setTop (mkF m 3 #[.val (.int v1), .unset, .unset, .unset, .unset, .unset, .unset] [(.int (32 : Int32)), (.int v1)])) _
    refine XS.ior X0.here hx rfl (hb hby own_d2_3) rfl ?_
    show Steps p.tables e below (s₁.setTop (mkF m 4 #[.val (.int v1), .unset, .unset, .unset, .unset, .unset, .unset] [(.int (v1 ||| (32 : Int32)))])) _
    refine XS.istoreN X0.here hx rfl (hb hby own_d2_4) rfl (l' := #[.val (.int v1), .val (.int (v1 ||| (32 : Int32))), .unset, .unset, .unset, .unset, .unset]) rfl ?_
    show Steps p.tables e below (s₁.setTop (mkF m 5 #[.val (.int v1), .val (.int (v1 ||| (32 : Int32))), .unset, .unset, .unset, .unset, .unset] [])) _
    refine XS.iloadN X0.here hx rfl (hb hby own_d2_5) rfl ?_
    show Steps p.tables e below (s₁.setTop (mkF m 6 #[.val (.int v1), .val (.int (v1 ||| (32 : Int32))), .unset, .unset, .unset, .unset, .unset] [(.int (v1 ||| (32 : Int32)))])) _
    refine XS.bipush X0.here hx rfl (hb hby own_d2_6) ?_
    show Steps p.tables e below (s₁.setTop (mkF m 8 #[.val (.int v1), .val (.int (v1 ||| (32 : Int32))), .unset, .unset, .unset, .unset, .unset] [(.int (97 : Int32)), (.int (v1 ||| (32 : Int32)))])) _
    refine XS.icmpYes X0.here hx rfl (pc0 := 8) (pc' := 21) rfl (hb hby own_d2_8) rfl (tlt (hp8 : (v1 ||| (32 : Int32)) < (97 : Int32))).1 (by decide) (by decide) ?_
    show Steps p.tables e below (s₁.setTop (mkF m 21 #[.val (.int v1), .val (.int (v1 ||| (32 : Int32))), .unset, .unset, .unset, .unset, .unset] [])) _
    refine XS.iconst X0.here hx rfl (hb hby own_d2_21) ?_
    show Steps p.tables e below (s₁.setTop (mkF m 22 #[.val (.int v1), .val (.int (v1 ||| (32 : Int32))), .unset, .unset, .unset, .unset, .unset] [(.int (0 : Int32))])) _
    refine XS.istoreN X0.here hx rfl (hb hby own_d2_22) rfl (l' := #[.val (.int v1), .val (.int (v1 ||| (32 : Int32))), .val (.int (0 : Int32)), .unset, .unset, .unset, .unset]) rfl ?_
    show Steps p.tables e below (s₁.setTop (mkF m 23 #[.val (.int v1), .val (.int (v1 ||| (32 : Int32))), .val (.int (0 : Int32)), .unset, .unset, .unset, .unset] [])) _
    refine XS.iloadN X0.here hx rfl (hb hby own_d2_23) rfl ?_
    show Steps p.tables e below (s₁.setTop (mkF m 24 #[.val (.int v1), .val (.int (v1 ||| (32 : Int32))), .val (.int (0 : Int32)), .unset, .unset, .unset, .unset] [(.int v1)])) _
    refine XS.i2l X0.here hx rfl (hb hby own_d2_24) rfl ?_
    show Steps p.tables e below (s₁.setTop (mkF m 25 #[.val (.int v1), .val (.int (v1 ||| (32 : Int32))), .val (.int (0 : Int32)), .unset, .unset, .unset, .unset] [(.long (v1.toInt64))])) _
    refine Jvm.Stand.ldc2J X0 hx hown (mvT hZ (hw _ (List.mem_of_getElem? (i := 8) rfl))) rfl (hb hby own_d2_25) ?_
    show Steps p.tables e below (s₁.setTop (mkF m 28 #[.val (.int v1), .val (.int (v1 ||| (32 : Int32))), .val (.int (0 : Int32)), .unset, .unset, .unset, .unset] [(.long (48 : Int64)), (.long (v1.toInt64))])) _
    refine XS.lsub X0.here hx rfl (hb hby own_d2_28) rfl ?_
    show Steps p.tables e below (s₁.setTop (mkF m 29 #[.val (.int v1), .val (.int (v1 ||| (32 : Int32))), .val (.int (0 : Int32)), .unset, .unset, .unset, .unset] [(.long ((v1.toInt64) - (48 : Int64)))])) _
    refine XS.lstoreN X0.here hx rfl (hb hby own_d2_29) rfl (l' := #[.val (.int v1), .val (.int (v1 ||| (32 : Int32))), .val (.int (0 : Int32)), .val (.long ((v1.toInt64) - (48 : Int64))), .second, .unset, .unset]) rfl ?_
    show Steps p.tables e below (s₁.setTop (mkF m 30 #[.val (.int v1), .val (.int (v1 ||| (32 : Int32))), .val (.int (0 : Int32)), .val (.long ((v1.toInt64) - (48 : Int64))), .second, .unset, .unset] [])) _
    refine XS.lloadN X0.here hx rfl (hb hby own_d2_30) rfl ?_
    show Steps p.tables e below (s₁.setTop (mkF m 31 #[.val (.int v1), .val (.int (v1 ||| (32 : Int32))), .val (.int (0 : Int32)), .val (.long ((v1.toInt64) - (48 : Int64))), .second, .unset, .unset] [(.long ((v1.toInt64) - (48 : Int64)))])) _
    refine XS.lconst X0.here hx rfl (hb hby own_d2_31) ?_
    show Steps p.tables e below (s₁.setTop (mkF m 32 #[.val (.int v1), .val (.int (v1 ||| (32 : Int32))), .val (.int (0 : Int32)), .val (.long ((v1.toInt64) - (48 : Int64))), .second, .unset, .unset] [(.long (0 : Int64)), (.long ((v1.toInt64) - (48 : Int64)))])) _
    refine XS.lcmp X0.here hx rfl (hb hby own_d2_32) rfl ?_
    show Steps p.tables e below (s₁.setTop (mkF m 33 #[.val (.int v1), .val (.int (v1 ||| (32 : Int32))), .val (.int (0 : Int32)), .val (.long ((v1.toInt64) - (48 : Int64))), .second, .unset, .unset] [(.int (lcmpW ((v1.toInt64) - (48 : Int64)) (0 : Int64)))])) _
    refine XS.ifYes X0.here hx rfl (pc0 := 33) (pc' := 48) rfl (hb hby own_d2_33) rfl ((if0 _ _).trans (tlt (hp10 : (lcmpW ((v1.toInt64) - (48 : Int64)) (0 : Int64)) < (0 : Int32))).1) (by decide) (by decide) ?_
    show Steps p.tables e below (s₁.setTop (mkF m 48 #[.val (.int v1), .val (.int (v1 ||| (32 : Int32))), .val (.int (0 : Int32)), .val (.long ((v1.toInt64) - (48 : Int64))), .second, .unset, .unset] [])) _
    refine XS.iconst X0.here hx rfl (hb hby own_d2_48) ?_
    show Steps p.tables e below (s₁.setTop (mkF m 49 #[.val (.int v1), .val (.int (v1 ||| (32 : Int32))), .val (.int (0 : Int32)), .val (.long ((v1.toInt64) - (48 : Int64))), .second, .unset, .unset] [(.int (0 : Int32))])) _
    refine XS.istore X0.here hx rfl (hb hby own_d2_49) rfl (l' := #[.val (.int v1), .val (.int (v1 ||| (32 : Int32))), .val (.int (0 : Int32)), .val (.long ((v1.toInt64) - (48 : Int64))), .second, .val (.int (0 : Int32)), .unset]) rfl ?_
    show Steps p.tables e below (s₁.setTop (mkF m 51 #[.val (.int v1), .val (.int (v1 ||| (32 : Int32))), .val (.int (0 : Int32)), .val (.long ((v1.toInt64) - (48 : Int64))), .second, .val (.int (0 : Int32)), .unset] [])) _
    refine XS.iloadN X0.here hx rfl (hb hby own_d2_51) rfl ?_
    show Steps p.tables e below (s₁.setTop (mkF m 52 #[.val (.int v1), .val (.int (v1 ||| (32 : Int32))), .val (.int (0 : Int32)), .val (.long ((v1.toInt64) - (48 : Int64))), .second, .val (.int (0 : Int32)), .unset] [(.int v1)])) _
    refine XS.bipush X0.here hx rfl (hb hby own_d2_52) ?_
    show Steps p.tables e below (s₁.setTop (mkF m 54 #[.val (.int v1), .val (.int (v1 ||| (32 : Int32))), .val (.int (0 : Int32)), .val (.long ((v1.toInt64) - (48 : Int64))), .second, .val (.int (0 : Int32)), .unset] [(.int (95 : Int32)), (.int v1)])) _
    refine XS.icmpYes X0.here hx rfl (pc0 := 54) (pc' := 61) rfl (hb hby own_d2_54) rfl (feq (hp7 : ¬ (v1 = (95 : Int32)))).2 (by decide) (by decide) ?_
    show Steps p.tables e below (s₁.setTop (mkF m 61 #[.val (.int v1), .val (.int (v1 ||| (32 : Int32))), .val (.int (0 : Int32)), .val (.long ((v1.toInt64) - (48 : Int64))), .second, .val (.int (0 : Int32)), .unset] [])) _
    refine XS.iconst X0.here hx rfl (hb hby own_d2_61) ?_
    show Steps p.tables e below (s₁.setTop (mkF m 62 #[.val (.int v1), .val (.int (v1 ||| (32 : Int32))), .val (.int (0 : Int32)), .val (.long ((v1.toInt64) - (48 : Int64))), .second, .val (.int (0 : Int32)), .unset] [(.int (0 : Int32))])) _
    refine XS.istore X0.here hx rfl (hb hby own_d2_62) rfl (l' := #[.val (.int v1), .val (.int (v1 ||| (32 : Int32))), .val (.int (0 : Int32)), .val (.long ((v1.toInt64) - (48 : Int64))), .second, .val (.int (0 : Int32)), .val (.int (0 : Int32))]) rfl ?_
    show Steps p.tables e below (s₁.setTop (mkF m 64 #[.val (.int v1), .val (.int (v1 ||| (32 : Int32))), .val (.int (0 : Int32)), .val (.long ((v1.toInt64) - (48 : Int64))), .second, .val (.int (0 : Int32)), .val (.int (0 : Int32))] [])) _
    refine XS.iloadN X0.here hx rfl (hb hby own_d2_64) rfl ?_
    show Steps p.tables e below (s₁.setTop (mkF m 65 #[.val (.int v1), .val (.int (v1 ||| (32 : Int32))), .val (.int (0 : Int32)), .val (.long ((v1.toInt64) - (48 : Int64))), .second, .val (.int (0 : Int32)), .val (.int (0 : Int32))] [(.int (0 : Int32))])) _
    refine XS.ifNo X0.here hx rfl (hb hby own_d2_65) rfl (by decide) ?_
    show Steps p.tables e below (s₁.setTop (mkF m 68 #[.val (.int v1), .val (.int (v1 ||| (32 : Int32))), .val (.int (0 : Int32)), .val (.long ((v1.toInt64) - (48 : Int64))), .second, .val (.int (0 : Int32)), .val (.int (0 : Int32))] [])) _
    refine XS.iload X0.here hx rfl (hb hby own_d2_68) rfl ?_
    show Steps p.tables e below (s₁.setTop (mkF m 70 #[.val (.int v1), .val (.int (v1 ||| (32 : Int32))), .val (.int (0 : Int32)), .val (.long ((v1.toInt64) - (48 : Int64))), .second, .val (.int (0 : Int32)), .val (.int (0 : Int32))] [(.int (0 : Int32))])) _
    refine XS.ifNo X0.here hx rfl (hb hby own_d2_70) rfl (by decide) ?_
    show Steps p.tables e below (s₁.setTop (mkF m 73 #[.val (.int v1), .val (.int (v1 ||| (32 : Int32))), .val (.int (0 : Int32)), .val (.long ((v1.toInt64) - (48 : Int64))), .second, .val (.int (0 : Int32)), .val (.int (0 : Int32))] [])) _
    refine XS.iload X0.here hx rfl (hb hby own_d2_73) rfl ?_
    show Steps p.tables e below (s₁.setTop (mkF m 75 #[.val (.int v1), .val (.int (v1 ||| (32 : Int32))), .val (.int (0 : Int32)), .val (.long ((v1.toInt64) - (48 : Int64))), .second, .val (.int (0 : Int32)), .val (.int (0 : Int32))] [(.int (0 : Int32))])) _
    refine XS.ifYes X0.here hx rfl (pc0 := 75) (pc' := 82) rfl (hb hby own_d2_75) rfl (by decide) (by decide) (by decide) ?_
    show Steps p.tables e below (s₁.setTop (mkF m 82 #[.val (.int v1), .val (.int (v1 ||| (32 : Int32))), .val (.int (0 : Int32)), .val (.long ((v1.toInt64) - (48 : Int64))), .second, .val (.int (0 : Int32)), .val (.int (0 : Int32))] [])) _
    refine XS.iconst X0.here hx rfl (hb hby own_d2_82) ?_
    show Steps p.tables e below (s₁.setTop (mkF m 83 #[.val (.int v1), .val (.int (v1 ||| (32 : Int32))), .val (.int (0 : Int32)), .val (.long ((v1.toInt64) - (48 : Int64))), .second, .val (.int (0 : Int32)), .val (.int (0 : Int32))] [(.int (0 : Int32))])) _
    exact retN X0 hx (t := .boolean) Bd.returns (by simp) (hb hby own_d2_83) hr
  · show OwnQ _ h0 n0 _ s₁.heap _
    exact ⟨rfl, N0, e0⟩
theorem own_ef_3_RI (m : MethodId) (x0 : Addr) (x1 : Int32) : entryFrame m #[(.ref x0), (.int x1)] 2 = mkF m 0 #[.val (.ref x0), .val (.int x1)] [] := by first | (simp [entryFrame, mkF, argsToLocals, Value.category]; done) | rfl
theorem own_d3_0 : decode prog_30_method_6_code 0 = .ok (.iload_n 1, 1) := by decide +kernel
theorem own_d3_1 : decode prog_30_method_6_code 1 = .ok (.aload_n 0, 1) := by decide +kernel
theorem own_d3_2 : decode prog_30_method_6_code 2 = .ok (.getfield 36, 3) := by decide +kernel
theorem own_d3_5 : decode prog_30_method_6_code 5 = .ok (.if_icmp .lt 15, 3) := by decide +kernel
theorem own_d3_20 : decode prog_30_method_6_code 20 = .ok (.iconst 0, 1) := by decide +kernel
theorem own_d3_21 : decode prog_30_method_6_code 21 = .ok (.ireturn, 1) := by decide +kernel
set_option maxRecDepth 65536 in
set_option maxHeartbeats 40000000 in
theorem own_isStart_2 (l : Launch) (Z : State) (a0 : Array Value) (hw : ∀ d ∈ tables_1, d.before a0 Z = true) (ws : List Jvm.Cond) (wENTITY : Addr) (wROLE_NAME : Addr) (G : OwnG Z wENTITY wROLE_NAME) (h0 : Heap) (n0 : Nat) (O0 : Old Z n0 h0) (v1 : Int32) (hp1 : v1 < (65 : Int32)) (hp2 : ¬ ((90 : Int32) < v1)) (hp3 : v1 < (97 : Int32)) (hp4 : ¬ ((122 : Int32) < v1)) (hp5 : v1 < (48 : Int32)) (hp6 : ¬ ((57 : Int32) < v1)) (hp7 : ¬ (v1 = (95 : Int32))) (hp8 : (v1 ||| (32 : Int32)) < (97 : Int32)) (hp9 : ¬ ((122 : Int32) < (v1 ||| (32 : Int32)))) (hp10 : (lcmpW ((v1.toInt64) - (48 : Int64)) (0 : Int64)) < (0 : Int32)) (hp11 : (lcmpW ((v1.toInt64) - (48 : Int64)) (10 : Int64)) < (0 : Int32)) :
    MetFree l (⟨"com/example/credlib/credlib/policy/NameRule", "isStart", "(I)Z"⟩ : MethodName) (head1 (Jvm.Cond.code (⟨"com/example/credlib/credlib/policy/NameRule", "isStart", "(I)Z"⟩ : MethodName) prog_30_method_6_code 2 (some .boolean) :: ws) ({ frames := 0, cells := 0, slots := 0, locals := 0 } : Room)) (fun a U => a = #[(.ref wENTITY), (.int v1)] ∧ Z.Warmed39 U.vm ∧ U.heap = h0) (fun _ _ _ _ _ => True) (fun _ U o U' => ∃ v L, o = .returned v ∧ OwnQ (some (.int (0 : Int32))) h0 n0 v U'.heap L ∧ FrameEnd U o U' L ({ frames := 0, cells := 0, slots := 0, locals := 0 } : Room).cells ({ frames := 0, cells := 0, slots := 0, locals := 0 } : Room).slots) := by
  refine MetFree.of_bodySF (plainFor_of_name own_pn_1) hisR ?_
  intro p e s m args below meth c s₁ Bd hml0 hP hK
  obtain ⟨rfl, hZ, hh⟩ := hP
  have hx := Bd.exec
  have hby := Bd.bytes
  have hml : c.maxLocals = 2 := hml0
  have hown : s.vm.findClass "com/example/credlib/credlib/policy/NameRule" = some m.cls := findClass_of_methodNamed Bd.named
  have hnm := (name_of_methodNamed Bd.named Bd.method).1
  have X0 : Stand p l e ({ frames := 0, cells := 0, slots := 0, locals := 0 } : Room) s m #[(.ref wENTITY), (.int v1)] below meth c s₁ [] 0 0 := Stand.of_body Bd
  have e0 : s₁.heap = h0 := by rw [← hh, Bd.state]; rfl
  have N0 := Fr.nil n0
  have pre0 : ∀ t, Steps p.tables e below (s₁.setTop (mkF m 0 #[.val (.ref wENTITY), .val (.int v1)] [])) t → Steps p.tables e below (s₁.setTop (entryFrame m #[(.ref wENTITY), (.int v1)] 2)) t := fun t k => castTop (own_ef_3_RI m wENTITY v1) k
  obtain ⟨T1, X1, e1, st1⟩ := getF X0 hx hZ hown (host := "") (Or.inl (hw _ (List.mem_of_getElem? (i := 16) rfl))) Via.refl e0 (G.2.2.2.2.1.ext O0.2) (g := (mkF m 2 #[.val (.ref wENTITY), .val (.int v1)] [(.ref wENTITY), (.int v1)])) rfl rfl (hb hby own_d3_2)
  obtain ⟨fs, hr, hrun, hended, hW, hsame⟩ := X1.leave (v := some (.int (0 : Int32))) (fun h => by rw [Bd.returns] at h; cases h)
  refine ⟨_, _, pre0 _ ?_, hrun, hended, _, _, rfl, ?_, ⟨_, rfl⟩, hW, hsame.mono (by decide) (by decide)⟩
  · show Steps p.tables e below (s₁.setTop (mkF m 0 #[.val (.ref wENTITY), .val (.int v1)] [])) _
    refine XS.iloadN X0.here hx rfl (hb hby own_d3_0) rfl ?_
    show Steps p.tables e below (s₁.setTop (mkF m 1 #[.val (.ref wENTITY), .val (.int v1)] [(.int v1)])) _
    refine XS.aloadN X0.here hx rfl (hb hby own_d3_1) rfl rfl ?_
    show Steps p.tables e below (s₁.setTop (mkF m 2 #[.val (.ref wENTITY), .val (.int v1)] [(.ref wENTITY), (.int v1)])) _
    refine st1 _ ?_
    show Steps p.tables e below (T1.setTop (mkF m 5 #[.val (.ref wENTITY), .val (.int v1)] [(.int (65 : Int32)), (.int v1)])) _
    refine XS.icmpYes X1.here hx rfl (pc0 := 5) (pc' := 20) rfl (hb hby own_d3_5) rfl (tlt (hp1 : v1 < (65 : Int32))).1 (by decide) (by decide) ?_
    show Steps p.tables e below (T1.setTop (mkF m 20 #[.val (.ref wENTITY), .val (.int v1)] [])) _
    refine XS.iconst X1.here hx rfl (hb hby own_d3_20) ?_
    show Steps p.tables e below (T1.setTop (mkF m 21 #[.val (.ref wENTITY), .val (.int v1)] [(.int (0 : Int32))])) _
    exact retN X1 hx (t := .boolean) Bd.returns (by simp) (hb hby own_d3_21) hr
  · show OwnQ _ h0 n0 _ T1.heap _
    exact ⟨rfl, N0, e1⟩
set_option maxRecDepth 65536 in
set_option maxHeartbeats 40000000 in
theorem own_isStart_3 (l : Launch) (Z : State) (a0 : Array Value) (hw : ∀ d ∈ tables_1, d.before a0 Z = true) (ws : List Jvm.Cond) (wENTITY : Addr) (wROLE_NAME : Addr) (G : OwnG Z wENTITY wROLE_NAME) (h0 : Heap) (n0 : Nat) (O0 : Old Z n0 h0) (v1 : Int32) (hp1 : v1 < (65 : Int32)) (hp2 : ¬ ((90 : Int32) < v1)) (hp3 : v1 < (97 : Int32)) (hp4 : ¬ ((122 : Int32) < v1)) (hp5 : v1 < (48 : Int32)) (hp6 : ¬ ((57 : Int32) < v1)) (hp7 : ¬ (v1 = (95 : Int32))) (hp8 : (v1 ||| (32 : Int32)) < (97 : Int32)) (hp9 : ¬ ((122 : Int32) < (v1 ||| (32 : Int32)))) (hp10 : (lcmpW ((v1.toInt64) - (48 : Int64)) (0 : Int64)) < (0 : Int32)) (hp11 : (lcmpW ((v1.toInt64) - (48 : Int64)) (10 : Int64)) < (0 : Int32)) :
    MetFree l (⟨"com/example/credlib/credlib/policy/NameRule", "isStart", "(I)Z"⟩ : MethodName) (head1 (Jvm.Cond.code (⟨"com/example/credlib/credlib/policy/NameRule", "isStart", "(I)Z"⟩ : MethodName) prog_30_method_6_code 2 (some .boolean) :: ws) ({ frames := 0, cells := 0, slots := 0, locals := 0 } : Room)) (fun a U => a = #[(.ref wROLE_NAME), (.int v1)] ∧ Z.Warmed39 U.vm ∧ U.heap = h0) (fun _ _ _ _ _ => True) (fun _ U o U' => ∃ v L, o = .returned v ∧ OwnQ (some (.int (0 : Int32))) h0 n0 v U'.heap L ∧ FrameEnd U o U' L ({ frames := 0, cells := 0, slots := 0, locals := 0 } : Room).cells ({ frames := 0, cells := 0, slots := 0, locals := 0 } : Room).slots) := by
  refine MetFree.of_bodySF (plainFor_of_name own_pn_1) hisR ?_
  intro p e s m args below meth c s₁ Bd hml0 hP hK
  obtain ⟨rfl, hZ, hh⟩ := hP
  have hx := Bd.exec
  have hby := Bd.bytes
  have hml : c.maxLocals = 2 := hml0
  have hown : s.vm.findClass "com/example/credlib/credlib/policy/NameRule" = some m.cls := findClass_of_methodNamed Bd.named
  have hnm := (name_of_methodNamed Bd.named Bd.method).1
  have X0 : Stand p l e ({ frames := 0, cells := 0, slots := 0, locals := 0 } : Room) s m #[(.ref wROLE_NAME), (.int v1)] below meth c s₁ [] 0 0 := Stand.of_body Bd
  have e0 : s₁.heap = h0 := by rw [← hh, Bd.state]; rfl
  have N0 := Fr.nil n0
  have pre0 : ∀ t, Steps p.tables e below (s₁.setTop (mkF m 0 #[.val (.ref wROLE_NAME), .val (.int v1)] [])) t → Steps p.tables e below (s₁.setTop (entryFrame m #[(.ref wROLE_NAME), (.int v1)] 2)) t := fun t k => castTop (own_ef_3_RI m wROLE_NAME v1) k
  obtain ⟨T1, X1, e1, st1⟩ := getF X0 hx hZ hown (host := "") (Or.inl (hw _ (List.mem_of_getElem? (i := 16) rfl))) Via.refl e0 (G.2.2.2.2.2.1.ext O0.2) (g := (mkF m 2 #[.val (.ref wROLE_NAME), .val (.int v1)] [(.ref wROLE_NAME), (.int v1)])) rfl rfl (hb hby own_d3_2)
  obtain ⟨fs, hr, hrun, hended, hW, hsame⟩ := X1.leave (v := some (.int (0 : Int32))) (fun h => by rw [Bd.returns] at h; cases h)
  refine ⟨_, _, pre0 _ ?_, hrun, hended, _, _, rfl, ?_, ⟨_, rfl⟩, hW, hsame.mono (by decide) (by decide)⟩
  · show Steps p.tables e below (s₁.setTop (mkF m 0 #[.val (.ref wROLE_NAME), .val (.int v1)] [])) _
    refine XS.iloadN X0.here hx rfl (hb hby own_d3_0) rfl ?_
    show Steps p.tables e below (s₁.setTop (mkF m 1 #[.val (.ref wROLE_NAME), .val (.int v1)] [(.int v1)])) _
    refine XS.aloadN X0.here hx rfl (hb hby own_d3_1) rfl rfl ?_
    show Steps p.tables e below (s₁.setTop (mkF m 2 #[.val (.ref wROLE_NAME), .val (.int v1)] [(.ref wROLE_NAME), (.int v1)])) _
    refine st1 _ ?_
    show Steps p.tables e below (T1.setTop (mkF m 5 #[.val (.ref wROLE_NAME), .val (.int v1)] [(.int (97 : Int32)), (.int v1)])) _
    refine XS.icmpYes X1.here hx rfl (pc0 := 5) (pc' := 20) rfl (hb hby own_d3_5) rfl (tlt (hp3 : v1 < (97 : Int32))).1 (by decide) (by decide) ?_
    show Steps p.tables e below (T1.setTop (mkF m 20 #[.val (.ref wROLE_NAME), .val (.int v1)] [])) _
    refine XS.iconst X1.here hx rfl (hb hby own_d3_20) ?_
    show Steps p.tables e below (T1.setTop (mkF m 21 #[.val (.ref wROLE_NAME), .val (.int v1)] [(.int (0 : Int32))])) _
    exact retN X1 hx (t := .boolean) Bd.returns (by simp) (hb hby own_d3_21) hr
  · show OwnQ _ h0 n0 _ T1.heap _
    exact ⟨rfl, N0, e1⟩
set_option maxRecDepth 65536 in
set_option maxHeartbeats 40000000 in
theorem own_law_00 (l : Launch) (Z : State) (a0 : Array Value) (hw : ∀ d ∈ tables_1, d.before a0 Z = true) (ws : List Jvm.Cond) (wENTITY : Addr) (wROLE_NAME : Addr) (G : OwnG Z wENTITY wROLE_NAME) (h0 : Heap) (n0 : Nat) (O0 : Old Z n0 h0) (p1 : Int32) (p2 : Int32) (he : (p2 &&& (1 : Int32)) = (0 : Int32)) (aa0 : (p1 &&& (255 : Int32)) < (65 : Int32)) (aa1 : ¬ ((90 : Int32) < (p1 &&& (255 : Int32)))) (aa2 : (p1 &&& (255 : Int32)) < (97 : Int32)) (aa3 : ¬ ((122 : Int32) < (p1 &&& (255 : Int32)))) (aa4 : (p1 &&& (255 : Int32)) < (48 : Int32)) (aa5 : ¬ ((57 : Int32) < (p1 &&& (255 : Int32)))) (aa6 : ¬ ((p1 &&& (255 : Int32)) = (95 : Int32))) (aa7 : ((p1 &&& (255 : Int32)) ||| (32 : Int32)) < (97 : Int32)) (aa8 : ¬ ((122 : Int32) < ((p1 &&& (255 : Int32)) ||| (32 : Int32)))) (aa9 : (lcmpW (((p1 &&& (255 : Int32)).toInt64) - (48 : Int64)) (0 : Int64)) < (0 : Int32)) (aa10 : (lcmpW (((p1 &&& (255 : Int32)).toInt64) - (48 : Int64)) (10 : Int64)) < (0 : Int32)) :
    MetFree l x (head1 (Jvm.Cond.code x code maxLocals ret :: ws) room_1) (fun a U => a = #[(.int p1), (.int p2)] ∧ Z.Warmed39 U.vm ∧ U.heap = h0) (fun _ _ _ _ _ => True) (fun _ U o U' => ∃ v L, o = .returned v ∧ (v = some (.int 1) ∧ Fr n0 L) ∧ FrameEnd U o U' L room_1.cells room_1.slots) := by
  refine MetFree.of_bodySF (plainFor_of_name own_pn_0) hisR ?_
  intro p e s m args below meth c s₁ Bd hml0 hP hK
  obtain ⟨rfl, hZ, hh⟩ := hP
  have hx := Bd.exec
  have hby := Bd.bytes
  have hml : c.maxLocals = 4 := hml0
  have hown : s.vm.findClass "com/example/credlib/credlib/policy/NameRuleIsPartPinLaw" = some m.cls := findClass_of_methodNamed Bd.named
  have hnm := (name_of_methodNamed Bd.named Bd.method).1
  have X0 : Stand p l e room_1 s m #[(.int p1), (.int p2)] below meth c s₁ [] 0 0 := Stand.of_body Bd
  have e0 : s₁.heap = h0 := by rw [← hh, Bd.state]; rfl
  have N0 := Fr.nil n0
  have pre0 : ∀ t, Steps p.tables e below (s₁.setTop (mkF m 0 #[.val (.int p1), .val (.int p2), .unset, .unset] [])) t → Steps p.tables e below (s₁.setTop (entryFrame m #[(.int p1), (.int p2)] maxLocals)) t := fun t k => castTop (own_ef_0_II m p1 p2) k
  obtain ⟨_, _, ⟨T1, L1, k1, n1⟩, -, X1, ⟨Lc1, hQ1, l1, y1, z1⟩, st1⟩ := Jvm.LawKit.callS X0 hx (y := (⟨"com/example/credlib/credlib/policy/NameRule", "isPart", "(I)Z"⟩ : MethodName)) hown (mvT hZ (hw _ (List.mem_of_getElem? (i := 0) rfl))) (mvT hZ (hw _ (List.mem_of_getElem? (i := 1) rfl))) (mvT hZ (hw _ (List.mem_of_getElem? (i := 2) rfl))) (mvT hZ (hw _ (List.mem_of_getElem? (i := 3) rfl))) (by decide) (backOf (W := 0) (own_isPart_0 l Z a0 hw [] wENTITY wROLE_NAME G h0 n0 O0 (p1 &&& (255 : Int32)) aa0 aa1 aa2 aa3 aa4 aa5 aa6 aa7 aa8 aa9 aa10) hZ (hw _ (List.mem_of_getElem? (i := 3) rfl)) (hw _ (List.mem_of_getElem? (i := 2) rfl)) (by decide) (by decide)) (g := (mkF m 17 #[.val (.int p1), .val (.int p2), .val (.int (p1 &&& (255 : Int32))), .unset] [(.int (p1 &&& (255 : Int32)))])) rfl (by rw [hml]; rfl) (argsL := [(.int (p1 &&& (255 : Int32)))]) (rest := []) (lenOf own_pd_0 rfl) rfl (by show 2 * 0 + _ ≤ _; exact Nat.le_of_eq rfl) (hb hby at_17) (fun _ _ => ⟨rfl, e0, (by decide : 0 + 0 ≤ _), (by decide : 0 + 0 ≤ _)⟩)
  dsimp only [Pt.U, Pt.locs, Pt.cells, Pt.slots] at X1 l1 y1 z1 st1 hQ1
  subst l1 y1 z1
  obtain ⟨rfl, N1q, e1⟩ := hQ1
  have N1 := Fr.app N0 N1q
  obtain ⟨_, _, ⟨T2, L2, k2, n2⟩, -, X2, ⟨Lc2, hQ2, l2, y2, z2⟩, st2⟩ := Jvm.LawKit.callS X1 hx (y := (⟨"com/example/credlib/credlib/policy/NameRuleIsPartPinLaw", "expected", "(I)Z"⟩ : MethodName)) hown (mvT hZ (hw _ (List.mem_of_getElem? (i := 4) rfl))) (mvT hZ (hw _ (List.mem_of_getElem? (i := 5) rfl))) (mvT hZ (hw _ (List.mem_of_getElem? (i := 6) rfl))) (mvT hZ (hw _ (List.mem_of_getElem? (i := 7) rfl))) (by decide) (backOf (W := 1) (own_expected_1 l Z a0 hw [] wENTITY wROLE_NAME G h0 n0 O0 (p1 &&& (255 : Int32)) aa0 aa1 aa2 aa3 aa4 aa5 aa6 aa7 aa8 aa9 aa10) hZ (hw _ (List.mem_of_getElem? (i := 7) rfl)) (hw _ (List.mem_of_getElem? (i := 6) rfl)) (by decide) (by decide)) (g := (mkF m 23 #[.val (.int p1), .val (.int p2), .val (.int (p1 &&& (255 : Int32))), .val (.int (0 : Int32))] [(.int (p1 &&& (255 : Int32))), (.int (0 : Int32))])) rfl (by rw [hml]; rfl) (argsL := [(.int (p1 &&& (255 : Int32)))]) (rest := [(.int (0 : Int32))]) (lenOf own_pd_0 rfl) rfl (by show 2 * 0 + _ ≤ _; exact Nat.le_of_eq rfl) (hb hby at_23) (fun _ _ => ⟨rfl, e1, (by decide : 0 + 0 ≤ _), (by decide : 0 + 0 ≤ _)⟩)
  dsimp only [Pt.U, Pt.locs, Pt.cells, Pt.slots] at X2 l2 y2 z2 st2 hQ2
  subst l2 y2 z2
  obtain ⟨rfl, N2q, e2⟩ := hQ2
  have N2 := Fr.app N1 N2q
  obtain ⟨T3, X3, e3, st3⟩ := getS2 X2 hx hZ hown (host := "") (Or.inl (hw _ (List.mem_of_getElem? (i := 9) rfl))) Via.refl e2 (G.1.ext O0.2) (g := (mkF m 31 #[.val (.int p1), .val (.int p2), .val (.int (p1 &&& (255 : Int32))), .val (.int (0 : Int32))] [])) rfl (hb hby at_31)
  obtain ⟨cq4, kq4, q4a, q4b, q4c⟩ := isOf hZ e3 (G.2.1.ext O0.2)
  obtain ⟨_, _, ⟨T4, L4, k4, n4⟩, -, X4, ⟨Lc4, hQ4, l4, y4, z4⟩, st4⟩ := X3.virtualBack hx (y := (⟨"com/example/credlib/credlib/policy/NameRule", "isStart", "(I)Z"⟩ : MethodName)) (z := (⟨"com/example/credlib/credlib/policy/NameRule", "isStart", "(I)Z"⟩ : MethodName)) hown (mvT hZ (hw _ (List.mem_of_getElem? (i := 11) rfl))) (mvT hZ (hw _ (List.mem_of_getElem? (i := 12) rfl))) (notFace_of_selects (args := #[]) (mvT hZ (hw _ (List.mem_of_getElem? (i := 14) rfl)))) (mvT hZ (hw _ (List.mem_of_getElem? (i := 14) rfl))) (mvT hZ (hw _ (List.mem_of_getElem? (i := 13) rfl))) (by decide) (backOf (W := 0) (own_isStart_2 l Z a0 hw [] wENTITY wROLE_NAME G h0 n0 O0 (p1 &&& (255 : Int32)) aa0 aa1 aa2 aa3 aa4 aa5 aa6 aa7 aa8 aa9 aa10) hZ (hw _ (List.mem_of_getElem? (i := 15) rfl)) (hw _ (List.mem_of_getElem? (i := 2) rfl)) (by decide) (by decide)) q4a q4c (g := (mkF m 35 #[.val (.int p1), .val (.int p2), .val (.int (p1 &&& (255 : Int32))), .val (.int (0 : Int32))] [(.int (p1 &&& (255 : Int32))), (.ref wENTITY)])) rfl (by rw [hml]; rfl) (Steps.refl _) (argsL := [(.int (p1 &&& (255 : Int32)))]) (rest := []) (lenOf own_pd_0 rfl) rfl (by show 2 * 0 + _ ≤ _; exact Nat.le_of_eq rfl) (hb hby at_35) (fun _ _ => ⟨rfl, e3, (by decide : 0 + 0 ≤ _), (by decide : 0 + 0 ≤ _)⟩)
  dsimp only [Pt.U, Pt.locs, Pt.cells, Pt.slots] at X4 l4 y4 z4 st4 hQ4
  subst l4 y4 z4
  obtain ⟨rfl, N4q, e4⟩ := hQ4
  have N4 := Fr.app N2 N4q
  obtain ⟨T5, X5, e5, st5⟩ := getS2 X4 hx hZ hown (host := "") (Or.inl (hw _ (List.mem_of_getElem? (i := 18) rfl))) Via.refl e4 (G.2.2.1.ext O0.2) (g := (mkF m 47 #[.val (.int p1), .val (.int p2), .val (.int (p1 &&& (255 : Int32))), .val (.int (0 : Int32))] [])) rfl (hb hby at_47)
  obtain ⟨cq6, kq6, q6a, q6b, q6c⟩ := isOf hZ e5 (G.2.2.2.1.ext O0.2)
  obtain ⟨_, _, ⟨T6, L6, k6, n6⟩, -, X6, ⟨Lc6, hQ6, l6, y6, z6⟩, st6⟩ := X5.virtualBack hx (y := (⟨"com/example/credlib/credlib/policy/NameRule", "isStart", "(I)Z"⟩ : MethodName)) (z := (⟨"com/example/credlib/credlib/policy/NameRule", "isStart", "(I)Z"⟩ : MethodName)) hown (mvT hZ (hw _ (List.mem_of_getElem? (i := 11) rfl))) (mvT hZ (hw _ (List.mem_of_getElem? (i := 12) rfl))) (notFace_of_selects (args := #[]) (mvT hZ (hw _ (List.mem_of_getElem? (i := 14) rfl)))) (mvT hZ (hw _ (List.mem_of_getElem? (i := 14) rfl))) (mvT hZ (hw _ (List.mem_of_getElem? (i := 13) rfl))) (by decide) (backOf (W := 0) (own_isStart_3 l Z a0 hw [] wENTITY wROLE_NAME G h0 n0 O0 (p1 &&& (255 : Int32)) aa0 aa1 aa2 aa3 aa4 aa5 aa6 aa7 aa8 aa9 aa10) hZ (hw _ (List.mem_of_getElem? (i := 15) rfl)) (hw _ (List.mem_of_getElem? (i := 2) rfl)) (by decide) (by decide)) q6a q6c (g := (mkF m 51 #[.val (.int p1), .val (.int p2), .val (.int (p1 &&& (255 : Int32))), .val (.int (0 : Int32))] [(.int (p1 &&& (255 : Int32))), (.ref wROLE_NAME)])) rfl (by rw [hml]; rfl) (Steps.refl _) (argsL := [(.int (p1 &&& (255 : Int32)))]) (rest := []) (lenOf own_pd_0 rfl) rfl (by show 2 * 0 + _ ≤ _; exact Nat.le_of_eq rfl) (hb hby at_51) (fun _ _ => ⟨rfl, e5, (by decide : 0 + 0 ≤ _), (by decide : 0 + 0 ≤ _)⟩)
  dsimp only [Pt.U, Pt.locs, Pt.cells, Pt.slots] at X6 l6 y6 z6 st6 hQ6
  subst l6 y6 z6
  obtain ⟨rfl, N6q, e6⟩ := hQ6
  have N6 := Fr.app N4 N6q
  obtain ⟨fs, hr, hrun, hended, hW, hsame⟩ := X6.leave (v := some (.int (1 : Int32))) (fun h => by rw [Bd.returns] at h; cases h)
  refine ⟨_, _, pre0 _ ?_, hrun, hended, _, _, rfl, ?_, ⟨_, rfl⟩, hW, hsame.mono (by decide) (by decide)⟩
  · show Steps p.tables e below (s₁.setTop (mkF m 0 #[.val (.int p1), .val (.int p2), .unset, .unset] [])) _
    refine XS.iloadN X0.here hx rfl (hb hby at_0) rfl ?_
    show Steps p.tables e below (s₁.setTop (mkF m 1 #[.val (.int p1), .val (.int p2), .unset, .unset] [(.int p2)])) _
    refine XS.iconst X0.here hx rfl (hb hby at_1) ?_
    show Steps p.tables e below (s₁.setTop (mkF m 2 #[.val (.int p1), .val (.int p2), .unset, .unset] [(.int (1 : Int32)), (.int p2)])) _
    refine XS.iand X0.here hx rfl (hb hby at_2) rfl ?_
    show Steps p.tables e below (s₁.setTop (mkF m 3 #[.val (.int p1), .val (.int p2), .unset, .unset] [(.int (p2 &&& (1 : Int32)))])) _
    refine XS.ifYes X0.here hx rfl (pc0 := 3) (pc' := 10) rfl (hb hby at_3) rfl ((if0 _ _).trans (teq (he : (p2 &&& (1 : Int32)) = (0 : Int32))).1) (by decide) (by decide) ?_
    show Steps p.tables e below (s₁.setTop (mkF m 10 #[.val (.int p1), .val (.int p2), .unset, .unset] [])) _
    refine XS.iloadN X0.here hx rfl (hb hby at_10) rfl ?_
    show Steps p.tables e below (s₁.setTop (mkF m 11 #[.val (.int p1), .val (.int p2), .unset, .unset] [(.int p1)])) _
    refine XS.sipush X0.here hx rfl (hb hby at_11) ?_
    show Steps p.tables e below (s₁.setTop (mkF m 14 #[.val (.int p1), .val (.int p2), .unset, .unset] [(.int (255 : Int32)), (.int p1)])) _
    refine XS.iand X0.here hx rfl (hb hby at_14) rfl ?_
    show Steps p.tables e below (s₁.setTop (mkF m 15 #[.val (.int p1), .val (.int p2), .unset, .unset] [(.int (p1 &&& (255 : Int32)))])) _
    refine XS.istoreN X0.here hx rfl (hb hby at_15) rfl (l' := #[.val (.int p1), .val (.int p2), .val (.int (p1 &&& (255 : Int32))), .unset]) rfl ?_
    show Steps p.tables e below (s₁.setTop (mkF m 16 #[.val (.int p1), .val (.int p2), .val (.int (p1 &&& (255 : Int32))), .unset] [])) _
    refine XS.iloadN X0.here hx rfl (hb hby at_16) rfl ?_
    show Steps p.tables e below (s₁.setTop (mkF m 17 #[.val (.int p1), .val (.int p2), .val (.int (p1 &&& (255 : Int32))), .unset] [(.int (p1 &&& (255 : Int32)))])) _
    refine st1 _ ?_
    show Steps p.tables e below (T1.setTop (mkF m 20 #[.val (.int p1), .val (.int p2), .val (.int (p1 &&& (255 : Int32))), .unset] [(.int (0 : Int32))])) _
    refine XS.istoreN X1.here hx rfl (hb hby at_20) rfl (l' := #[.val (.int p1), .val (.int p2), .val (.int (p1 &&& (255 : Int32))), .val (.int (0 : Int32))]) rfl ?_
    show Steps p.tables e below (T1.setTop (mkF m 21 #[.val (.int p1), .val (.int p2), .val (.int (p1 &&& (255 : Int32))), .val (.int (0 : Int32))] [])) _
    refine XS.iloadN X1.here hx rfl (hb hby at_21) rfl ?_
    show Steps p.tables e below (T1.setTop (mkF m 22 #[.val (.int p1), .val (.int p2), .val (.int (p1 &&& (255 : Int32))), .val (.int (0 : Int32))] [(.int (0 : Int32))])) _
    refine XS.iloadN X1.here hx rfl (hb hby at_22) rfl ?_
    show Steps p.tables e below (T1.setTop (mkF m 23 #[.val (.int p1), .val (.int p2), .val (.int (p1 &&& (255 : Int32))), .val (.int (0 : Int32))] [(.int (p1 &&& (255 : Int32))), (.int (0 : Int32))])) _
    refine st2 _ ?_
    show Steps p.tables e below (T2.setTop (mkF m 26 #[.val (.int p1), .val (.int p2), .val (.int (p1 &&& (255 : Int32))), .val (.int (0 : Int32))] [(.int (0 : Int32)), (.int (0 : Int32))])) _
    refine XS.icmpYes X2.here hx rfl (pc0 := 26) (pc' := 31) rfl (hb hby at_26) rfl (by decide) (by decide) (by decide) ?_
    show Steps p.tables e below (T2.setTop (mkF m 31 #[.val (.int p1), .val (.int p2), .val (.int (p1 &&& (255 : Int32))), .val (.int (0 : Int32))] [])) _
    refine st3 _ ?_
    show Steps p.tables e below (T3.setTop (mkF m 34 #[.val (.int p1), .val (.int p2), .val (.int (p1 &&& (255 : Int32))), .val (.int (0 : Int32))] [(.ref wENTITY)])) _
    refine XS.iloadN X3.here hx rfl (hb hby at_34) rfl ?_
    show Steps p.tables e below (T3.setTop (mkF m 35 #[.val (.int p1), .val (.int p2), .val (.int (p1 &&& (255 : Int32))), .val (.int (0 : Int32))] [(.int (p1 &&& (255 : Int32))), (.ref wENTITY)])) _
    refine st4.trans ?_
    show Steps p.tables e below (T4.setTop (mkF m 38 #[.val (.int p1), .val (.int p2), .val (.int (p1 &&& (255 : Int32))), .val (.int (0 : Int32))] [(.int (0 : Int32))])) _
    refine XS.ifYes X4.here hx rfl (pc0 := 38) (pc' := 47) rfl (hb hby at_38) rfl (by decide) (by decide) (by decide) ?_
    show Steps p.tables e below (T4.setTop (mkF m 47 #[.val (.int p1), .val (.int p2), .val (.int (p1 &&& (255 : Int32))), .val (.int (0 : Int32))] [])) _
    refine st5 _ ?_
    show Steps p.tables e below (T5.setTop (mkF m 50 #[.val (.int p1), .val (.int p2), .val (.int (p1 &&& (255 : Int32))), .val (.int (0 : Int32))] [(.ref wROLE_NAME)])) _
    refine XS.iloadN X5.here hx rfl (hb hby at_50) rfl ?_
    show Steps p.tables e below (T5.setTop (mkF m 51 #[.val (.int p1), .val (.int p2), .val (.int (p1 &&& (255 : Int32))), .val (.int (0 : Int32))] [(.int (p1 &&& (255 : Int32))), (.ref wROLE_NAME)])) _
    refine st6.trans ?_
    show Steps p.tables e below (T6.setTop (mkF m 54 #[.val (.int p1), .val (.int p2), .val (.int (p1 &&& (255 : Int32))), .val (.int (0 : Int32))] [(.int (0 : Int32))])) _
    refine XS.ifYes X6.here hx rfl (pc0 := 54) (pc' := 63) rfl (hb hby at_54) rfl (by decide) (by decide) (by decide) ?_
    show Steps p.tables e below (T6.setTop (mkF m 63 #[.val (.int p1), .val (.int p2), .val (.int (p1 &&& (255 : Int32))), .val (.int (0 : Int32))] [])) _
    refine XS.iconst X6.here hx rfl (hb hby at_63) ?_
    show Steps p.tables e below (T6.setTop (mkF m 64 #[.val (.int p1), .val (.int p2), .val (.int (p1 &&& (255 : Int32))), .val (.int (0 : Int32))] [(.int (1 : Int32))])) _
    exact retN X6 hx (t := .boolean) Bd.returns (by simp) (hb hby at_64) hr
  · exact ⟨rfl, N6⟩
theorem own_d1_30 : decode prog_30_method_7_code 30 = .ok (.iload_n 0, 1) := by decide +kernel
theorem own_d1_31 : decode prog_30_method_7_code 31 = .ok (.bipush 57, 2) := by decide +kernel
theorem own_d1_33 : decode prog_30_method_7_code 33 = .ok (.if_icmp .le 9, 3) := by decide +kernel
theorem own_d1_42 : decode prog_30_method_7_code 42 = .ok (.iconst 1, 1) := by decide +kernel
theorem own_d1_43 : decode prog_30_method_7_code 43 = .ok (.goto 4, 3) := by decide +kernel
set_option maxRecDepth 65536 in
set_option maxHeartbeats 40000000 in
theorem own_isPart_4 (l : Launch) (Z : State) (a0 : Array Value) (hw : ∀ d ∈ tables_1, d.before a0 Z = true) (ws : List Jvm.Cond) (wENTITY : Addr) (wROLE_NAME : Addr) (G : OwnG Z wENTITY wROLE_NAME) (h0 : Heap) (n0 : Nat) (O0 : Old Z n0 h0) (v1 : Int32) (hp1 : v1 < (65 : Int32)) (hp2 : ¬ ((90 : Int32) < v1)) (hp3 : v1 < (97 : Int32)) (hp4 : ¬ ((122 : Int32) < v1)) (hp5 : ¬ (v1 < (48 : Int32))) (hp6 : ¬ ((57 : Int32) < v1)) (hp7 : ¬ (v1 = (95 : Int32))) (hp8 : (v1 ||| (32 : Int32)) < (97 : Int32)) (hp9 : ¬ ((122 : Int32) < (v1 ||| (32 : Int32)))) (hp10 : ¬ ((lcmpW ((v1.toInt64) - (48 : Int64)) (0 : Int64)) < (0 : Int32))) (hp11 : (lcmpW ((v1.toInt64) - (48 : Int64)) (10 : Int64)) < (0 : Int32)) :
    MetFree l (⟨"com/example/credlib/credlib/policy/NameRule", "isPart", "(I)Z"⟩ : MethodName) (head1 (Jvm.Cond.code (⟨"com/example/credlib/credlib/policy/NameRule", "isPart", "(I)Z"⟩ : MethodName) prog_30_method_7_code 1 (some .boolean) :: ws) ({ frames := 0, cells := 0, slots := 0, locals := 0 } : Room)) (fun a U => a = #[(.int v1)] ∧ Z.Warmed39 U.vm ∧ U.heap = h0) (fun _ _ _ _ _ => True) (fun _ U o U' => ∃ v L, o = .returned v ∧ OwnQ (some (.int (1 : Int32))) h0 n0 v U'.heap L ∧ FrameEnd U o U' L ({ frames := 0, cells := 0, slots := 0, locals := 0 } : Room).cells ({ frames := 0, cells := 0, slots := 0, locals := 0 } : Room).slots) := by
  refine MetFree.of_bodySF (plainFor_of_name own_pn_1) hisR ?_
  intro p e s m args below meth c s₁ Bd hml0 hP hK
  obtain ⟨rfl, hZ, hh⟩ := hP
  have hx := Bd.exec
  have hby := Bd.bytes
  have hml : c.maxLocals = 1 := hml0
  have hown : s.vm.findClass "com/example/credlib/credlib/policy/NameRule" = some m.cls := findClass_of_methodNamed Bd.named
  have hnm := (name_of_methodNamed Bd.named Bd.method).1
  have X0 : Stand p l e ({ frames := 0, cells := 0, slots := 0, locals := 0 } : Room) s m #[(.int v1)] below meth c s₁ [] 0 0 := Stand.of_body Bd
  have e0 : s₁.heap = h0 := by rw [← hh, Bd.state]; rfl
  have N0 := Fr.nil n0
  have pre0 : ∀ t, Steps p.tables e below (s₁.setTop (mkF m 0 #[.val (.int v1)] [])) t → Steps p.tables e below (s₁.setTop (entryFrame m #[(.int v1)] 1)) t := fun t k => castTop (own_ef_1_I m v1) k
  obtain ⟨fs, hr, hrun, hended, hW, hsame⟩ := X0.leave (v := some (.int (1 : Int32))) (fun h => by rw [Bd.returns] at h; cases h)
  refine ⟨_, _, pre0 _ ?_, hrun, hended, _, _, rfl, ?_, ⟨_, rfl⟩, hW, hsame.mono (by decide) (by decide)⟩
  · show Steps p.tables e below (s₁.setTop (mkF m 0 #[.val (.int v1)] [])) _
    refine XS.iloadN X0.here hx rfl (hb hby own_d1_0) rfl ?_
    show Steps p.tables e below (s₁.setTop (mkF m 1 #[.val (.int v1)] [(.int v1)])) _
    refine XS.bipush X0.here hx rfl (hb hby own_d1_1) ?_
    show Steps p.tables e below (s₁.setTop (mkF m 3 #[.val (.int v1)] [(.int (65 : Int32)), (.int v1)])) _
    refine XS.icmpYes X0.here hx rfl (pc0 := 3) (pc' := 12) rfl (hb hby own_d1_3) rfl (tlt (hp1 : v1 < (65 : Int32))).1 (by decide) (by decide) ?_
    show Steps p.tables e below (s₁.setTop (mkF m 12 #[.val (.int v1)] [])) _
    refine XS.iloadN X0.here hx rfl (hb hby own_d1_12) rfl ?_
    show Steps p.tables e below (s₁.setTop (mkF m 13 #[.val (.int v1)] [(.int v1)])) _
    refine XS.bipush X0.here hx rfl (hb hby own_d1_13) ?_
    show Steps p.tables e below (s₁.setTop (mkF m 15 #[.val (.int v1)] [(.int (97 : Int32)), (.int v1)])) _
    refine XS.icmpYes X0.here hx rfl (pc0 := 15) (pc' := 24) rfl (hb hby own_d1_15) rfl (tlt (hp3 : v1 < (97 : Int32))).1 (by decide) (by decide) ?_
    show Steps p.tables e below (s₁.setTop (mkF m 24 #[.val (.int v1)] [])) _
    refine XS.iloadN X0.here hx rfl (hb hby own_d1_24) rfl ?_
    show Steps p.tables e below (s₁.setTop (mkF m 25 #[.val (.int v1)] [(.int v1)])) _
    refine XS.bipush X0.here hx rfl (hb hby own_d1_25) ?_
    show Steps p.tables e below (s₁.setTop (mkF m 27 #[.val (.int v1)] [(.int (48 : Int32)), (.int v1)])) _
    refine XS.icmpNo X0.here hx rfl (hb hby own_d1_27) rfl (flt (hp5 : ¬ (v1 < (48 : Int32)))).1 ?_
    show Steps p.tables e below (s₁.setTop (mkF m 30 #[.val (.int v1)] [])) _
    refine XS.iloadN X0.here hx rfl (hb hby own_d1_30) rfl ?_
    show Steps p.tables e below (s₁.setTop (mkF m 31 #[.val (.int v1)] [(.int v1)])) _
    refine XS.bipush X0.here hx rfl (hb hby own_d1_31) ?_
    show Steps p.tables e below (s₁.setTop (mkF m 33 #[.val (.int v1)] [(.int (57 : Int32)), (.int v1)])) _
    refine XS.icmpYes X0.here hx rfl (pc0 := 33) (pc' := 42) rfl (hb hby own_d1_33) rfl (flt (hp6 : ¬ ((57 : Int32) < v1))).2.2.2 (by decide) (by decide) ?_
    show Steps p.tables e below (s₁.setTop (mkF m 42 #[.val (.int v1)] [])) _
    refine XS.iconst X0.here hx rfl (hb hby own_d1_42) ?_
    show Steps p.tables e below (s₁.setTop (mkF m 43 #[.val (.int v1)] [(.int (1 : Int32))])) _
    refine XS.goto X0.here hx rfl (pc0 := 43) (pc' := 47) rfl (hb hby own_d1_43) (by decide) (by decide) ?_
    show Steps p.tables e below (s₁.setTop (mkF m 47 #[.val (.int v1)] [(.int (1 : Int32))])) _
    exact retN X0 hx (t := .boolean) Bd.returns (by simp) (hb hby own_d1_47) hr
  · show OwnQ _ h0 n0 _ s₁.heap _
    exact ⟨rfl, N0, e0⟩
theorem own_d2_36 : decode method_2_code 36 = .ok (.lload_n 3, 1) := by decide +kernel
theorem own_d2_37 : decode method_2_code 37 = .ok (.ldc2_w 9, 3) := by decide +kernel
theorem own_d2_40 : decode method_2_code 40 = .ok (.lcmp, 1) := by decide +kernel
theorem own_d2_41 : decode method_2_code 41 = .ok (.ifCond .ge 7, 3) := by decide +kernel
theorem own_d2_44 : decode method_2_code 44 = .ok (.iconst 1, 1) := by decide +kernel
theorem own_d2_45 : decode method_2_code 45 = .ok (.goto 4, 3) := by decide +kernel
theorem own_d2_78 : decode method_2_code 78 = .ok (.iconst 1, 1) := by decide +kernel
theorem own_d2_79 : decode method_2_code 79 = .ok (.goto 4, 3) := by decide +kernel
set_option maxRecDepth 65536 in
set_option maxHeartbeats 40000000 in
theorem own_expected_5 (l : Launch) (Z : State) (a0 : Array Value) (hw : ∀ d ∈ tables_1, d.before a0 Z = true) (ws : List Jvm.Cond) (wENTITY : Addr) (wROLE_NAME : Addr) (G : OwnG Z wENTITY wROLE_NAME) (h0 : Heap) (n0 : Nat) (O0 : Old Z n0 h0) (v1 : Int32) (hp1 : v1 < (65 : Int32)) (hp2 : ¬ ((90 : Int32) < v1)) (hp3 : v1 < (97 : Int32)) (hp4 : ¬ ((122 : Int32) < v1)) (hp5 : ¬ (v1 < (48 : Int32))) (hp6 : ¬ ((57 : Int32) < v1)) (hp7 : ¬ (v1 = (95 : Int32))) (hp8 : (v1 ||| (32 : Int32)) < (97 : Int32)) (hp9 : ¬ ((122 : Int32) < (v1 ||| (32 : Int32)))) (hp10 : ¬ ((lcmpW ((v1.toInt64) - (48 : Int64)) (0 : Int64)) < (0 : Int32))) (hp11 : (lcmpW ((v1.toInt64) - (48 : Int64)) (10 : Int64)) < (0 : Int32)) :
    MetFree l (⟨"com/example/credlib/credlib/policy/NameRuleIsPartPinLaw", "expected", "(I)Z"⟩ : MethodName) (head1 (Jvm.Cond.code (⟨"com/example/credlib/credlib/policy/NameRuleIsPartPinLaw", "expected", "(I)Z"⟩ : MethodName) method_2_code 7 (some .boolean) :: ws) ({ frames := 0, cells := 0, slots := 0, locals := 0 } : Room)) (fun a U => a = #[(.int v1)] ∧ Z.Warmed39 U.vm ∧ U.heap = h0) (fun _ _ _ _ _ => True) (fun _ U o U' => ∃ v L, o = .returned v ∧ OwnQ (some (.int (1 : Int32))) h0 n0 v U'.heap L ∧ FrameEnd U o U' L ({ frames := 0, cells := 0, slots := 0, locals := 0 } : Room).cells ({ frames := 0, cells := 0, slots := 0, locals := 0 } : Room).slots) := by
  refine MetFree.of_bodySF (plainFor_of_name own_pn_0) hisR ?_
  intro p e s m args below meth c s₁ Bd hml0 hP hK
  obtain ⟨rfl, hZ, hh⟩ := hP
  have hx := Bd.exec
  have hby := Bd.bytes
  have hml : c.maxLocals = 7 := hml0
  have hown : s.vm.findClass "com/example/credlib/credlib/policy/NameRuleIsPartPinLaw" = some m.cls := findClass_of_methodNamed Bd.named
  have hnm := (name_of_methodNamed Bd.named Bd.method).1
  have X0 : Stand p l e ({ frames := 0, cells := 0, slots := 0, locals := 0 } : Room) s m #[(.int v1)] below meth c s₁ [] 0 0 := Stand.of_body Bd
  have e0 : s₁.heap = h0 := by rw [← hh, Bd.state]; rfl
  have N0 := Fr.nil n0
  have pre0 : ∀ t, Steps p.tables e below (s₁.setTop (mkF m 0 #[.val (.int v1), .unset, .unset, .unset, .unset, .unset, .unset] [])) t → Steps p.tables e below (s₁.setTop (entryFrame m #[(.int v1)] 7)) t := fun t k => castTop (own_ef_2_I m v1) k
  obtain ⟨fs, hr, hrun, hended, hW, hsame⟩ := X0.leave (v := some (.int (1 : Int32))) (fun h => by rw [Bd.returns] at h; cases h)
  refine ⟨_, _, pre0 _ ?_, hrun, hended, _, _, rfl, ?_, ⟨_, rfl⟩, hW, hsame.mono (by decide) (by decide)⟩
  · show Steps p.tables e below (s₁.setTop (mkF m 0 #[.val (.int v1), .unset, .unset, .unset, .unset, .unset, .unset] [])) _
    refine XS.iloadN X0.here hx rfl (hb hby own_d2_0) rfl ?_
    show Steps p.tables e below (s₁.setTop (mkF m 1 #[.val (.int v1), .unset, .unset, .unset, .unset, .unset, .unset] [(.int v1)])) _
    refine XS.bipush X0.here hx rfl (hb hby own_d2_1) ?_
    show Steps p.tables e below (s₁.setTop (mkF m 3 #[.val (.int v1), .unset, .unset, .unset, .unset, .unset, .unset] [(.int (32 : Int32)), (.int v1)])) _
    refine XS.ior X0.here hx rfl (hb hby own_d2_3) rfl ?_
    show Steps p.tables e below (s₁.setTop (mkF m 4 #[.val (.int v1), .unset, .unset, .unset, .unset, .unset, .unset] [(.int (v1 ||| (32 : Int32)))])) _
    refine XS.istoreN X0.here hx rfl (hb hby own_d2_4) rfl (l' := #[.val (.int v1), .val (.int (v1 ||| (32 : Int32))), .unset, .unset, .unset, .unset, .unset]) rfl ?_
    show Steps p.tables e below (s₁.setTop (mkF m 5 #[.val (.int v1), .val (.int (v1 ||| (32 : Int32))), .unset, .unset, .unset, .unset, .unset] [])) _
    refine XS.iloadN X0.here hx rfl (hb hby own_d2_5) rfl ?_
    show Steps p.tables e below (s₁.setTop (mkF m 6 #[.val (.int v1), .val (.int (v1 ||| (32 : Int32))), .unset, .unset, .unset, .unset, .unset] [(.int (v1 ||| (32 : Int32)))])) _
    refine XS.bipush X0.here hx rfl (hb hby own_d2_6) ?_
    show Steps p.tables e below (s₁.setTop (mkF m 8 #[.val (.int v1), .val (.int (v1 ||| (32 : Int32))), .unset, .unset, .unset, .unset, .unset] [(.int (97 : Int32)), (.int (v1 ||| (32 : Int32)))])) _
    refine XS.icmpYes X0.here hx rfl (pc0 := 8) (pc' := 21) rfl (hb hby own_d2_8) rfl (tlt (hp8 : (v1 ||| (32 : Int32)) < (97 : Int32))).1 (by decide) (by decide) ?_
    show Steps p.tables e below (s₁.setTop (mkF m 21 #[.val (.int v1), .val (.int (v1 ||| (32 : Int32))), .unset, .unset, .unset, .unset, .unset] [])) _
    refine XS.iconst X0.here hx rfl (hb hby own_d2_21) ?_
    show Steps p.tables e below (s₁.setTop (mkF m 22 #[.val (.int v1), .val (.int (v1 ||| (32 : Int32))), .unset, .unset, .unset, .unset, .unset] [(.int (0 : Int32))])) _
    refine XS.istoreN X0.here hx rfl (hb hby own_d2_22) rfl (l' := #[.val (.int v1), .val (.int (v1 ||| (32 : Int32))), .val (.int (0 : Int32)), .unset, .unset, .unset, .unset]) rfl ?_
    show Steps p.tables e below (s₁.setTop (mkF m 23 #[.val (.int v1), .val (.int (v1 ||| (32 : Int32))), .val (.int (0 : Int32)), .unset, .unset, .unset, .unset] [])) _
    refine XS.iloadN X0.here hx rfl (hb hby own_d2_23) rfl ?_
    show Steps p.tables e below (s₁.setTop (mkF m 24 #[.val (.int v1), .val (.int (v1 ||| (32 : Int32))), .val (.int (0 : Int32)), .unset, .unset, .unset, .unset] [(.int v1)])) _
    refine XS.i2l X0.here hx rfl (hb hby own_d2_24) rfl ?_
    show Steps p.tables e below (s₁.setTop (mkF m 25 #[.val (.int v1), .val (.int (v1 ||| (32 : Int32))), .val (.int (0 : Int32)), .unset, .unset, .unset, .unset] [(.long (v1.toInt64))])) _
    refine Jvm.Stand.ldc2J X0 hx hown (mvT hZ (hw _ (List.mem_of_getElem? (i := 8) rfl))) rfl (hb hby own_d2_25) ?_
    show Steps p.tables e below (s₁.setTop (mkF m 28 #[.val (.int v1), .val (.int (v1 ||| (32 : Int32))), .val (.int (0 : Int32)), .unset, .unset, .unset, .unset] [(.long (48 : Int64)), (.long (v1.toInt64))])) _
    refine XS.lsub X0.here hx rfl (hb hby own_d2_28) rfl ?_
    show Steps p.tables e below (s₁.setTop (mkF m 29 #[.val (.int v1), .val (.int (v1 ||| (32 : Int32))), .val (.int (0 : Int32)), .unset, .unset, .unset, .unset] [(.long ((v1.toInt64) - (48 : Int64)))])) _
    refine XS.lstoreN X0.here hx rfl (hb hby own_d2_29) rfl (l' := #[.val (.int v1), .val (.int (v1 ||| (32 : Int32))), .val (.int (0 : Int32)), .val (.long ((v1.toInt64) - (48 : Int64))), .second, .unset, .unset]) rfl ?_
    show Steps p.tables e below (s₁.setTop (mkF m 30 #[.val (.int v1), .val (.int (v1 ||| (32 : Int32))), .val (.int (0 : Int32)), .val (.long ((v1.toInt64) - (48 : Int64))), .second, .unset, .unset] [])) _
    refine XS.lloadN X0.here hx rfl (hb hby own_d2_30) rfl ?_
    show Steps p.tables e below (s₁.setTop (mkF m 31 #[.val (.int v1), .val (.int (v1 ||| (32 : Int32))), .val (.int (0 : Int32)), .val (.long ((v1.toInt64) - (48 : Int64))), .second, .unset, .unset] [(.long ((v1.toInt64) - (48 : Int64)))])) _
    refine XS.lconst X0.here hx rfl (hb hby own_d2_31) ?_
    show Steps p.tables e below (s₁.setTop (mkF m 32 #[.val (.int v1), .val (.int (v1 ||| (32 : Int32))), .val (.int (0 : Int32)), .val (.long ((v1.toInt64) - (48 : Int64))), .second, .unset, .unset] [(.long (0 : Int64)), (.long ((v1.toInt64) - (48 : Int64)))])) _
    refine XS.lcmp X0.here hx rfl (hb hby own_d2_32) rfl ?_
    show Steps p.tables e below (s₁.setTop (mkF m 33 #[.val (.int v1), .val (.int (v1 ||| (32 : Int32))), .val (.int (0 : Int32)), .val (.long ((v1.toInt64) - (48 : Int64))), .second, .unset, .unset] [(.int (lcmpW ((v1.toInt64) - (48 : Int64)) (0 : Int64)))])) _
    refine XS.ifNo X0.here hx rfl (hb hby own_d2_33) rfl ((if0 _ _).trans (flt (hp10 : ¬ ((lcmpW ((v1.toInt64) - (48 : Int64)) (0 : Int64)) < (0 : Int32)))).1) ?_
    show Steps p.tables e below (s₁.setTop (mkF m 36 #[.val (.int v1), .val (.int (v1 ||| (32 : Int32))), .val (.int (0 : Int32)), .val (.long ((v1.toInt64) - (48 : Int64))), .second, .unset, .unset] [])) _
    refine XS.lloadN X0.here hx rfl (hb hby own_d2_36) rfl ?_
    show Steps p.tables e below (s₁.setTop (mkF m 37 #[.val (.int v1), .val (.int (v1 ||| (32 : Int32))), .val (.int (0 : Int32)), .val (.long ((v1.toInt64) - (48 : Int64))), .second, .unset, .unset] [(.long ((v1.toInt64) - (48 : Int64)))])) _
    refine Jvm.Stand.ldc2J X0 hx hown (mvT hZ (hw _ (List.mem_of_getElem? (i := 20) rfl))) rfl (hb hby own_d2_37) ?_
    show Steps p.tables e below (s₁.setTop (mkF m 40 #[.val (.int v1), .val (.int (v1 ||| (32 : Int32))), .val (.int (0 : Int32)), .val (.long ((v1.toInt64) - (48 : Int64))), .second, .unset, .unset] [(.long (10 : Int64)), (.long ((v1.toInt64) - (48 : Int64)))])) _
    refine XS.lcmp X0.here hx rfl (hb hby own_d2_40) rfl ?_
    show Steps p.tables e below (s₁.setTop (mkF m 41 #[.val (.int v1), .val (.int (v1 ||| (32 : Int32))), .val (.int (0 : Int32)), .val (.long ((v1.toInt64) - (48 : Int64))), .second, .unset, .unset] [(.int (lcmpW ((v1.toInt64) - (48 : Int64)) (10 : Int64)))])) _
    refine XS.ifNo X0.here hx rfl (hb hby own_d2_41) rfl ((if0 _ _).trans (tlt (hp11 : (lcmpW ((v1.toInt64) - (48 : Int64)) (10 : Int64)) < (0 : Int32))).2.1) ?_
    show Steps p.tables e below (s₁.setTop (mkF m 44 #[.val (.int v1), .val (.int (v1 ||| (32 : Int32))), .val (.int (0 : Int32)), .val (.long ((v1.toInt64) - (48 : Int64))), .second, .unset, .unset] [])) _
    refine XS.iconst X0.here hx rfl (hb hby own_d2_44) ?_
    show Steps p.tables e below (s₁.setTop (mkF m 45 #[.val (.int v1), .val (.int (v1 ||| (32 : Int32))), .val (.int (0 : Int32)), .val (.long ((v1.toInt64) - (48 : Int64))), .second, .unset, .unset] [(.int (1 : Int32))])) _
    refine XS.goto X0.here hx rfl (pc0 := 45) (pc' := 49) rfl (hb hby own_d2_45) (by decide) (by decide) ?_
    show Steps p.tables e below (s₁.setTop (mkF m 49 #[.val (.int v1), .val (.int (v1 ||| (32 : Int32))), .val (.int (0 : Int32)), .val (.long ((v1.toInt64) - (48 : Int64))), .second, .unset, .unset] [(.int (1 : Int32))])) _
    refine XS.istore X0.here hx rfl (hb hby own_d2_49) rfl (l' := #[.val (.int v1), .val (.int (v1 ||| (32 : Int32))), .val (.int (0 : Int32)), .val (.long ((v1.toInt64) - (48 : Int64))), .second, .val (.int (1 : Int32)), .unset]) rfl ?_
    show Steps p.tables e below (s₁.setTop (mkF m 51 #[.val (.int v1), .val (.int (v1 ||| (32 : Int32))), .val (.int (0 : Int32)), .val (.long ((v1.toInt64) - (48 : Int64))), .second, .val (.int (1 : Int32)), .unset] [])) _
    refine XS.iloadN X0.here hx rfl (hb hby own_d2_51) rfl ?_
    show Steps p.tables e below (s₁.setTop (mkF m 52 #[.val (.int v1), .val (.int (v1 ||| (32 : Int32))), .val (.int (0 : Int32)), .val (.long ((v1.toInt64) - (48 : Int64))), .second, .val (.int (1 : Int32)), .unset] [(.int v1)])) _
    refine XS.bipush X0.here hx rfl (hb hby own_d2_52) ?_
    show Steps p.tables e below (s₁.setTop (mkF m 54 #[.val (.int v1), .val (.int (v1 ||| (32 : Int32))), .val (.int (0 : Int32)), .val (.long ((v1.toInt64) - (48 : Int64))), .second, .val (.int (1 : Int32)), .unset] [(.int (95 : Int32)), (.int v1)])) _
    refine XS.icmpYes X0.here hx rfl (pc0 := 54) (pc' := 61) rfl (hb hby own_d2_54) rfl (feq (hp7 : ¬ (v1 = (95 : Int32)))).2 (by decide) (by decide) ?_
    show Steps p.tables e below (s₁.setTop (mkF m 61 #[.val (.int v1), .val (.int (v1 ||| (32 : Int32))), .val (.int (0 : Int32)), .val (.long ((v1.toInt64) - (48 : Int64))), .second, .val (.int (1 : Int32)), .unset] [])) _
    refine XS.iconst X0.here hx rfl (hb hby own_d2_61) ?_
    show Steps p.tables e below (s₁.setTop (mkF m 62 #[.val (.int v1), .val (.int (v1 ||| (32 : Int32))), .val (.int (0 : Int32)), .val (.long ((v1.toInt64) - (48 : Int64))), .second, .val (.int (1 : Int32)), .unset] [(.int (0 : Int32))])) _
    refine XS.istore X0.here hx rfl (hb hby own_d2_62) rfl (l' := #[.val (.int v1), .val (.int (v1 ||| (32 : Int32))), .val (.int (0 : Int32)), .val (.long ((v1.toInt64) - (48 : Int64))), .second, .val (.int (1 : Int32)), .val (.int (0 : Int32))]) rfl ?_
    show Steps p.tables e below (s₁.setTop (mkF m 64 #[.val (.int v1), .val (.int (v1 ||| (32 : Int32))), .val (.int (0 : Int32)), .val (.long ((v1.toInt64) - (48 : Int64))), .second, .val (.int (1 : Int32)), .val (.int (0 : Int32))] [])) _
    refine XS.iloadN X0.here hx rfl (hb hby own_d2_64) rfl ?_
    show Steps p.tables e below (s₁.setTop (mkF m 65 #[.val (.int v1), .val (.int (v1 ||| (32 : Int32))), .val (.int (0 : Int32)), .val (.long ((v1.toInt64) - (48 : Int64))), .second, .val (.int (1 : Int32)), .val (.int (0 : Int32))] [(.int (0 : Int32))])) _
    refine XS.ifNo X0.here hx rfl (hb hby own_d2_65) rfl (by decide) ?_
    show Steps p.tables e below (s₁.setTop (mkF m 68 #[.val (.int v1), .val (.int (v1 ||| (32 : Int32))), .val (.int (0 : Int32)), .val (.long ((v1.toInt64) - (48 : Int64))), .second, .val (.int (1 : Int32)), .val (.int (0 : Int32))] [])) _
    refine XS.iload X0.here hx rfl (hb hby own_d2_68) rfl ?_
    show Steps p.tables e below (s₁.setTop (mkF m 70 #[.val (.int v1), .val (.int (v1 ||| (32 : Int32))), .val (.int (0 : Int32)), .val (.long ((v1.toInt64) - (48 : Int64))), .second, .val (.int (1 : Int32)), .val (.int (0 : Int32))] [(.int (1 : Int32))])) _
    refine XS.ifYes X0.here hx rfl (pc0 := 70) (pc' := 78) rfl (hb hby own_d2_70) rfl (by decide) (by decide) (by decide) ?_
    show Steps p.tables e below (s₁.setTop (mkF m 78 #[.val (.int v1), .val (.int (v1 ||| (32 : Int32))), .val (.int (0 : Int32)), .val (.long ((v1.toInt64) - (48 : Int64))), .second, .val (.int (1 : Int32)), .val (.int (0 : Int32))] [])) _
    refine XS.iconst X0.here hx rfl (hb hby own_d2_78) ?_
    show Steps p.tables e below (s₁.setTop (mkF m 79 #[.val (.int v1), .val (.int (v1 ||| (32 : Int32))), .val (.int (0 : Int32)), .val (.long ((v1.toInt64) - (48 : Int64))), .second, .val (.int (1 : Int32)), .val (.int (0 : Int32))] [(.int (1 : Int32))])) _
    refine XS.goto X0.here hx rfl (pc0 := 79) (pc' := 83) rfl (hb hby own_d2_79) (by decide) (by decide) ?_
    show Steps p.tables e below (s₁.setTop (mkF m 83 #[.val (.int v1), .val (.int (v1 ||| (32 : Int32))), .val (.int (0 : Int32)), .val (.long ((v1.toInt64) - (48 : Int64))), .second, .val (.int (1 : Int32)), .val (.int (0 : Int32))] [(.int (1 : Int32))])) _
    exact retN X0 hx (t := .boolean) Bd.returns (by simp) (hb hby own_d2_83) hr
  · show OwnQ _ h0 n0 _ s₁.heap _
    exact ⟨rfl, N0, e0⟩
set_option maxRecDepth 65536 in
set_option maxHeartbeats 40000000 in
theorem own_isStart_6 (l : Launch) (Z : State) (a0 : Array Value) (hw : ∀ d ∈ tables_1, d.before a0 Z = true) (ws : List Jvm.Cond) (wENTITY : Addr) (wROLE_NAME : Addr) (G : OwnG Z wENTITY wROLE_NAME) (h0 : Heap) (n0 : Nat) (O0 : Old Z n0 h0) (v1 : Int32) (hp1 : v1 < (65 : Int32)) (hp2 : ¬ ((90 : Int32) < v1)) (hp3 : v1 < (97 : Int32)) (hp4 : ¬ ((122 : Int32) < v1)) (hp5 : ¬ (v1 < (48 : Int32))) (hp6 : ¬ ((57 : Int32) < v1)) (hp7 : ¬ (v1 = (95 : Int32))) (hp8 : (v1 ||| (32 : Int32)) < (97 : Int32)) (hp9 : ¬ ((122 : Int32) < (v1 ||| (32 : Int32)))) (hp10 : ¬ ((lcmpW ((v1.toInt64) - (48 : Int64)) (0 : Int64)) < (0 : Int32))) (hp11 : (lcmpW ((v1.toInt64) - (48 : Int64)) (10 : Int64)) < (0 : Int32)) :
    MetFree l (⟨"com/example/credlib/credlib/policy/NameRule", "isStart", "(I)Z"⟩ : MethodName) (head1 (Jvm.Cond.code (⟨"com/example/credlib/credlib/policy/NameRule", "isStart", "(I)Z"⟩ : MethodName) prog_30_method_6_code 2 (some .boolean) :: ws) ({ frames := 0, cells := 0, slots := 0, locals := 0 } : Room)) (fun a U => a = #[(.ref wENTITY), (.int v1)] ∧ Z.Warmed39 U.vm ∧ U.heap = h0) (fun _ _ _ _ _ => True) (fun _ U o U' => ∃ v L, o = .returned v ∧ OwnQ (some (.int (0 : Int32))) h0 n0 v U'.heap L ∧ FrameEnd U o U' L ({ frames := 0, cells := 0, slots := 0, locals := 0 } : Room).cells ({ frames := 0, cells := 0, slots := 0, locals := 0 } : Room).slots) := by
  refine MetFree.of_bodySF (plainFor_of_name own_pn_1) hisR ?_
  intro p e s m args below meth c s₁ Bd hml0 hP hK
  obtain ⟨rfl, hZ, hh⟩ := hP
  have hx := Bd.exec
  have hby := Bd.bytes
  have hml : c.maxLocals = 2 := hml0
  have hown : s.vm.findClass "com/example/credlib/credlib/policy/NameRule" = some m.cls := findClass_of_methodNamed Bd.named
  have hnm := (name_of_methodNamed Bd.named Bd.method).1
  have X0 : Stand p l e ({ frames := 0, cells := 0, slots := 0, locals := 0 } : Room) s m #[(.ref wENTITY), (.int v1)] below meth c s₁ [] 0 0 := Stand.of_body Bd
  have e0 : s₁.heap = h0 := by rw [← hh, Bd.state]; rfl
  have N0 := Fr.nil n0
  have pre0 : ∀ t, Steps p.tables e below (s₁.setTop (mkF m 0 #[.val (.ref wENTITY), .val (.int v1)] [])) t → Steps p.tables e below (s₁.setTop (entryFrame m #[(.ref wENTITY), (.int v1)] 2)) t := fun t k => castTop (own_ef_3_RI m wENTITY v1) k
  obtain ⟨T1, X1, e1, st1⟩ := getF X0 hx hZ hown (host := "") (Or.inl (hw _ (List.mem_of_getElem? (i := 16) rfl))) Via.refl e0 (G.2.2.2.2.1.ext O0.2) (g := (mkF m 2 #[.val (.ref wENTITY), .val (.int v1)] [(.ref wENTITY), (.int v1)])) rfl rfl (hb hby own_d3_2)
  obtain ⟨fs, hr, hrun, hended, hW, hsame⟩ := X1.leave (v := some (.int (0 : Int32))) (fun h => by rw [Bd.returns] at h; cases h)
  refine ⟨_, _, pre0 _ ?_, hrun, hended, _, _, rfl, ?_, ⟨_, rfl⟩, hW, hsame.mono (by decide) (by decide)⟩
  · show Steps p.tables e below (s₁.setTop (mkF m 0 #[.val (.ref wENTITY), .val (.int v1)] [])) _
    refine XS.iloadN X0.here hx rfl (hb hby own_d3_0) rfl ?_
    show Steps p.tables e below (s₁.setTop (mkF m 1 #[.val (.ref wENTITY), .val (.int v1)] [(.int v1)])) _
    refine XS.aloadN X0.here hx rfl (hb hby own_d3_1) rfl rfl ?_
    show Steps p.tables e below (s₁.setTop (mkF m 2 #[.val (.ref wENTITY), .val (.int v1)] [(.ref wENTITY), (.int v1)])) _
    refine st1 _ ?_
    show Steps p.tables e below (T1.setTop (mkF m 5 #[.val (.ref wENTITY), .val (.int v1)] [(.int (65 : Int32)), (.int v1)])) _
    refine XS.icmpYes X1.here hx rfl (pc0 := 5) (pc' := 20) rfl (hb hby own_d3_5) rfl (tlt (hp1 : v1 < (65 : Int32))).1 (by decide) (by decide) ?_
    show Steps p.tables e below (T1.setTop (mkF m 20 #[.val (.ref wENTITY), .val (.int v1)] [])) _
    refine XS.iconst X1.here hx rfl (hb hby own_d3_20) ?_
    show Steps p.tables e below (T1.setTop (mkF m 21 #[.val (.ref wENTITY), .val (.int v1)] [(.int (0 : Int32))])) _
    exact retN X1 hx (t := .boolean) Bd.returns (by simp) (hb hby own_d3_21) hr
  · show OwnQ _ h0 n0 _ T1.heap _
    exact ⟨rfl, N0, e1⟩
set_option maxRecDepth 65536 in
set_option maxHeartbeats 40000000 in
theorem own_isStart_7 (l : Launch) (Z : State) (a0 : Array Value) (hw : ∀ d ∈ tables_1, d.before a0 Z = true) (ws : List Jvm.Cond) (wENTITY : Addr) (wROLE_NAME : Addr) (G : OwnG Z wENTITY wROLE_NAME) (h0 : Heap) (n0 : Nat) (O0 : Old Z n0 h0) (v1 : Int32) (hp1 : v1 < (65 : Int32)) (hp2 : ¬ ((90 : Int32) < v1)) (hp3 : v1 < (97 : Int32)) (hp4 : ¬ ((122 : Int32) < v1)) (hp5 : ¬ (v1 < (48 : Int32))) (hp6 : ¬ ((57 : Int32) < v1)) (hp7 : ¬ (v1 = (95 : Int32))) (hp8 : (v1 ||| (32 : Int32)) < (97 : Int32)) (hp9 : ¬ ((122 : Int32) < (v1 ||| (32 : Int32)))) (hp10 : ¬ ((lcmpW ((v1.toInt64) - (48 : Int64)) (0 : Int64)) < (0 : Int32))) (hp11 : (lcmpW ((v1.toInt64) - (48 : Int64)) (10 : Int64)) < (0 : Int32)) :
    MetFree l (⟨"com/example/credlib/credlib/policy/NameRule", "isStart", "(I)Z"⟩ : MethodName) (head1 (Jvm.Cond.code (⟨"com/example/credlib/credlib/policy/NameRule", "isStart", "(I)Z"⟩ : MethodName) prog_30_method_6_code 2 (some .boolean) :: ws) ({ frames := 0, cells := 0, slots := 0, locals := 0 } : Room)) (fun a U => a = #[(.ref wROLE_NAME), (.int v1)] ∧ Z.Warmed39 U.vm ∧ U.heap = h0) (fun _ _ _ _ _ => True) (fun _ U o U' => ∃ v L, o = .returned v ∧ OwnQ (some (.int (0 : Int32))) h0 n0 v U'.heap L ∧ FrameEnd U o U' L ({ frames := 0, cells := 0, slots := 0, locals := 0 } : Room).cells ({ frames := 0, cells := 0, slots := 0, locals := 0 } : Room).slots) := by
  refine MetFree.of_bodySF (plainFor_of_name own_pn_1) hisR ?_
  intro p e s m args below meth c s₁ Bd hml0 hP hK
  obtain ⟨rfl, hZ, hh⟩ := hP
  have hx := Bd.exec
  have hby := Bd.bytes
  have hml : c.maxLocals = 2 := hml0
  have hown : s.vm.findClass "com/example/credlib/credlib/policy/NameRule" = some m.cls := findClass_of_methodNamed Bd.named
  have hnm := (name_of_methodNamed Bd.named Bd.method).1
  have X0 : Stand p l e ({ frames := 0, cells := 0, slots := 0, locals := 0 } : Room) s m #[(.ref wROLE_NAME), (.int v1)] below meth c s₁ [] 0 0 := Stand.of_body Bd
  have e0 : s₁.heap = h0 := by rw [← hh, Bd.state]; rfl
  have N0 := Fr.nil n0
  have pre0 : ∀ t, Steps p.tables e below (s₁.setTop (mkF m 0 #[.val (.ref wROLE_NAME), .val (.int v1)] [])) t → Steps p.tables e below (s₁.setTop (entryFrame m #[(.ref wROLE_NAME), (.int v1)] 2)) t := fun t k => castTop (own_ef_3_RI m wROLE_NAME v1) k
  obtain ⟨T1, X1, e1, st1⟩ := getF X0 hx hZ hown (host := "") (Or.inl (hw _ (List.mem_of_getElem? (i := 16) rfl))) Via.refl e0 (G.2.2.2.2.2.1.ext O0.2) (g := (mkF m 2 #[.val (.ref wROLE_NAME), .val (.int v1)] [(.ref wROLE_NAME), (.int v1)])) rfl rfl (hb hby own_d3_2)
  obtain ⟨fs, hr, hrun, hended, hW, hsame⟩ := X1.leave (v := some (.int (0 : Int32))) (fun h => by rw [Bd.returns] at h; cases h)
  refine ⟨_, _, pre0 _ ?_, hrun, hended, _, _, rfl, ?_, ⟨_, rfl⟩, hW, hsame.mono (by decide) (by decide)⟩
  · show Steps p.tables e below (s₁.setTop (mkF m 0 #[.val (.ref wROLE_NAME), .val (.int v1)] [])) _
    refine XS.iloadN X0.here hx rfl (hb hby own_d3_0) rfl ?_
    show Steps p.tables e below (s₁.setTop (mkF m 1 #[.val (.ref wROLE_NAME), .val (.int v1)] [(.int v1)])) _
    refine XS.aloadN X0.here hx rfl (hb hby own_d3_1) rfl rfl ?_
    show Steps p.tables e below (s₁.setTop (mkF m 2 #[.val (.ref wROLE_NAME), .val (.int v1)] [(.ref wROLE_NAME), (.int v1)])) _
    refine st1 _ ?_
    show Steps p.tables e below (T1.setTop (mkF m 5 #[.val (.ref wROLE_NAME), .val (.int v1)] [(.int (97 : Int32)), (.int v1)])) _
    refine XS.icmpYes X1.here hx rfl (pc0 := 5) (pc' := 20) rfl (hb hby own_d3_5) rfl (tlt (hp3 : v1 < (97 : Int32))).1 (by decide) (by decide) ?_
    show Steps p.tables e below (T1.setTop (mkF m 20 #[.val (.ref wROLE_NAME), .val (.int v1)] [])) _
    refine XS.iconst X1.here hx rfl (hb hby own_d3_20) ?_
    show Steps p.tables e below (T1.setTop (mkF m 21 #[.val (.ref wROLE_NAME), .val (.int v1)] [(.int (0 : Int32))])) _
    exact retN X1 hx (t := .boolean) Bd.returns (by simp) (hb hby own_d3_21) hr
  · show OwnQ _ h0 n0 _ T1.heap _
    exact ⟨rfl, N0, e1⟩
set_option maxRecDepth 65536 in
set_option maxHeartbeats 40000000 in
theorem own_law_01 (l : Launch) (Z : State) (a0 : Array Value) (hw : ∀ d ∈ tables_1, d.before a0 Z = true) (ws : List Jvm.Cond) (wENTITY : Addr) (wROLE_NAME : Addr) (G : OwnG Z wENTITY wROLE_NAME) (h0 : Heap) (n0 : Nat) (O0 : Old Z n0 h0) (p1 : Int32) (p2 : Int32) (he : (p2 &&& (1 : Int32)) = (0 : Int32)) (aa0 : (p1 &&& (255 : Int32)) < (65 : Int32)) (aa1 : ¬ ((90 : Int32) < (p1 &&& (255 : Int32)))) (aa2 : (p1 &&& (255 : Int32)) < (97 : Int32)) (aa3 : ¬ ((122 : Int32) < (p1 &&& (255 : Int32)))) (aa4 : ¬ ((p1 &&& (255 : Int32)) < (48 : Int32))) (aa5 : ¬ ((57 : Int32) < (p1 &&& (255 : Int32)))) (aa6 : ¬ ((p1 &&& (255 : Int32)) = (95 : Int32))) (aa7 : ((p1 &&& (255 : Int32)) ||| (32 : Int32)) < (97 : Int32)) (aa8 : ¬ ((122 : Int32) < ((p1 &&& (255 : Int32)) ||| (32 : Int32)))) (aa9 : ¬ ((lcmpW (((p1 &&& (255 : Int32)).toInt64) - (48 : Int64)) (0 : Int64)) < (0 : Int32))) (aa10 : (lcmpW (((p1 &&& (255 : Int32)).toInt64) - (48 : Int64)) (10 : Int64)) < (0 : Int32)) :
    MetFree l x (head1 (Jvm.Cond.code x code maxLocals ret :: ws) room_1) (fun a U => a = #[(.int p1), (.int p2)] ∧ Z.Warmed39 U.vm ∧ U.heap = h0) (fun _ _ _ _ _ => True) (fun _ U o U' => ∃ v L, o = .returned v ∧ (v = some (.int 1) ∧ Fr n0 L) ∧ FrameEnd U o U' L room_1.cells room_1.slots) := by
  refine MetFree.of_bodySF (plainFor_of_name own_pn_0) hisR ?_
  intro p e s m args below meth c s₁ Bd hml0 hP hK
  obtain ⟨rfl, hZ, hh⟩ := hP
  have hx := Bd.exec
  have hby := Bd.bytes
  have hml : c.maxLocals = 4 := hml0
  have hown : s.vm.findClass "com/example/credlib/credlib/policy/NameRuleIsPartPinLaw" = some m.cls := findClass_of_methodNamed Bd.named
  have hnm := (name_of_methodNamed Bd.named Bd.method).1
  have X0 : Stand p l e room_1 s m #[(.int p1), (.int p2)] below meth c s₁ [] 0 0 := Stand.of_body Bd
  have e0 : s₁.heap = h0 := by rw [← hh, Bd.state]; rfl
  have N0 := Fr.nil n0
  have pre0 : ∀ t, Steps p.tables e below (s₁.setTop (mkF m 0 #[.val (.int p1), .val (.int p2), .unset, .unset] [])) t → Steps p.tables e below (s₁.setTop (entryFrame m #[(.int p1), (.int p2)] maxLocals)) t := fun t k => castTop (own_ef_0_II m p1 p2) k
  obtain ⟨_, _, ⟨T1, L1, k1, n1⟩, -, X1, ⟨Lc1, hQ1, l1, y1, z1⟩, st1⟩ := Jvm.LawKit.callS X0 hx (y := (⟨"com/example/credlib/credlib/policy/NameRule", "isPart", "(I)Z"⟩ : MethodName)) hown (mvT hZ (hw _ (List.mem_of_getElem? (i := 0) rfl))) (mvT hZ (hw _ (List.mem_of_getElem? (i := 1) rfl))) (mvT hZ (hw _ (List.mem_of_getElem? (i := 2) rfl))) (mvT hZ (hw _ (List.mem_of_getElem? (i := 3) rfl))) (by decide) (backOf (W := 0) (own_isPart_4 l Z a0 hw [] wENTITY wROLE_NAME G h0 n0 O0 (p1 &&& (255 : Int32)) aa0 aa1 aa2 aa3 aa4 aa5 aa6 aa7 aa8 aa9 aa10) hZ (hw _ (List.mem_of_getElem? (i := 3) rfl)) (hw _ (List.mem_of_getElem? (i := 2) rfl)) (by decide) (by decide)) (g := (mkF m 17 #[.val (.int p1), .val (.int p2), .val (.int (p1 &&& (255 : Int32))), .unset] [(.int (p1 &&& (255 : Int32)))])) rfl (by rw [hml]; rfl) (argsL := [(.int (p1 &&& (255 : Int32)))]) (rest := []) (lenOf own_pd_0 rfl) rfl (by show 2 * 0 + _ ≤ _; exact Nat.le_of_eq rfl) (hb hby at_17) (fun _ _ => ⟨rfl, e0, (by decide : 0 + 0 ≤ _), (by decide : 0 + 0 ≤ _)⟩)
  dsimp only [Pt.U, Pt.locs, Pt.cells, Pt.slots] at X1 l1 y1 z1 st1 hQ1
  subst l1 y1 z1
  obtain ⟨rfl, N1q, e1⟩ := hQ1
  have N1 := Fr.app N0 N1q
  obtain ⟨_, _, ⟨T2, L2, k2, n2⟩, -, X2, ⟨Lc2, hQ2, l2, y2, z2⟩, st2⟩ := Jvm.LawKit.callS X1 hx (y := (⟨"com/example/credlib/credlib/policy/NameRuleIsPartPinLaw", "expected", "(I)Z"⟩ : MethodName)) hown (mvT hZ (hw _ (List.mem_of_getElem? (i := 4) rfl))) (mvT hZ (hw _ (List.mem_of_getElem? (i := 5) rfl))) (mvT hZ (hw _ (List.mem_of_getElem? (i := 6) rfl))) (mvT hZ (hw _ (List.mem_of_getElem? (i := 7) rfl))) (by decide) (backOf (W := 1) (own_expected_5 l Z a0 hw [] wENTITY wROLE_NAME G h0 n0 O0 (p1 &&& (255 : Int32)) aa0 aa1 aa2 aa3 aa4 aa5 aa6 aa7 aa8 aa9 aa10) hZ (hw _ (List.mem_of_getElem? (i := 7) rfl)) (hw _ (List.mem_of_getElem? (i := 6) rfl)) (by decide) (by decide)) (g := (mkF m 23 #[.val (.int p1), .val (.int p2), .val (.int (p1 &&& (255 : Int32))), .val (.int (1 : Int32))] [(.int (p1 &&& (255 : Int32))), (.int (1 : Int32))])) rfl (by rw [hml]; rfl) (argsL := [(.int (p1 &&& (255 : Int32)))]) (rest := [(.int (1 : Int32))]) (lenOf own_pd_0 rfl) rfl (by show 2 * 0 + _ ≤ _; exact Nat.le_of_eq rfl) (hb hby at_23) (fun _ _ => ⟨rfl, e1, (by decide : 0 + 0 ≤ _), (by decide : 0 + 0 ≤ _)⟩)
  dsimp only [Pt.U, Pt.locs, Pt.cells, Pt.slots] at X2 l2 y2 z2 st2 hQ2
  subst l2 y2 z2
  obtain ⟨rfl, N2q, e2⟩ := hQ2
  have N2 := Fr.app N1 N2q
  obtain ⟨T3, X3, e3, st3⟩ := getS2 X2 hx hZ hown (host := "") (Or.inl (hw _ (List.mem_of_getElem? (i := 9) rfl))) Via.refl e2 (G.1.ext O0.2) (g := (mkF m 31 #[.val (.int p1), .val (.int p2), .val (.int (p1 &&& (255 : Int32))), .val (.int (1 : Int32))] [])) rfl (hb hby at_31)
  obtain ⟨cq4, kq4, q4a, q4b, q4c⟩ := isOf hZ e3 (G.2.1.ext O0.2)
  obtain ⟨_, _, ⟨T4, L4, k4, n4⟩, -, X4, ⟨Lc4, hQ4, l4, y4, z4⟩, st4⟩ := X3.virtualBack hx (y := (⟨"com/example/credlib/credlib/policy/NameRule", "isStart", "(I)Z"⟩ : MethodName)) (z := (⟨"com/example/credlib/credlib/policy/NameRule", "isStart", "(I)Z"⟩ : MethodName)) hown (mvT hZ (hw _ (List.mem_of_getElem? (i := 11) rfl))) (mvT hZ (hw _ (List.mem_of_getElem? (i := 12) rfl))) (notFace_of_selects (args := #[]) (mvT hZ (hw _ (List.mem_of_getElem? (i := 14) rfl)))) (mvT hZ (hw _ (List.mem_of_getElem? (i := 14) rfl))) (mvT hZ (hw _ (List.mem_of_getElem? (i := 13) rfl))) (by decide) (backOf (W := 0) (own_isStart_6 l Z a0 hw [] wENTITY wROLE_NAME G h0 n0 O0 (p1 &&& (255 : Int32)) aa0 aa1 aa2 aa3 aa4 aa5 aa6 aa7 aa8 aa9 aa10) hZ (hw _ (List.mem_of_getElem? (i := 15) rfl)) (hw _ (List.mem_of_getElem? (i := 2) rfl)) (by decide) (by decide)) q4a q4c (g := (mkF m 35 #[.val (.int p1), .val (.int p2), .val (.int (p1 &&& (255 : Int32))), .val (.int (1 : Int32))] [(.int (p1 &&& (255 : Int32))), (.ref wENTITY)])) rfl (by rw [hml]; rfl) (Steps.refl _) (argsL := [(.int (p1 &&& (255 : Int32)))]) (rest := []) (lenOf own_pd_0 rfl) rfl (by show 2 * 0 + _ ≤ _; exact Nat.le_of_eq rfl) (hb hby at_35) (fun _ _ => ⟨rfl, e3, (by decide : 0 + 0 ≤ _), (by decide : 0 + 0 ≤ _)⟩)
  dsimp only [Pt.U, Pt.locs, Pt.cells, Pt.slots] at X4 l4 y4 z4 st4 hQ4
  subst l4 y4 z4
  obtain ⟨rfl, N4q, e4⟩ := hQ4
  have N4 := Fr.app N2 N4q
  obtain ⟨T5, X5, e5, st5⟩ := getS2 X4 hx hZ hown (host := "") (Or.inl (hw _ (List.mem_of_getElem? (i := 18) rfl))) Via.refl e4 (G.2.2.1.ext O0.2) (g := (mkF m 47 #[.val (.int p1), .val (.int p2), .val (.int (p1 &&& (255 : Int32))), .val (.int (1 : Int32))] [])) rfl (hb hby at_47)
  obtain ⟨cq6, kq6, q6a, q6b, q6c⟩ := isOf hZ e5 (G.2.2.2.1.ext O0.2)
  obtain ⟨_, _, ⟨T6, L6, k6, n6⟩, -, X6, ⟨Lc6, hQ6, l6, y6, z6⟩, st6⟩ := X5.virtualBack hx (y := (⟨"com/example/credlib/credlib/policy/NameRule", "isStart", "(I)Z"⟩ : MethodName)) (z := (⟨"com/example/credlib/credlib/policy/NameRule", "isStart", "(I)Z"⟩ : MethodName)) hown (mvT hZ (hw _ (List.mem_of_getElem? (i := 11) rfl))) (mvT hZ (hw _ (List.mem_of_getElem? (i := 12) rfl))) (notFace_of_selects (args := #[]) (mvT hZ (hw _ (List.mem_of_getElem? (i := 14) rfl)))) (mvT hZ (hw _ (List.mem_of_getElem? (i := 14) rfl))) (mvT hZ (hw _ (List.mem_of_getElem? (i := 13) rfl))) (by decide) (backOf (W := 0) (own_isStart_7 l Z a0 hw [] wENTITY wROLE_NAME G h0 n0 O0 (p1 &&& (255 : Int32)) aa0 aa1 aa2 aa3 aa4 aa5 aa6 aa7 aa8 aa9 aa10) hZ (hw _ (List.mem_of_getElem? (i := 15) rfl)) (hw _ (List.mem_of_getElem? (i := 2) rfl)) (by decide) (by decide)) q6a q6c (g := (mkF m 51 #[.val (.int p1), .val (.int p2), .val (.int (p1 &&& (255 : Int32))), .val (.int (1 : Int32))] [(.int (p1 &&& (255 : Int32))), (.ref wROLE_NAME)])) rfl (by rw [hml]; rfl) (Steps.refl _) (argsL := [(.int (p1 &&& (255 : Int32)))]) (rest := []) (lenOf own_pd_0 rfl) rfl (by show 2 * 0 + _ ≤ _; exact Nat.le_of_eq rfl) (hb hby at_51) (fun _ _ => ⟨rfl, e5, (by decide : 0 + 0 ≤ _), (by decide : 0 + 0 ≤ _)⟩)
  dsimp only [Pt.U, Pt.locs, Pt.cells, Pt.slots] at X6 l6 y6 z6 st6 hQ6
  subst l6 y6 z6
  obtain ⟨rfl, N6q, e6⟩ := hQ6
  have N6 := Fr.app N4 N6q
  obtain ⟨fs, hr, hrun, hended, hW, hsame⟩ := X6.leave (v := some (.int (1 : Int32))) (fun h => by rw [Bd.returns] at h; cases h)
  refine ⟨_, _, pre0 _ ?_, hrun, hended, _, _, rfl, ?_, ⟨_, rfl⟩, hW, hsame.mono (by decide) (by decide)⟩
  · show Steps p.tables e below (s₁.setTop (mkF m 0 #[.val (.int p1), .val (.int p2), .unset, .unset] [])) _
    refine XS.iloadN X0.here hx rfl (hb hby at_0) rfl ?_
    show Steps p.tables e below (s₁.setTop (mkF m 1 #[.val (.int p1), .val (.int p2), .unset, .unset] [(.int p2)])) _
    refine XS.iconst X0.here hx rfl (hb hby at_1) ?_
    show Steps p.tables e below (s₁.setTop (mkF m 2 #[.val (.int p1), .val (.int p2), .unset, .unset] [(.int (1 : Int32)), (.int p2)])) _
    refine XS.iand X0.here hx rfl (hb hby at_2) rfl ?_
    show Steps p.tables e below (s₁.setTop (mkF m 3 #[.val (.int p1), .val (.int p2), .unset, .unset] [(.int (p2 &&& (1 : Int32)))])) _
    refine XS.ifYes X0.here hx rfl (pc0 := 3) (pc' := 10) rfl (hb hby at_3) rfl ((if0 _ _).trans (teq (he : (p2 &&& (1 : Int32)) = (0 : Int32))).1) (by decide) (by decide) ?_
    show Steps p.tables e below (s₁.setTop (mkF m 10 #[.val (.int p1), .val (.int p2), .unset, .unset] [])) _
    refine XS.iloadN X0.here hx rfl (hb hby at_10) rfl ?_
    show Steps p.tables e below (s₁.setTop (mkF m 11 #[.val (.int p1), .val (.int p2), .unset, .unset] [(.int p1)])) _
    refine XS.sipush X0.here hx rfl (hb hby at_11) ?_
    show Steps p.tables e below (s₁.setTop (mkF m 14 #[.val (.int p1), .val (.int p2), .unset, .unset] [(.int (255 : Int32)), (.int p1)])) _
    refine XS.iand X0.here hx rfl (hb hby at_14) rfl ?_
    show Steps p.tables e below (s₁.setTop (mkF m 15 #[.val (.int p1), .val (.int p2), .unset, .unset] [(.int (p1 &&& (255 : Int32)))])) _
    refine XS.istoreN X0.here hx rfl (hb hby at_15) rfl (l' := #[.val (.int p1), .val (.int p2), .val (.int (p1 &&& (255 : Int32))), .unset]) rfl ?_
    show Steps p.tables e below (s₁.setTop (mkF m 16 #[.val (.int p1), .val (.int p2), .val (.int (p1 &&& (255 : Int32))), .unset] [])) _
    refine XS.iloadN X0.here hx rfl (hb hby at_16) rfl ?_
    show Steps p.tables e below (s₁.setTop (mkF m 17 #[.val (.int p1), .val (.int p2), .val (.int (p1 &&& (255 : Int32))), .unset] [(.int (p1 &&& (255 : Int32)))])) _
    refine st1 _ ?_
    show Steps p.tables e below (T1.setTop (mkF m 20 #[.val (.int p1), .val (.int p2), .val (.int (p1 &&& (255 : Int32))), .unset] [(.int (1 : Int32))])) _
    refine XS.istoreN X1.here hx rfl (hb hby at_20) rfl (l' := #[.val (.int p1), .val (.int p2), .val (.int (p1 &&& (255 : Int32))), .val (.int (1 : Int32))]) rfl ?_
    show Steps p.tables e below (T1.setTop (mkF m 21 #[.val (.int p1), .val (.int p2), .val (.int (p1 &&& (255 : Int32))), .val (.int (1 : Int32))] [])) _
    refine XS.iloadN X1.here hx rfl (hb hby at_21) rfl ?_
    show Steps p.tables e below (T1.setTop (mkF m 22 #[.val (.int p1), .val (.int p2), .val (.int (p1 &&& (255 : Int32))), .val (.int (1 : Int32))] [(.int (1 : Int32))])) _
    refine XS.iloadN X1.here hx rfl (hb hby at_22) rfl ?_
    show Steps p.tables e below (T1.setTop (mkF m 23 #[.val (.int p1), .val (.int p2), .val (.int (p1 &&& (255 : Int32))), .val (.int (1 : Int32))] [(.int (p1 &&& (255 : Int32))), (.int (1 : Int32))])) _
    refine st2 _ ?_
    show Steps p.tables e below (T2.setTop (mkF m 26 #[.val (.int p1), .val (.int p2), .val (.int (p1 &&& (255 : Int32))), .val (.int (1 : Int32))] [(.int (1 : Int32)), (.int (1 : Int32))])) _
    refine XS.icmpYes X2.here hx rfl (pc0 := 26) (pc' := 31) rfl (hb hby at_26) rfl (by decide) (by decide) (by decide) ?_
    show Steps p.tables e below (T2.setTop (mkF m 31 #[.val (.int p1), .val (.int p2), .val (.int (p1 &&& (255 : Int32))), .val (.int (1 : Int32))] [])) _
    refine st3 _ ?_
    show Steps p.tables e below (T3.setTop (mkF m 34 #[.val (.int p1), .val (.int p2), .val (.int (p1 &&& (255 : Int32))), .val (.int (1 : Int32))] [(.ref wENTITY)])) _
    refine XS.iloadN X3.here hx rfl (hb hby at_34) rfl ?_
    show Steps p.tables e below (T3.setTop (mkF m 35 #[.val (.int p1), .val (.int p2), .val (.int (p1 &&& (255 : Int32))), .val (.int (1 : Int32))] [(.int (p1 &&& (255 : Int32))), (.ref wENTITY)])) _
    refine st4.trans ?_
    show Steps p.tables e below (T4.setTop (mkF m 38 #[.val (.int p1), .val (.int p2), .val (.int (p1 &&& (255 : Int32))), .val (.int (1 : Int32))] [(.int (0 : Int32))])) _
    refine XS.ifYes X4.here hx rfl (pc0 := 38) (pc' := 47) rfl (hb hby at_38) rfl (by decide) (by decide) (by decide) ?_
    show Steps p.tables e below (T4.setTop (mkF m 47 #[.val (.int p1), .val (.int p2), .val (.int (p1 &&& (255 : Int32))), .val (.int (1 : Int32))] [])) _
    refine st5 _ ?_
    show Steps p.tables e below (T5.setTop (mkF m 50 #[.val (.int p1), .val (.int p2), .val (.int (p1 &&& (255 : Int32))), .val (.int (1 : Int32))] [(.ref wROLE_NAME)])) _
    refine XS.iloadN X5.here hx rfl (hb hby at_50) rfl ?_
    show Steps p.tables e below (T5.setTop (mkF m 51 #[.val (.int p1), .val (.int p2), .val (.int (p1 &&& (255 : Int32))), .val (.int (1 : Int32))] [(.int (p1 &&& (255 : Int32))), (.ref wROLE_NAME)])) _
    refine st6.trans ?_
    show Steps p.tables e below (T6.setTop (mkF m 54 #[.val (.int p1), .val (.int p2), .val (.int (p1 &&& (255 : Int32))), .val (.int (1 : Int32))] [(.int (0 : Int32))])) _
    refine XS.ifYes X6.here hx rfl (pc0 := 54) (pc' := 63) rfl (hb hby at_54) rfl (by decide) (by decide) (by decide) ?_
    show Steps p.tables e below (T6.setTop (mkF m 63 #[.val (.int p1), .val (.int p2), .val (.int (p1 &&& (255 : Int32))), .val (.int (1 : Int32))] [])) _
    refine XS.iconst X6.here hx rfl (hb hby at_63) ?_
    show Steps p.tables e below (T6.setTop (mkF m 64 #[.val (.int p1), .val (.int p2), .val (.int (p1 &&& (255 : Int32))), .val (.int (1 : Int32))] [(.int (1 : Int32))])) _
    exact retN X6 hx (t := .boolean) Bd.returns (by simp) (hb hby at_64) hr
  · exact ⟨rfl, N6⟩
set_option maxRecDepth 65536 in
set_option maxHeartbeats 40000000 in
theorem own_isPart_8 (l : Launch) (Z : State) (a0 : Array Value) (hw : ∀ d ∈ tables_1, d.before a0 Z = true) (ws : List Jvm.Cond) (wENTITY : Addr) (wROLE_NAME : Addr) (G : OwnG Z wENTITY wROLE_NAME) (h0 : Heap) (n0 : Nat) (O0 : Old Z n0 h0) (v1 : Int32) (hp1 : v1 < (65 : Int32)) (hp2 : ¬ ((90 : Int32) < v1)) (hp3 : v1 < (97 : Int32)) (hp4 : ¬ ((122 : Int32) < v1)) (hp5 : ¬ (v1 < (48 : Int32))) (hp6 : (57 : Int32) < v1) (hp7 : ¬ (v1 = (95 : Int32))) (hp8 : (v1 ||| (32 : Int32)) < (97 : Int32)) (hp9 : ¬ ((122 : Int32) < (v1 ||| (32 : Int32)))) (hp10 : ¬ ((lcmpW ((v1.toInt64) - (48 : Int64)) (0 : Int64)) < (0 : Int32))) (hp11 : ¬ ((lcmpW ((v1.toInt64) - (48 : Int64)) (10 : Int64)) < (0 : Int32))) :
    MetFree l (⟨"com/example/credlib/credlib/policy/NameRule", "isPart", "(I)Z"⟩ : MethodName) (head1 (Jvm.Cond.code (⟨"com/example/credlib/credlib/policy/NameRule", "isPart", "(I)Z"⟩ : MethodName) prog_30_method_7_code 1 (some .boolean) :: ws) ({ frames := 0, cells := 0, slots := 0, locals := 0 } : Room)) (fun a U => a = #[(.int v1)] ∧ Z.Warmed39 U.vm ∧ U.heap = h0) (fun _ _ _ _ _ => True) (fun _ U o U' => ∃ v L, o = .returned v ∧ OwnQ (some (.int (0 : Int32))) h0 n0 v U'.heap L ∧ FrameEnd U o U' L ({ frames := 0, cells := 0, slots := 0, locals := 0 } : Room).cells ({ frames := 0, cells := 0, slots := 0, locals := 0 } : Room).slots) := by
  refine MetFree.of_bodySF (plainFor_of_name own_pn_1) hisR ?_
  intro p e s m args below meth c s₁ Bd hml0 hP hK
  obtain ⟨rfl, hZ, hh⟩ := hP
  have hx := Bd.exec
  have hby := Bd.bytes
  have hml : c.maxLocals = 1 := hml0
  have hown : s.vm.findClass "com/example/credlib/credlib/policy/NameRule" = some m.cls := findClass_of_methodNamed Bd.named
  have hnm := (name_of_methodNamed Bd.named Bd.method).1
  have X0 : Stand p l e ({ frames := 0, cells := 0, slots := 0, locals := 0 } : Room) s m #[(.int v1)] below meth c s₁ [] 0 0 := Stand.of_body Bd
  have e0 : s₁.heap = h0 := by rw [← hh, Bd.state]; rfl
  have N0 := Fr.nil n0
  have pre0 : ∀ t, Steps p.tables e below (s₁.setTop (mkF m 0 #[.val (.int v1)] [])) t → Steps p.tables e below (s₁.setTop (entryFrame m #[(.int v1)] 1)) t := fun t k => castTop (own_ef_1_I m v1) k
  obtain ⟨fs, hr, hrun, hended, hW, hsame⟩ := X0.leave (v := some (.int (0 : Int32))) (fun h => by rw [Bd.returns] at h; cases h)
  refine ⟨_, _, pre0 _ ?_, hrun, hended, _, _, rfl, ?_, ⟨_, rfl⟩, hW, hsame.mono (by decide) (by decide)⟩
  · show Steps p.tables e below (s₁.setTop (mkF m 0 #[.val (.int v1)] [])) _
    refine XS.iloadN X0.here hx rfl (hb hby own_d1_0) rfl ?_
    show Steps p.tables e below (s₁.setTop (mkF m 1 #[.val (.int v1)] [(.int v1)])) _
    refine XS.bipush X0.here hx rfl (hb hby own_d1_1) ?_
    show Steps p.tables e below (s₁.setTop (mkF m 3 #[.val (.int v1)] [(.int (65 : Int32)), (.int v1)])) _
    refine XS.icmpYes X0.here hx rfl (pc0 := 3) (pc' := 12) rfl (hb hby own_d1_3) rfl (tlt (hp1 : v1 < (65 : Int32))).1 (by decide) (by decide) ?_
    show Steps p.tables e below (s₁.setTop (mkF m 12 #[.val (.int v1)] [])) _
    refine XS.iloadN X0.here hx rfl (hb hby own_d1_12) rfl ?_
    show Steps p.tables e below (s₁.setTop (mkF m 13 #[.val (.int v1)] [(.int v1)])) _
    refine XS.bipush X0.here hx rfl (hb hby own_d1_13) ?_
    show Steps p.tables e below (s₁.setTop (mkF m 15 #[.val (.int v1)] [(.int (97 : Int32)), (.int v1)])) _
    refine XS.icmpYes X0.here hx rfl (pc0 := 15) (pc' := 24) rfl (hb hby own_d1_15) rfl (tlt (hp3 : v1 < (97 : Int32))).1 (by decide) (by decide) ?_
    show Steps p.tables e below (s₁.setTop (mkF m 24 #[.val (.int v1)] [])) _
    refine XS.iloadN X0.here hx rfl (hb hby own_d1_24) rfl ?_
    show Steps p.tables e below (s₁.setTop (mkF m 25 #[.val (.int v1)] [(.int v1)])) _
    refine XS.bipush X0.here hx rfl (hb hby own_d1_25) ?_
    show Steps p.tables e below (s₁.setTop (mkF m 27 #[.val (.int v1)] [(.int (48 : Int32)), (.int v1)])) _
    refine XS.icmpNo X0.here hx rfl (hb hby own_d1_27) rfl (flt (hp5 : ¬ (v1 < (48 : Int32)))).1 ?_
    show Steps p.tables e below (s₁.setTop (mkF m 30 #[.val (.int v1)] [])) _
    refine XS.iloadN X0.here hx rfl (hb hby own_d1_30) rfl ?_
    show Steps p.tables e below (s₁.setTop (mkF m 31 #[.val (.int v1)] [(.int v1)])) _
    refine XS.bipush X0.here hx rfl (hb hby own_d1_31) ?_
    show Steps p.tables e below (s₁.setTop (mkF m 33 #[.val (.int v1)] [(.int (57 : Int32)), (.int v1)])) _
    refine XS.icmpNo X0.here hx rfl (hb hby own_d1_33) rfl (tlt (hp6 : (57 : Int32) < v1)).2.2.2 ?_
    show Steps p.tables e below (s₁.setTop (mkF m 36 #[.val (.int v1)] [])) _
    refine XS.iloadN X0.here hx rfl (hb hby own_d1_36) rfl ?_
    show Steps p.tables e below (s₁.setTop (mkF m 37 #[.val (.int v1)] [(.int v1)])) _
    refine XS.bipush X0.here hx rfl (hb hby own_d1_37) ?_
    show Steps p.tables e below (s₁.setTop (mkF m 39 #[.val (.int v1)] [(.int (95 : Int32)), (.int v1)])) _
    refine XS.icmpYes X0.here hx rfl (pc0 := 39) (pc' := 46) rfl (hb hby own_d1_39) rfl (feq (hp7 : ¬ (v1 = (95 : Int32)))).2 (by decide) (by decide) ?_
    show Steps p.tables e below (s₁.setTop (mkF m 46 #[.val (.int v1)] [])) _
    refine XS.iconst X0.here hx rfl (hb hby own_d1_46) ?_
    show Steps p.tables e below (s₁.setTop (mkF m 47 #[.val (.int v1)] [(.int (0 : Int32))])) _
    exact retN X0 hx (t := .boolean) Bd.returns (by simp) (hb hby own_d1_47) hr
  · show OwnQ _ h0 n0 _ s₁.heap _
    exact ⟨rfl, N0, e0⟩
set_option maxRecDepth 65536 in
set_option maxHeartbeats 40000000 in
theorem own_expected_9 (l : Launch) (Z : State) (a0 : Array Value) (hw : ∀ d ∈ tables_1, d.before a0 Z = true) (ws : List Jvm.Cond) (wENTITY : Addr) (wROLE_NAME : Addr) (G : OwnG Z wENTITY wROLE_NAME) (h0 : Heap) (n0 : Nat) (O0 : Old Z n0 h0) (v1 : Int32) (hp1 : v1 < (65 : Int32)) (hp2 : ¬ ((90 : Int32) < v1)) (hp3 : v1 < (97 : Int32)) (hp4 : ¬ ((122 : Int32) < v1)) (hp5 : ¬ (v1 < (48 : Int32))) (hp6 : (57 : Int32) < v1) (hp7 : ¬ (v1 = (95 : Int32))) (hp8 : (v1 ||| (32 : Int32)) < (97 : Int32)) (hp9 : ¬ ((122 : Int32) < (v1 ||| (32 : Int32)))) (hp10 : ¬ ((lcmpW ((v1.toInt64) - (48 : Int64)) (0 : Int64)) < (0 : Int32))) (hp11 : ¬ ((lcmpW ((v1.toInt64) - (48 : Int64)) (10 : Int64)) < (0 : Int32))) :
    MetFree l (⟨"com/example/credlib/credlib/policy/NameRuleIsPartPinLaw", "expected", "(I)Z"⟩ : MethodName) (head1 (Jvm.Cond.code (⟨"com/example/credlib/credlib/policy/NameRuleIsPartPinLaw", "expected", "(I)Z"⟩ : MethodName) method_2_code 7 (some .boolean) :: ws) ({ frames := 0, cells := 0, slots := 0, locals := 0 } : Room)) (fun a U => a = #[(.int v1)] ∧ Z.Warmed39 U.vm ∧ U.heap = h0) (fun _ _ _ _ _ => True) (fun _ U o U' => ∃ v L, o = .returned v ∧ OwnQ (some (.int (0 : Int32))) h0 n0 v U'.heap L ∧ FrameEnd U o U' L ({ frames := 0, cells := 0, slots := 0, locals := 0 } : Room).cells ({ frames := 0, cells := 0, slots := 0, locals := 0 } : Room).slots) := by
  refine MetFree.of_bodySF (plainFor_of_name own_pn_0) hisR ?_
  intro p e s m args below meth c s₁ Bd hml0 hP hK
  obtain ⟨rfl, hZ, hh⟩ := hP
  have hx := Bd.exec
  have hby := Bd.bytes
  have hml : c.maxLocals = 7 := hml0
  have hown : s.vm.findClass "com/example/credlib/credlib/policy/NameRuleIsPartPinLaw" = some m.cls := findClass_of_methodNamed Bd.named
  have hnm := (name_of_methodNamed Bd.named Bd.method).1
  have X0 : Stand p l e ({ frames := 0, cells := 0, slots := 0, locals := 0 } : Room) s m #[(.int v1)] below meth c s₁ [] 0 0 := Stand.of_body Bd
  have e0 : s₁.heap = h0 := by rw [← hh, Bd.state]; rfl
  have N0 := Fr.nil n0
  have pre0 : ∀ t, Steps p.tables e below (s₁.setTop (mkF m 0 #[.val (.int v1), .unset, .unset, .unset, .unset, .unset, .unset] [])) t → Steps p.tables e below (s₁.setTop (entryFrame m #[(.int v1)] 7)) t := fun t k => castTop (own_ef_2_I m v1) k
  obtain ⟨fs, hr, hrun, hended, hW, hsame⟩ := X0.leave (v := some (.int (0 : Int32))) (fun h => by rw [Bd.returns] at h; cases h)
  refine ⟨_, _, pre0 _ ?_, hrun, hended, _, _, rfl, ?_, ⟨_, rfl⟩, hW, hsame.mono (by decide) (by decide)⟩
  · show Steps p.tables e below (s₁.setTop (mkF m 0 #[.val (.int v1), .unset, .unset, .unset, .unset, .unset, .unset] [])) _
    refine XS.iloadN X0.here hx rfl (hb hby own_d2_0) rfl ?_
    show Steps p.tables e below (s₁.setTop (mkF m 1 #[.val (.int v1), .unset, .unset, .unset, .unset, .unset, .unset] [(.int v1)])) _
    refine XS.bipush X0.here hx rfl (hb hby own_d2_1) ?_
    show Steps p.tables e below (s₁.setTop (mkF m 3 #[.val (.int v1), .unset, .unset, .unset, .unset, .unset, .unset] [(.int (32 : Int32)), (.int v1)])) _
    refine XS.ior X0.here hx rfl (hb hby own_d2_3) rfl ?_
    show Steps p.tables e below (s₁.setTop (mkF m 4 #[.val (.int v1), .unset, .unset, .unset, .unset, .unset, .unset] [(.int (v1 ||| (32 : Int32)))])) _
    refine XS.istoreN X0.here hx rfl (hb hby own_d2_4) rfl (l' := #[.val (.int v1), .val (.int (v1 ||| (32 : Int32))), .unset, .unset, .unset, .unset, .unset]) rfl ?_
    show Steps p.tables e below (s₁.setTop (mkF m 5 #[.val (.int v1), .val (.int (v1 ||| (32 : Int32))), .unset, .unset, .unset, .unset, .unset] [])) _
    refine XS.iloadN X0.here hx rfl (hb hby own_d2_5) rfl ?_
    show Steps p.tables e below (s₁.setTop (mkF m 6 #[.val (.int v1), .val (.int (v1 ||| (32 : Int32))), .unset, .unset, .unset, .unset, .unset] [(.int (v1 ||| (32 : Int32)))])) _
    refine XS.bipush X0.here hx rfl (hb hby own_d2_6) ?_
    show Steps p.tables e below (s₁.setTop (mkF m 8 #[.val (.int v1), .val (.int (v1 ||| (32 : Int32))), .unset, .unset, .unset, .unset, .unset] [(.int (97 : Int32)), (.int (v1 ||| (32 : Int32)))])) _
    refine XS.icmpYes X0.here hx rfl (pc0 := 8) (pc' := 21) rfl (hb hby own_d2_8) rfl (tlt (hp8 : (v1 ||| (32 : Int32)) < (97 : Int32))).1 (by decide) (by decide) ?_
    show Steps p.tables e below (s₁.setTop (mkF m 21 #[.val (.int v1), .val (.int (v1 ||| (32 : Int32))), .unset, .unset, .unset, .unset, .unset] [])) _
    refine XS.iconst X0.here hx rfl (hb hby own_d2_21) ?_
    show Steps p.tables e below (s₁.setTop (mkF m 22 #[.val (.int v1), .val (.int (v1 ||| (32 : Int32))), .unset, .unset, .unset, .unset, .unset] [(.int (0 : Int32))])) _
    refine XS.istoreN X0.here hx rfl (hb hby own_d2_22) rfl (l' := #[.val (.int v1), .val (.int (v1 ||| (32 : Int32))), .val (.int (0 : Int32)), .unset, .unset, .unset, .unset]) rfl ?_
    show Steps p.tables e below (s₁.setTop (mkF m 23 #[.val (.int v1), .val (.int (v1 ||| (32 : Int32))), .val (.int (0 : Int32)), .unset, .unset, .unset, .unset] [])) _
    refine XS.iloadN X0.here hx rfl (hb hby own_d2_23) rfl ?_
    show Steps p.tables e below (s₁.setTop (mkF m 24 #[.val (.int v1), .val (.int (v1 ||| (32 : Int32))), .val (.int (0 : Int32)), .unset, .unset, .unset, .unset] [(.int v1)])) _
    refine XS.i2l X0.here hx rfl (hb hby own_d2_24) rfl ?_
    show Steps p.tables e below (s₁.setTop (mkF m 25 #[.val (.int v1), .val (.int (v1 ||| (32 : Int32))), .val (.int (0 : Int32)), .unset, .unset, .unset, .unset] [(.long (v1.toInt64))])) _
    refine Jvm.Stand.ldc2J X0 hx hown (mvT hZ (hw _ (List.mem_of_getElem? (i := 8) rfl))) rfl (hb hby own_d2_25) ?_
    show Steps p.tables e below (s₁.setTop (mkF m 28 #[.val (.int v1), .val (.int (v1 ||| (32 : Int32))), .val (.int (0 : Int32)), .unset, .unset, .unset, .unset] [(.long (48 : Int64)), (.long (v1.toInt64))])) _
    refine XS.lsub X0.here hx rfl (hb hby own_d2_28) rfl ?_
    show Steps p.tables e below (s₁.setTop (mkF m 29 #[.val (.int v1), .val (.int (v1 ||| (32 : Int32))), .val (.int (0 : Int32)), .unset, .unset, .unset, .unset] [(.long ((v1.toInt64) - (48 : Int64)))])) _
    refine XS.lstoreN X0.here hx rfl (hb hby own_d2_29) rfl (l' := #[.val (.int v1), .val (.int (v1 ||| (32 : Int32))), .val (.int (0 : Int32)), .val (.long ((v1.toInt64) - (48 : Int64))), .second, .unset, .unset]) rfl ?_
    show Steps p.tables e below (s₁.setTop (mkF m 30 #[.val (.int v1), .val (.int (v1 ||| (32 : Int32))), .val (.int (0 : Int32)), .val (.long ((v1.toInt64) - (48 : Int64))), .second, .unset, .unset] [])) _
    refine XS.lloadN X0.here hx rfl (hb hby own_d2_30) rfl ?_
    show Steps p.tables e below (s₁.setTop (mkF m 31 #[.val (.int v1), .val (.int (v1 ||| (32 : Int32))), .val (.int (0 : Int32)), .val (.long ((v1.toInt64) - (48 : Int64))), .second, .unset, .unset] [(.long ((v1.toInt64) - (48 : Int64)))])) _
    refine XS.lconst X0.here hx rfl (hb hby own_d2_31) ?_
    show Steps p.tables e below (s₁.setTop (mkF m 32 #[.val (.int v1), .val (.int (v1 ||| (32 : Int32))), .val (.int (0 : Int32)), .val (.long ((v1.toInt64) - (48 : Int64))), .second, .unset, .unset] [(.long (0 : Int64)), (.long ((v1.toInt64) - (48 : Int64)))])) _
    refine XS.lcmp X0.here hx rfl (hb hby own_d2_32) rfl ?_
    show Steps p.tables e below (s₁.setTop (mkF m 33 #[.val (.int v1), .val (.int (v1 ||| (32 : Int32))), .val (.int (0 : Int32)), .val (.long ((v1.toInt64) - (48 : Int64))), .second, .unset, .unset] [(.int (lcmpW ((v1.toInt64) - (48 : Int64)) (0 : Int64)))])) _
    refine XS.ifNo X0.here hx rfl (hb hby own_d2_33) rfl ((if0 _ _).trans (flt (hp10 : ¬ ((lcmpW ((v1.toInt64) - (48 : Int64)) (0 : Int64)) < (0 : Int32)))).1) ?_
    show Steps p.tables e below (s₁.setTop (mkF m 36 #[.val (.int v1), .val (.int (v1 ||| (32 : Int32))), .val (.int (0 : Int32)), .val (.long ((v1.toInt64) - (48 : Int64))), .second, .unset, .unset] [])) _
    refine XS.lloadN X0.here hx rfl (hb hby own_d2_36) rfl ?_
    show Steps p.tables e below (s₁.setTop (mkF m 37 #[.val (.int v1), .val (.int (v1 ||| (32 : Int32))), .val (.int (0 : Int32)), .val (.long ((v1.toInt64) - (48 : Int64))), .second, .unset, .unset] [(.long ((v1.toInt64) - (48 : Int64)))])) _
    refine Jvm.Stand.ldc2J X0 hx hown (mvT hZ (hw _ (List.mem_of_getElem? (i := 20) rfl))) rfl (hb hby own_d2_37) ?_
    show Steps p.tables e below (s₁.setTop (mkF m 40 #[.val (.int v1), .val (.int (v1 ||| (32 : Int32))), .val (.int (0 : Int32)), .val (.long ((v1.toInt64) - (48 : Int64))), .second, .unset, .unset] [(.long (10 : Int64)), (.long ((v1.toInt64) - (48 : Int64)))])) _
    refine XS.lcmp X0.here hx rfl (hb hby own_d2_40) rfl ?_
    show Steps p.tables e below (s₁.setTop (mkF m 41 #[.val (.int v1), .val (.int (v1 ||| (32 : Int32))), .val (.int (0 : Int32)), .val (.long ((v1.toInt64) - (48 : Int64))), .second, .unset, .unset] [(.int (lcmpW ((v1.toInt64) - (48 : Int64)) (10 : Int64)))])) _
    refine XS.ifYes X0.here hx rfl (pc0 := 41) (pc' := 48) rfl (hb hby own_d2_41) rfl ((if0 _ _).trans (flt (hp11 : ¬ ((lcmpW ((v1.toInt64) - (48 : Int64)) (10 : Int64)) < (0 : Int32)))).2.1) (by decide) (by decide) ?_
    show Steps p.tables e below (s₁.setTop (mkF m 48 #[.val (.int v1), .val (.int (v1 ||| (32 : Int32))), .val (.int (0 : Int32)), .val (.long ((v1.toInt64) - (48 : Int64))), .second, .unset, .unset] [])) _
    refine XS.iconst X0.here hx rfl (hb hby own_d2_48) ?_
    show Steps p.tables e below (s₁.setTop (mkF m 49 #[.val (.int v1), .val (.int (v1 ||| (32 : Int32))), .val (.int (0 : Int32)), .val (.long ((v1.toInt64) - (48 : Int64))), .second, .unset, .unset] [(.int (0 : Int32))])) _
    refine XS.istore X0.here hx rfl (hb hby own_d2_49) rfl (l' := #[.val (.int v1), .val (.int (v1 ||| (32 : Int32))), .val (.int (0 : Int32)), .val (.long ((v1.toInt64) - (48 : Int64))), .second, .val (.int (0 : Int32)), .unset]) rfl ?_
    show Steps p.tables e below (s₁.setTop (mkF m 51 #[.val (.int v1), .val (.int (v1 ||| (32 : Int32))), .val (.int (0 : Int32)), .val (.long ((v1.toInt64) - (48 : Int64))), .second, .val (.int (0 : Int32)), .unset] [])) _
    refine XS.iloadN X0.here hx rfl (hb hby own_d2_51) rfl ?_
    show Steps p.tables e below (s₁.setTop (mkF m 52 #[.val (.int v1), .val (.int (v1 ||| (32 : Int32))), .val (.int (0 : Int32)), .val (.long ((v1.toInt64) - (48 : Int64))), .second, .val (.int (0 : Int32)), .unset] [(.int v1)])) _
    refine XS.bipush X0.here hx rfl (hb hby own_d2_52) ?_
    show Steps p.tables e below (s₁.setTop (mkF m 54 #[.val (.int v1), .val (.int (v1 ||| (32 : Int32))), .val (.int (0 : Int32)), .val (.long ((v1.toInt64) - (48 : Int64))), .second, .val (.int (0 : Int32)), .unset] [(.int (95 : Int32)), (.int v1)])) _
    refine XS.icmpYes X0.here hx rfl (pc0 := 54) (pc' := 61) rfl (hb hby own_d2_54) rfl (feq (hp7 : ¬ (v1 = (95 : Int32)))).2 (by decide) (by decide) ?_
    show Steps p.tables e below (s₁.setTop (mkF m 61 #[.val (.int v1), .val (.int (v1 ||| (32 : Int32))), .val (.int (0 : Int32)), .val (.long ((v1.toInt64) - (48 : Int64))), .second, .val (.int (0 : Int32)), .unset] [])) _
    refine XS.iconst X0.here hx rfl (hb hby own_d2_61) ?_
    show Steps p.tables e below (s₁.setTop (mkF m 62 #[.val (.int v1), .val (.int (v1 ||| (32 : Int32))), .val (.int (0 : Int32)), .val (.long ((v1.toInt64) - (48 : Int64))), .second, .val (.int (0 : Int32)), .unset] [(.int (0 : Int32))])) _
    refine XS.istore X0.here hx rfl (hb hby own_d2_62) rfl (l' := #[.val (.int v1), .val (.int (v1 ||| (32 : Int32))), .val (.int (0 : Int32)), .val (.long ((v1.toInt64) - (48 : Int64))), .second, .val (.int (0 : Int32)), .val (.int (0 : Int32))]) rfl ?_
    show Steps p.tables e below (s₁.setTop (mkF m 64 #[.val (.int v1), .val (.int (v1 ||| (32 : Int32))), .val (.int (0 : Int32)), .val (.long ((v1.toInt64) - (48 : Int64))), .second, .val (.int (0 : Int32)), .val (.int (0 : Int32))] [])) _
    refine XS.iloadN X0.here hx rfl (hb hby own_d2_64) rfl ?_
    show Steps p.tables e below (s₁.setTop (mkF m 65 #[.val (.int v1), .val (.int (v1 ||| (32 : Int32))), .val (.int (0 : Int32)), .val (.long ((v1.toInt64) - (48 : Int64))), .second, .val (.int (0 : Int32)), .val (.int (0 : Int32))] [(.int (0 : Int32))])) _
    refine XS.ifNo X0.here hx rfl (hb hby own_d2_65) rfl (by decide) ?_
    show Steps p.tables e below (s₁.setTop (mkF m 68 #[.val (.int v1), .val (.int (v1 ||| (32 : Int32))), .val (.int (0 : Int32)), .val (.long ((v1.toInt64) - (48 : Int64))), .second, .val (.int (0 : Int32)), .val (.int (0 : Int32))] [])) _
    refine XS.iload X0.here hx rfl (hb hby own_d2_68) rfl ?_
    show Steps p.tables e below (s₁.setTop (mkF m 70 #[.val (.int v1), .val (.int (v1 ||| (32 : Int32))), .val (.int (0 : Int32)), .val (.long ((v1.toInt64) - (48 : Int64))), .second, .val (.int (0 : Int32)), .val (.int (0 : Int32))] [(.int (0 : Int32))])) _
    refine XS.ifNo X0.here hx rfl (hb hby own_d2_70) rfl (by decide) ?_
    show Steps p.tables e below (s₁.setTop (mkF m 73 #[.val (.int v1), .val (.int (v1 ||| (32 : Int32))), .val (.int (0 : Int32)), .val (.long ((v1.toInt64) - (48 : Int64))), .second, .val (.int (0 : Int32)), .val (.int (0 : Int32))] [])) _
    refine XS.iload X0.here hx rfl (hb hby own_d2_73) rfl ?_
    show Steps p.tables e below (s₁.setTop (mkF m 75 #[.val (.int v1), .val (.int (v1 ||| (32 : Int32))), .val (.int (0 : Int32)), .val (.long ((v1.toInt64) - (48 : Int64))), .second, .val (.int (0 : Int32)), .val (.int (0 : Int32))] [(.int (0 : Int32))])) _
    refine XS.ifYes X0.here hx rfl (pc0 := 75) (pc' := 82) rfl (hb hby own_d2_75) rfl (by decide) (by decide) (by decide) ?_
    show Steps p.tables e below (s₁.setTop (mkF m 82 #[.val (.int v1), .val (.int (v1 ||| (32 : Int32))), .val (.int (0 : Int32)), .val (.long ((v1.toInt64) - (48 : Int64))), .second, .val (.int (0 : Int32)), .val (.int (0 : Int32))] [])) _
    refine XS.iconst X0.here hx rfl (hb hby own_d2_82) ?_
    show Steps p.tables e below (s₁.setTop (mkF m 83 #[.val (.int v1), .val (.int (v1 ||| (32 : Int32))), .val (.int (0 : Int32)), .val (.long ((v1.toInt64) - (48 : Int64))), .second, .val (.int (0 : Int32)), .val (.int (0 : Int32))] [(.int (0 : Int32))])) _
    exact retN X0 hx (t := .boolean) Bd.returns (by simp) (hb hby own_d2_83) hr
  · show OwnQ _ h0 n0 _ s₁.heap _
    exact ⟨rfl, N0, e0⟩
set_option maxRecDepth 65536 in
set_option maxHeartbeats 40000000 in
theorem own_isStart_10 (l : Launch) (Z : State) (a0 : Array Value) (hw : ∀ d ∈ tables_1, d.before a0 Z = true) (ws : List Jvm.Cond) (wENTITY : Addr) (wROLE_NAME : Addr) (G : OwnG Z wENTITY wROLE_NAME) (h0 : Heap) (n0 : Nat) (O0 : Old Z n0 h0) (v1 : Int32) (hp1 : v1 < (65 : Int32)) (hp2 : ¬ ((90 : Int32) < v1)) (hp3 : v1 < (97 : Int32)) (hp4 : ¬ ((122 : Int32) < v1)) (hp5 : ¬ (v1 < (48 : Int32))) (hp6 : (57 : Int32) < v1) (hp7 : ¬ (v1 = (95 : Int32))) (hp8 : (v1 ||| (32 : Int32)) < (97 : Int32)) (hp9 : ¬ ((122 : Int32) < (v1 ||| (32 : Int32)))) (hp10 : ¬ ((lcmpW ((v1.toInt64) - (48 : Int64)) (0 : Int64)) < (0 : Int32))) (hp11 : ¬ ((lcmpW ((v1.toInt64) - (48 : Int64)) (10 : Int64)) < (0 : Int32))) :
    MetFree l (⟨"com/example/credlib/credlib/policy/NameRule", "isStart", "(I)Z"⟩ : MethodName) (head1 (Jvm.Cond.code (⟨"com/example/credlib/credlib/policy/NameRule", "isStart", "(I)Z"⟩ : MethodName) prog_30_method_6_code 2 (some .boolean) :: ws) ({ frames := 0, cells := 0, slots := 0, locals := 0 } : Room)) (fun a U => a = #[(.ref wENTITY), (.int v1)] ∧ Z.Warmed39 U.vm ∧ U.heap = h0) (fun _ _ _ _ _ => True) (fun _ U o U' => ∃ v L, o = .returned v ∧ OwnQ (some (.int (0 : Int32))) h0 n0 v U'.heap L ∧ FrameEnd U o U' L ({ frames := 0, cells := 0, slots := 0, locals := 0 } : Room).cells ({ frames := 0, cells := 0, slots := 0, locals := 0 } : Room).slots) := by
  refine MetFree.of_bodySF (plainFor_of_name own_pn_1) hisR ?_
  intro p e s m args below meth c s₁ Bd hml0 hP hK
  obtain ⟨rfl, hZ, hh⟩ := hP
  have hx := Bd.exec
  have hby := Bd.bytes
  have hml : c.maxLocals = 2 := hml0
  have hown : s.vm.findClass "com/example/credlib/credlib/policy/NameRule" = some m.cls := findClass_of_methodNamed Bd.named
  have hnm := (name_of_methodNamed Bd.named Bd.method).1
  have X0 : Stand p l e ({ frames := 0, cells := 0, slots := 0, locals := 0 } : Room) s m #[(.ref wENTITY), (.int v1)] below meth c s₁ [] 0 0 := Stand.of_body Bd
  have e0 : s₁.heap = h0 := by rw [← hh, Bd.state]; rfl
  have N0 := Fr.nil n0
  have pre0 : ∀ t, Steps p.tables e below (s₁.setTop (mkF m 0 #[.val (.ref wENTITY), .val (.int v1)] [])) t → Steps p.tables e below (s₁.setTop (entryFrame m #[(.ref wENTITY), (.int v1)] 2)) t := fun t k => castTop (own_ef_3_RI m wENTITY v1) k
  obtain ⟨T1, X1, e1, st1⟩ := getF X0 hx hZ hown (host := "") (Or.inl (hw _ (List.mem_of_getElem? (i := 16) rfl))) Via.refl e0 (G.2.2.2.2.1.ext O0.2) (g := (mkF m 2 #[.val (.ref wENTITY), .val (.int v1)] [(.ref wENTITY), (.int v1)])) rfl rfl (hb hby own_d3_2)
  obtain ⟨fs, hr, hrun, hended, hW, hsame⟩ := X1.leave (v := some (.int (0 : Int32))) (fun h => by rw [Bd.returns] at h; cases h)
  refine ⟨_, _, pre0 _ ?_, hrun, hended, _, _, rfl, ?_, ⟨_, rfl⟩, hW, hsame.mono (by decide) (by decide)⟩
  · show Steps p.tables e below (s₁.setTop (mkF m 0 #[.val (.ref wENTITY), .val (.int v1)] [])) _
    refine XS.iloadN X0.here hx rfl (hb hby own_d3_0) rfl ?_
    show Steps p.tables e below (s₁.setTop (mkF m 1 #[.val (.ref wENTITY), .val (.int v1)] [(.int v1)])) _
    refine XS.aloadN X0.here hx rfl (hb hby own_d3_1) rfl rfl ?_
    show Steps p.tables e below (s₁.setTop (mkF m 2 #[.val (.ref wENTITY), .val (.int v1)] [(.ref wENTITY), (.int v1)])) _
    refine st1 _ ?_
    show Steps p.tables e below (T1.setTop (mkF m 5 #[.val (.ref wENTITY), .val (.int v1)] [(.int (65 : Int32)), (.int v1)])) _
    refine XS.icmpYes X1.here hx rfl (pc0 := 5) (pc' := 20) rfl (hb hby own_d3_5) rfl (tlt (hp1 : v1 < (65 : Int32))).1 (by decide) (by decide) ?_
    show Steps p.tables e below (T1.setTop (mkF m 20 #[.val (.ref wENTITY), .val (.int v1)] [])) _
    refine XS.iconst X1.here hx rfl (hb hby own_d3_20) ?_
    show Steps p.tables e below (T1.setTop (mkF m 21 #[.val (.ref wENTITY), .val (.int v1)] [(.int (0 : Int32))])) _
    exact retN X1 hx (t := .boolean) Bd.returns (by simp) (hb hby own_d3_21) hr
  · show OwnQ _ h0 n0 _ T1.heap _
    exact ⟨rfl, N0, e1⟩
set_option maxRecDepth 65536 in
set_option maxHeartbeats 40000000 in
theorem own_isStart_11 (l : Launch) (Z : State) (a0 : Array Value) (hw : ∀ d ∈ tables_1, d.before a0 Z = true) (ws : List Jvm.Cond) (wENTITY : Addr) (wROLE_NAME : Addr) (G : OwnG Z wENTITY wROLE_NAME) (h0 : Heap) (n0 : Nat) (O0 : Old Z n0 h0) (v1 : Int32) (hp1 : v1 < (65 : Int32)) (hp2 : ¬ ((90 : Int32) < v1)) (hp3 : v1 < (97 : Int32)) (hp4 : ¬ ((122 : Int32) < v1)) (hp5 : ¬ (v1 < (48 : Int32))) (hp6 : (57 : Int32) < v1) (hp7 : ¬ (v1 = (95 : Int32))) (hp8 : (v1 ||| (32 : Int32)) < (97 : Int32)) (hp9 : ¬ ((122 : Int32) < (v1 ||| (32 : Int32)))) (hp10 : ¬ ((lcmpW ((v1.toInt64) - (48 : Int64)) (0 : Int64)) < (0 : Int32))) (hp11 : ¬ ((lcmpW ((v1.toInt64) - (48 : Int64)) (10 : Int64)) < (0 : Int32))) :
    MetFree l (⟨"com/example/credlib/credlib/policy/NameRule", "isStart", "(I)Z"⟩ : MethodName) (head1 (Jvm.Cond.code (⟨"com/example/credlib/credlib/policy/NameRule", "isStart", "(I)Z"⟩ : MethodName) prog_30_method_6_code 2 (some .boolean) :: ws) ({ frames := 0, cells := 0, slots := 0, locals := 0 } : Room)) (fun a U => a = #[(.ref wROLE_NAME), (.int v1)] ∧ Z.Warmed39 U.vm ∧ U.heap = h0) (fun _ _ _ _ _ => True) (fun _ U o U' => ∃ v L, o = .returned v ∧ OwnQ (some (.int (0 : Int32))) h0 n0 v U'.heap L ∧ FrameEnd U o U' L ({ frames := 0, cells := 0, slots := 0, locals := 0 } : Room).cells ({ frames := 0, cells := 0, slots := 0, locals := 0 } : Room).slots) := by
  refine MetFree.of_bodySF (plainFor_of_name own_pn_1) hisR ?_
  intro p e s m args below meth c s₁ Bd hml0 hP hK
  obtain ⟨rfl, hZ, hh⟩ := hP
  have hx := Bd.exec
  have hby := Bd.bytes
  have hml : c.maxLocals = 2 := hml0
  have hown : s.vm.findClass "com/example/credlib/credlib/policy/NameRule" = some m.cls := findClass_of_methodNamed Bd.named
  have hnm := (name_of_methodNamed Bd.named Bd.method).1
  have X0 : Stand p l e ({ frames := 0, cells := 0, slots := 0, locals := 0 } : Room) s m #[(.ref wROLE_NAME), (.int v1)] below meth c s₁ [] 0 0 := Stand.of_body Bd
  have e0 : s₁.heap = h0 := by rw [← hh, Bd.state]; rfl
  have N0 := Fr.nil n0
  have pre0 : ∀ t, Steps p.tables e below (s₁.setTop (mkF m 0 #[.val (.ref wROLE_NAME), .val (.int v1)] [])) t → Steps p.tables e below (s₁.setTop (entryFrame m #[(.ref wROLE_NAME), (.int v1)] 2)) t := fun t k => castTop (own_ef_3_RI m wROLE_NAME v1) k
  obtain ⟨T1, X1, e1, st1⟩ := getF X0 hx hZ hown (host := "") (Or.inl (hw _ (List.mem_of_getElem? (i := 16) rfl))) Via.refl e0 (G.2.2.2.2.2.1.ext O0.2) (g := (mkF m 2 #[.val (.ref wROLE_NAME), .val (.int v1)] [(.ref wROLE_NAME), (.int v1)])) rfl rfl (hb hby own_d3_2)
  obtain ⟨fs, hr, hrun, hended, hW, hsame⟩ := X1.leave (v := some (.int (0 : Int32))) (fun h => by rw [Bd.returns] at h; cases h)
  refine ⟨_, _, pre0 _ ?_, hrun, hended, _, _, rfl, ?_, ⟨_, rfl⟩, hW, hsame.mono (by decide) (by decide)⟩
  · show Steps p.tables e below (s₁.setTop (mkF m 0 #[.val (.ref wROLE_NAME), .val (.int v1)] [])) _
    refine XS.iloadN X0.here hx rfl (hb hby own_d3_0) rfl ?_
    show Steps p.tables e below (s₁.setTop (mkF m 1 #[.val (.ref wROLE_NAME), .val (.int v1)] [(.int v1)])) _
    refine XS.aloadN X0.here hx rfl (hb hby own_d3_1) rfl rfl ?_
    show Steps p.tables e below (s₁.setTop (mkF m 2 #[.val (.ref wROLE_NAME), .val (.int v1)] [(.ref wROLE_NAME), (.int v1)])) _
    refine st1 _ ?_
    show Steps p.tables e below (T1.setTop (mkF m 5 #[.val (.ref wROLE_NAME), .val (.int v1)] [(.int (97 : Int32)), (.int v1)])) _
    refine XS.icmpYes X1.here hx rfl (pc0 := 5) (pc' := 20) rfl (hb hby own_d3_5) rfl (tlt (hp3 : v1 < (97 : Int32))).1 (by decide) (by decide) ?_
    show Steps p.tables e below (T1.setTop (mkF m 20 #[.val (.ref wROLE_NAME), .val (.int v1)] [])) _
    refine XS.iconst X1.here hx rfl (hb hby own_d3_20) ?_
    show Steps p.tables e below (T1.setTop (mkF m 21 #[.val (.ref wROLE_NAME), .val (.int v1)] [(.int (0 : Int32))])) _
    exact retN X1 hx (t := .boolean) Bd.returns (by simp) (hb hby own_d3_21) hr
  · show OwnQ _ h0 n0 _ T1.heap _
    exact ⟨rfl, N0, e1⟩
set_option maxRecDepth 65536 in
set_option maxHeartbeats 40000000 in
theorem own_law_02 (l : Launch) (Z : State) (a0 : Array Value) (hw : ∀ d ∈ tables_1, d.before a0 Z = true) (ws : List Jvm.Cond) (wENTITY : Addr) (wROLE_NAME : Addr) (G : OwnG Z wENTITY wROLE_NAME) (h0 : Heap) (n0 : Nat) (O0 : Old Z n0 h0) (p1 : Int32) (p2 : Int32) (he : (p2 &&& (1 : Int32)) = (0 : Int32)) (aa0 : (p1 &&& (255 : Int32)) < (65 : Int32)) (aa1 : ¬ ((90 : Int32) < (p1 &&& (255 : Int32)))) (aa2 : (p1 &&& (255 : Int32)) < (97 : Int32)) (aa3 : ¬ ((122 : Int32) < (p1 &&& (255 : Int32)))) (aa4 : ¬ ((p1 &&& (255 : Int32)) < (48 : Int32))) (aa5 : (57 : Int32) < (p1 &&& (255 : Int32))) (aa6 : ¬ ((p1 &&& (255 : Int32)) = (95 : Int32))) (aa7 : ((p1 &&& (255 : Int32)) ||| (32 : Int32)) < (97 : Int32)) (aa8 : ¬ ((122 : Int32) < ((p1 &&& (255 : Int32)) ||| (32 : Int32)))) (aa9 : ¬ ((lcmpW (((p1 &&& (255 : Int32)).toInt64) - (48 : Int64)) (0 : Int64)) < (0 : Int32))) (aa10 : ¬ ((lcmpW (((p1 &&& (255 : Int32)).toInt64) - (48 : Int64)) (10 : Int64)) < (0 : Int32))) :
    MetFree l x (head1 (Jvm.Cond.code x code maxLocals ret :: ws) room_1) (fun a U => a = #[(.int p1), (.int p2)] ∧ Z.Warmed39 U.vm ∧ U.heap = h0) (fun _ _ _ _ _ => True) (fun _ U o U' => ∃ v L, o = .returned v ∧ (v = some (.int 1) ∧ Fr n0 L) ∧ FrameEnd U o U' L room_1.cells room_1.slots) := by
  refine MetFree.of_bodySF (plainFor_of_name own_pn_0) hisR ?_
  intro p e s m args below meth c s₁ Bd hml0 hP hK
  obtain ⟨rfl, hZ, hh⟩ := hP
  have hx := Bd.exec
  have hby := Bd.bytes
  have hml : c.maxLocals = 4 := hml0
  have hown : s.vm.findClass "com/example/credlib/credlib/policy/NameRuleIsPartPinLaw" = some m.cls := findClass_of_methodNamed Bd.named
  have hnm := (name_of_methodNamed Bd.named Bd.method).1
  have X0 : Stand p l e room_1 s m #[(.int p1), (.int p2)] below meth c s₁ [] 0 0 := Stand.of_body Bd
  have e0 : s₁.heap = h0 := by rw [← hh, Bd.state]; rfl
  have N0 := Fr.nil n0
  have pre0 : ∀ t, Steps p.tables e below (s₁.setTop (mkF m 0 #[.val (.int p1), .val (.int p2), .unset, .unset] [])) t → Steps p.tables e below (s₁.setTop (entryFrame m #[(.int p1), (.int p2)] maxLocals)) t := fun t k => castTop (own_ef_0_II m p1 p2) k
  obtain ⟨_, _, ⟨T1, L1, k1, n1⟩, -, X1, ⟨Lc1, hQ1, l1, y1, z1⟩, st1⟩ := Jvm.LawKit.callS X0 hx (y := (⟨"com/example/credlib/credlib/policy/NameRule", "isPart", "(I)Z"⟩ : MethodName)) hown (mvT hZ (hw _ (List.mem_of_getElem? (i := 0) rfl))) (mvT hZ (hw _ (List.mem_of_getElem? (i := 1) rfl))) (mvT hZ (hw _ (List.mem_of_getElem? (i := 2) rfl))) (mvT hZ (hw _ (List.mem_of_getElem? (i := 3) rfl))) (by decide) (backOf (W := 0) (own_isPart_8 l Z a0 hw [] wENTITY wROLE_NAME G h0 n0 O0 (p1 &&& (255 : Int32)) aa0 aa1 aa2 aa3 aa4 aa5 aa6 aa7 aa8 aa9 aa10) hZ (hw _ (List.mem_of_getElem? (i := 3) rfl)) (hw _ (List.mem_of_getElem? (i := 2) rfl)) (by decide) (by decide)) (g := (mkF m 17 #[.val (.int p1), .val (.int p2), .val (.int (p1 &&& (255 : Int32))), .unset] [(.int (p1 &&& (255 : Int32)))])) rfl (by rw [hml]; rfl) (argsL := [(.int (p1 &&& (255 : Int32)))]) (rest := []) (lenOf own_pd_0 rfl) rfl (by show 2 * 0 + _ ≤ _; exact Nat.le_of_eq rfl) (hb hby at_17) (fun _ _ => ⟨rfl, e0, (by decide : 0 + 0 ≤ _), (by decide : 0 + 0 ≤ _)⟩)
  dsimp only [Pt.U, Pt.locs, Pt.cells, Pt.slots] at X1 l1 y1 z1 st1 hQ1
  subst l1 y1 z1
  obtain ⟨rfl, N1q, e1⟩ := hQ1
  have N1 := Fr.app N0 N1q
  obtain ⟨_, _, ⟨T2, L2, k2, n2⟩, -, X2, ⟨Lc2, hQ2, l2, y2, z2⟩, st2⟩ := Jvm.LawKit.callS X1 hx (y := (⟨"com/example/credlib/credlib/policy/NameRuleIsPartPinLaw", "expected", "(I)Z"⟩ : MethodName)) hown (mvT hZ (hw _ (List.mem_of_getElem? (i := 4) rfl))) (mvT hZ (hw _ (List.mem_of_getElem? (i := 5) rfl))) (mvT hZ (hw _ (List.mem_of_getElem? (i := 6) rfl))) (mvT hZ (hw _ (List.mem_of_getElem? (i := 7) rfl))) (by decide) (backOf (W := 1) (own_expected_9 l Z a0 hw [] wENTITY wROLE_NAME G h0 n0 O0 (p1 &&& (255 : Int32)) aa0 aa1 aa2 aa3 aa4 aa5 aa6 aa7 aa8 aa9 aa10) hZ (hw _ (List.mem_of_getElem? (i := 7) rfl)) (hw _ (List.mem_of_getElem? (i := 6) rfl)) (by decide) (by decide)) (g := (mkF m 23 #[.val (.int p1), .val (.int p2), .val (.int (p1 &&& (255 : Int32))), .val (.int (0 : Int32))] [(.int (p1 &&& (255 : Int32))), (.int (0 : Int32))])) rfl (by rw [hml]; rfl) (argsL := [(.int (p1 &&& (255 : Int32)))]) (rest := [(.int (0 : Int32))]) (lenOf own_pd_0 rfl) rfl (by show 2 * 0 + _ ≤ _; exact Nat.le_of_eq rfl) (hb hby at_23) (fun _ _ => ⟨rfl, e1, (by decide : 0 + 0 ≤ _), (by decide : 0 + 0 ≤ _)⟩)
  dsimp only [Pt.U, Pt.locs, Pt.cells, Pt.slots] at X2 l2 y2 z2 st2 hQ2
  subst l2 y2 z2
  obtain ⟨rfl, N2q, e2⟩ := hQ2
  have N2 := Fr.app N1 N2q
  obtain ⟨T3, X3, e3, st3⟩ := getS2 X2 hx hZ hown (host := "") (Or.inl (hw _ (List.mem_of_getElem? (i := 9) rfl))) Via.refl e2 (G.1.ext O0.2) (g := (mkF m 31 #[.val (.int p1), .val (.int p2), .val (.int (p1 &&& (255 : Int32))), .val (.int (0 : Int32))] [])) rfl (hb hby at_31)
  obtain ⟨cq4, kq4, q4a, q4b, q4c⟩ := isOf hZ e3 (G.2.1.ext O0.2)
  obtain ⟨_, _, ⟨T4, L4, k4, n4⟩, -, X4, ⟨Lc4, hQ4, l4, y4, z4⟩, st4⟩ := X3.virtualBack hx (y := (⟨"com/example/credlib/credlib/policy/NameRule", "isStart", "(I)Z"⟩ : MethodName)) (z := (⟨"com/example/credlib/credlib/policy/NameRule", "isStart", "(I)Z"⟩ : MethodName)) hown (mvT hZ (hw _ (List.mem_of_getElem? (i := 11) rfl))) (mvT hZ (hw _ (List.mem_of_getElem? (i := 12) rfl))) (notFace_of_selects (args := #[]) (mvT hZ (hw _ (List.mem_of_getElem? (i := 14) rfl)))) (mvT hZ (hw _ (List.mem_of_getElem? (i := 14) rfl))) (mvT hZ (hw _ (List.mem_of_getElem? (i := 13) rfl))) (by decide) (backOf (W := 0) (own_isStart_10 l Z a0 hw [] wENTITY wROLE_NAME G h0 n0 O0 (p1 &&& (255 : Int32)) aa0 aa1 aa2 aa3 aa4 aa5 aa6 aa7 aa8 aa9 aa10) hZ (hw _ (List.mem_of_getElem? (i := 15) rfl)) (hw _ (List.mem_of_getElem? (i := 2) rfl)) (by decide) (by decide)) q4a q4c (g := (mkF m 35 #[.val (.int p1), .val (.int p2), .val (.int (p1 &&& (255 : Int32))), .val (.int (0 : Int32))] [(.int (p1 &&& (255 : Int32))), (.ref wENTITY)])) rfl (by rw [hml]; rfl) (Steps.refl _) (argsL := [(.int (p1 &&& (255 : Int32)))]) (rest := []) (lenOf own_pd_0 rfl) rfl (by show 2 * 0 + _ ≤ _; exact Nat.le_of_eq rfl) (hb hby at_35) (fun _ _ => ⟨rfl, e3, (by decide : 0 + 0 ≤ _), (by decide : 0 + 0 ≤ _)⟩)
  dsimp only [Pt.U, Pt.locs, Pt.cells, Pt.slots] at X4 l4 y4 z4 st4 hQ4
  subst l4 y4 z4
  obtain ⟨rfl, N4q, e4⟩ := hQ4
  have N4 := Fr.app N2 N4q
  obtain ⟨T5, X5, e5, st5⟩ := getS2 X4 hx hZ hown (host := "") (Or.inl (hw _ (List.mem_of_getElem? (i := 18) rfl))) Via.refl e4 (G.2.2.1.ext O0.2) (g := (mkF m 47 #[.val (.int p1), .val (.int p2), .val (.int (p1 &&& (255 : Int32))), .val (.int (0 : Int32))] [])) rfl (hb hby at_47)
  obtain ⟨cq6, kq6, q6a, q6b, q6c⟩ := isOf hZ e5 (G.2.2.2.1.ext O0.2)
  obtain ⟨_, _, ⟨T6, L6, k6, n6⟩, -, X6, ⟨Lc6, hQ6, l6, y6, z6⟩, st6⟩ := X5.virtualBack hx (y := (⟨"com/example/credlib/credlib/policy/NameRule", "isStart", "(I)Z"⟩ : MethodName)) (z := (⟨"com/example/credlib/credlib/policy/NameRule", "isStart", "(I)Z"⟩ : MethodName)) hown (mvT hZ (hw _ (List.mem_of_getElem? (i := 11) rfl))) (mvT hZ (hw _ (List.mem_of_getElem? (i := 12) rfl))) (notFace_of_selects (args := #[]) (mvT hZ (hw _ (List.mem_of_getElem? (i := 14) rfl)))) (mvT hZ (hw _ (List.mem_of_getElem? (i := 14) rfl))) (mvT hZ (hw _ (List.mem_of_getElem? (i := 13) rfl))) (by decide) (backOf (W := 0) (own_isStart_11 l Z a0 hw [] wENTITY wROLE_NAME G h0 n0 O0 (p1 &&& (255 : Int32)) aa0 aa1 aa2 aa3 aa4 aa5 aa6 aa7 aa8 aa9 aa10) hZ (hw _ (List.mem_of_getElem? (i := 15) rfl)) (hw _ (List.mem_of_getElem? (i := 2) rfl)) (by decide) (by decide)) q6a q6c (g := (mkF m 51 #[.val (.int p1), .val (.int p2), .val (.int (p1 &&& (255 : Int32))), .val (.int (0 : Int32))] [(.int (p1 &&& (255 : Int32))), (.ref wROLE_NAME)])) rfl (by rw [hml]; rfl) (Steps.refl _) (argsL := [(.int (p1 &&& (255 : Int32)))]) (rest := []) (lenOf own_pd_0 rfl) rfl (by show 2 * 0 + _ ≤ _; exact Nat.le_of_eq rfl) (hb hby at_51) (fun _ _ => ⟨rfl, e5, (by decide : 0 + 0 ≤ _), (by decide : 0 + 0 ≤ _)⟩)
  dsimp only [Pt.U, Pt.locs, Pt.cells, Pt.slots] at X6 l6 y6 z6 st6 hQ6
  subst l6 y6 z6
  obtain ⟨rfl, N6q, e6⟩ := hQ6
  have N6 := Fr.app N4 N6q
  obtain ⟨fs, hr, hrun, hended, hW, hsame⟩ := X6.leave (v := some (.int (1 : Int32))) (fun h => by rw [Bd.returns] at h; cases h)
  refine ⟨_, _, pre0 _ ?_, hrun, hended, _, _, rfl, ?_, ⟨_, rfl⟩, hW, hsame.mono (by decide) (by decide)⟩
  · show Steps p.tables e below (s₁.setTop (mkF m 0 #[.val (.int p1), .val (.int p2), .unset, .unset] [])) _
    refine XS.iloadN X0.here hx rfl (hb hby at_0) rfl ?_
    show Steps p.tables e below (s₁.setTop (mkF m 1 #[.val (.int p1), .val (.int p2), .unset, .unset] [(.int p2)])) _
    refine XS.iconst X0.here hx rfl (hb hby at_1) ?_
    show Steps p.tables e below (s₁.setTop (mkF m 2 #[.val (.int p1), .val (.int p2), .unset, .unset] [(.int (1 : Int32)), (.int p2)])) _
    refine XS.iand X0.here hx rfl (hb hby at_2) rfl ?_
    show Steps p.tables e below (s₁.setTop (mkF m 3 #[.val (.int p1), .val (.int p2), .unset, .unset] [(.int (p2 &&& (1 : Int32)))])) _
    refine XS.ifYes X0.here hx rfl (pc0 := 3) (pc' := 10) rfl (hb hby at_3) rfl ((if0 _ _).trans (teq (he : (p2 &&& (1 : Int32)) = (0 : Int32))).1) (by decide) (by decide) ?_
    show Steps p.tables e below (s₁.setTop (mkF m 10 #[.val (.int p1), .val (.int p2), .unset, .unset] [])) _
    refine XS.iloadN X0.here hx rfl (hb hby at_10) rfl ?_
    show Steps p.tables e below (s₁.setTop (mkF m 11 #[.val (.int p1), .val (.int p2), .unset, .unset] [(.int p1)])) _
    refine XS.sipush X0.here hx rfl (hb hby at_11) ?_
    show Steps p.tables e below (s₁.setTop (mkF m 14 #[.val (.int p1), .val (.int p2), .unset, .unset] [(.int (255 : Int32)), (.int p1)])) _
    refine XS.iand X0.here hx rfl (hb hby at_14) rfl ?_
    show Steps p.tables e below (s₁.setTop (mkF m 15 #[.val (.int p1), .val (.int p2), .unset, .unset] [(.int (p1 &&& (255 : Int32)))])) _
    refine XS.istoreN X0.here hx rfl (hb hby at_15) rfl (l' := #[.val (.int p1), .val (.int p2), .val (.int (p1 &&& (255 : Int32))), .unset]) rfl ?_
    show Steps p.tables e below (s₁.setTop (mkF m 16 #[.val (.int p1), .val (.int p2), .val (.int (p1 &&& (255 : Int32))), .unset] [])) _
    refine XS.iloadN X0.here hx rfl (hb hby at_16) rfl ?_
    show Steps p.tables e below (s₁.setTop (mkF m 17 #[.val (.int p1), .val (.int p2), .val (.int (p1 &&& (255 : Int32))), .unset] [(.int (p1 &&& (255 : Int32)))])) _
    refine st1 _ ?_
    show Steps p.tables e below (T1.setTop (mkF m 20 #[.val (.int p1), .val (.int p2), .val (.int (p1 &&& (255 : Int32))), .unset] [(.int (0 : Int32))])) _
    refine XS.istoreN X1.here hx rfl (hb hby at_20) rfl (l' := #[.val (.int p1), .val (.int p2), .val (.int (p1 &&& (255 : Int32))), .val (.int (0 : Int32))]) rfl ?_
    show Steps p.tables e below (T1.setTop (mkF m 21 #[.val (.int p1), .val (.int p2), .val (.int (p1 &&& (255 : Int32))), .val (.int (0 : Int32))] [])) _
    refine XS.iloadN X1.here hx rfl (hb hby at_21) rfl ?_
    show Steps p.tables e below (T1.setTop (mkF m 22 #[.val (.int p1), .val (.int p2), .val (.int (p1 &&& (255 : Int32))), .val (.int (0 : Int32))] [(.int (0 : Int32))])) _
    refine XS.iloadN X1.here hx rfl (hb hby at_22) rfl ?_
    show Steps p.tables e below (T1.setTop (mkF m 23 #[.val (.int p1), .val (.int p2), .val (.int (p1 &&& (255 : Int32))), .val (.int (0 : Int32))] [(.int (p1 &&& (255 : Int32))), (.int (0 : Int32))])) _
    refine st2 _ ?_
    show Steps p.tables e below (T2.setTop (mkF m 26 #[.val (.int p1), .val (.int p2), .val (.int (p1 &&& (255 : Int32))), .val (.int (0 : Int32))] [(.int (0 : Int32)), (.int (0 : Int32))])) _
    refine XS.icmpYes X2.here hx rfl (pc0 := 26) (pc' := 31) rfl (hb hby at_26) rfl (by decide) (by decide) (by decide) ?_
    show Steps p.tables e below (T2.setTop (mkF m 31 #[.val (.int p1), .val (.int p2), .val (.int (p1 &&& (255 : Int32))), .val (.int (0 : Int32))] [])) _
    refine st3 _ ?_
    show Steps p.tables e below (T3.setTop (mkF m 34 #[.val (.int p1), .val (.int p2), .val (.int (p1 &&& (255 : Int32))), .val (.int (0 : Int32))] [(.ref wENTITY)])) _
    refine XS.iloadN X3.here hx rfl (hb hby at_34) rfl ?_
    show Steps p.tables e below (T3.setTop (mkF m 35 #[.val (.int p1), .val (.int p2), .val (.int (p1 &&& (255 : Int32))), .val (.int (0 : Int32))] [(.int (p1 &&& (255 : Int32))), (.ref wENTITY)])) _
    refine st4.trans ?_
    show Steps p.tables e below (T4.setTop (mkF m 38 #[.val (.int p1), .val (.int p2), .val (.int (p1 &&& (255 : Int32))), .val (.int (0 : Int32))] [(.int (0 : Int32))])) _
    refine XS.ifYes X4.here hx rfl (pc0 := 38) (pc' := 47) rfl (hb hby at_38) rfl (by decide) (by decide) (by decide) ?_
    show Steps p.tables e below (T4.setTop (mkF m 47 #[.val (.int p1), .val (.int p2), .val (.int (p1 &&& (255 : Int32))), .val (.int (0 : Int32))] [])) _
    refine st5 _ ?_
    show Steps p.tables e below (T5.setTop (mkF m 50 #[.val (.int p1), .val (.int p2), .val (.int (p1 &&& (255 : Int32))), .val (.int (0 : Int32))] [(.ref wROLE_NAME)])) _
    refine XS.iloadN X5.here hx rfl (hb hby at_50) rfl ?_
    show Steps p.tables e below (T5.setTop (mkF m 51 #[.val (.int p1), .val (.int p2), .val (.int (p1 &&& (255 : Int32))), .val (.int (0 : Int32))] [(.int (p1 &&& (255 : Int32))), (.ref wROLE_NAME)])) _
    refine st6.trans ?_
    show Steps p.tables e below (T6.setTop (mkF m 54 #[.val (.int p1), .val (.int p2), .val (.int (p1 &&& (255 : Int32))), .val (.int (0 : Int32))] [(.int (0 : Int32))])) _
    refine XS.ifYes X6.here hx rfl (pc0 := 54) (pc' := 63) rfl (hb hby at_54) rfl (by decide) (by decide) (by decide) ?_
    show Steps p.tables e below (T6.setTop (mkF m 63 #[.val (.int p1), .val (.int p2), .val (.int (p1 &&& (255 : Int32))), .val (.int (0 : Int32))] [])) _
    refine XS.iconst X6.here hx rfl (hb hby at_63) ?_
    show Steps p.tables e below (T6.setTop (mkF m 64 #[.val (.int p1), .val (.int p2), .val (.int (p1 &&& (255 : Int32))), .val (.int (0 : Int32))] [(.int (1 : Int32))])) _
    exact retN X6 hx (t := .boolean) Bd.returns (by simp) (hb hby at_64) hr
  · exact ⟨rfl, N6⟩
theorem own_d1_6 : decode prog_30_method_7_code 6 = .ok (.iload_n 0, 1) := by decide +kernel
theorem own_d1_7 : decode prog_30_method_7_code 7 = .ok (.bipush 90, 2) := by decide +kernel
theorem own_d1_9 : decode prog_30_method_7_code 9 = .ok (.if_icmp .le 33, 3) := by decide +kernel
set_option maxRecDepth 65536 in
set_option maxHeartbeats 40000000 in
theorem own_isPart_12 (l : Launch) (Z : State) (a0 : Array Value) (hw : ∀ d ∈ tables_1, d.before a0 Z = true) (ws : List Jvm.Cond) (wENTITY : Addr) (wROLE_NAME : Addr) (G : OwnG Z wENTITY wROLE_NAME) (h0 : Heap) (n0 : Nat) (O0 : Old Z n0 h0) (v1 : Int32) (hp1 : ¬ (v1 < (65 : Int32))) (hp2 : ¬ ((90 : Int32) < v1)) (hp3 : v1 < (97 : Int32)) (hp4 : ¬ ((122 : Int32) < v1)) (hp5 : ¬ (v1 < (48 : Int32))) (hp6 : (57 : Int32) < v1) (hp7 : ¬ (v1 = (95 : Int32))) (hp8 : ¬ ((v1 ||| (32 : Int32)) < (97 : Int32))) (hp9 : ¬ ((122 : Int32) < (v1 ||| (32 : Int32)))) (hp10 : ¬ ((lcmpW ((v1.toInt64) - (48 : Int64)) (0 : Int64)) < (0 : Int32))) (hp11 : ¬ ((lcmpW ((v1.toInt64) - (48 : Int64)) (10 : Int64)) < (0 : Int32))) :
    MetFree l (⟨"com/example/credlib/credlib/policy/NameRule", "isPart", "(I)Z"⟩ : MethodName) (head1 (Jvm.Cond.code (⟨"com/example/credlib/credlib/policy/NameRule", "isPart", "(I)Z"⟩ : MethodName) prog_30_method_7_code 1 (some .boolean) :: ws) ({ frames := 0, cells := 0, slots := 0, locals := 0 } : Room)) (fun a U => a = #[(.int v1)] ∧ Z.Warmed39 U.vm ∧ U.heap = h0) (fun _ _ _ _ _ => True) (fun _ U o U' => ∃ v L, o = .returned v ∧ OwnQ (some (.int (1 : Int32))) h0 n0 v U'.heap L ∧ FrameEnd U o U' L ({ frames := 0, cells := 0, slots := 0, locals := 0 } : Room).cells ({ frames := 0, cells := 0, slots := 0, locals := 0 } : Room).slots) := by
  refine MetFree.of_bodySF (plainFor_of_name own_pn_1) hisR ?_
  intro p e s m args below meth c s₁ Bd hml0 hP hK
  obtain ⟨rfl, hZ, hh⟩ := hP
  have hx := Bd.exec
  have hby := Bd.bytes
  have hml : c.maxLocals = 1 := hml0
  have hown : s.vm.findClass "com/example/credlib/credlib/policy/NameRule" = some m.cls := findClass_of_methodNamed Bd.named
  have hnm := (name_of_methodNamed Bd.named Bd.method).1
  have X0 : Stand p l e ({ frames := 0, cells := 0, slots := 0, locals := 0 } : Room) s m #[(.int v1)] below meth c s₁ [] 0 0 := Stand.of_body Bd
  have e0 : s₁.heap = h0 := by rw [← hh, Bd.state]; rfl
  have N0 := Fr.nil n0
  have pre0 : ∀ t, Steps p.tables e below (s₁.setTop (mkF m 0 #[.val (.int v1)] [])) t → Steps p.tables e below (s₁.setTop (entryFrame m #[(.int v1)] 1)) t := fun t k => castTop (own_ef_1_I m v1) k
  obtain ⟨fs, hr, hrun, hended, hW, hsame⟩ := X0.leave (v := some (.int (1 : Int32))) (fun h => by rw [Bd.returns] at h; cases h)
  refine ⟨_, _, pre0 _ ?_, hrun, hended, _, _, rfl, ?_, ⟨_, rfl⟩, hW, hsame.mono (by decide) (by decide)⟩
  · show Steps p.tables e below (s₁.setTop (mkF m 0 #[.val (.int v1)] [])) _
    refine XS.iloadN X0.here hx rfl (hb hby own_d1_0) rfl ?_
    show Steps p.tables e below (s₁.setTop (mkF m 1 #[.val (.int v1)] [(.int v1)])) _
    refine XS.bipush X0.here hx rfl (hb hby own_d1_1) ?_
    show Steps p.tables e below (s₁.setTop (mkF m 3 #[.val (.int v1)] [(.int (65 : Int32)), (.int v1)])) _
    refine XS.icmpNo X0.here hx rfl (hb hby own_d1_3) rfl (flt (hp1 : ¬ (v1 < (65 : Int32)))).1 ?_
    show Steps p.tables e below (s₁.setTop (mkF m 6 #[.val (.int v1)] [])) _
    refine XS.iloadN X0.here hx rfl (hb hby own_d1_6) rfl ?_
    show Steps p.tables e below (s₁.setTop (mkF m 7 #[.val (.int v1)] [(.int v1)])) _
    refine XS.bipush X0.here hx rfl (hb hby own_d1_7) ?_
    show Steps p.tables e below (s₁.setTop (mkF m 9 #[.val (.int v1)] [(.int (90 : Int32)), (.int v1)])) _
    refine XS.icmpYes X0.here hx rfl (pc0 := 9) (pc' := 42) rfl (hb hby own_d1_9) rfl (flt (hp2 : ¬ ((90 : Int32) < v1))).2.2.2 (by decide) (by decide) ?_
    show Steps p.tables e below (s₁.setTop (mkF m 42 #[.val (.int v1)] [])) _
    refine XS.iconst X0.here hx rfl (hb hby own_d1_42) ?_
    show Steps p.tables e below (s₁.setTop (mkF m 43 #[.val (.int v1)] [(.int (1 : Int32))])) _
    refine XS.goto X0.here hx rfl (pc0 := 43) (pc' := 47) rfl (hb hby own_d1_43) (by decide) (by decide) ?_
    show Steps p.tables e below (s₁.setTop (mkF m 47 #[.val (.int v1)] [(.int (1 : Int32))])) _
    exact retN X0 hx (t := .boolean) Bd.returns (by simp) (hb hby own_d1_47) hr
  · show OwnQ _ h0 n0 _ s₁.heap _
    exact ⟨rfl, N0, e0⟩
theorem own_d2_11 : decode method_2_code 11 = .ok (.iload_n 1, 1) := by decide +kernel
theorem own_d2_12 : decode method_2_code 12 = .ok (.bipush 122, 2) := by decide +kernel
theorem own_d2_14 : decode method_2_code 14 = .ok (.if_icmp .gt 7, 3) := by decide +kernel
theorem own_d2_17 : decode method_2_code 17 = .ok (.iconst 1, 1) := by decide +kernel
theorem own_d2_18 : decode method_2_code 18 = .ok (.goto 4, 3) := by decide +kernel
set_option maxRecDepth 65536 in
set_option maxHeartbeats 40000000 in
theorem own_expected_13 (l : Launch) (Z : State) (a0 : Array Value) (hw : ∀ d ∈ tables_1, d.before a0 Z = true) (ws : List Jvm.Cond) (wENTITY : Addr) (wROLE_NAME : Addr) (G : OwnG Z wENTITY wROLE_NAME) (h0 : Heap) (n0 : Nat) (O0 : Old Z n0 h0) (v1 : Int32) (hp1 : ¬ (v1 < (65 : Int32))) (hp2 : ¬ ((90 : Int32) < v1)) (hp3 : v1 < (97 : Int32)) (hp4 : ¬ ((122 : Int32) < v1)) (hp5 : ¬ (v1 < (48 : Int32))) (hp6 : (57 : Int32) < v1) (hp7 : ¬ (v1 = (95 : Int32))) (hp8 : ¬ ((v1 ||| (32 : Int32)) < (97 : Int32))) (hp9 : ¬ ((122 : Int32) < (v1 ||| (32 : Int32)))) (hp10 : ¬ ((lcmpW ((v1.toInt64) - (48 : Int64)) (0 : Int64)) < (0 : Int32))) (hp11 : ¬ ((lcmpW ((v1.toInt64) - (48 : Int64)) (10 : Int64)) < (0 : Int32))) :
    MetFree l (⟨"com/example/credlib/credlib/policy/NameRuleIsPartPinLaw", "expected", "(I)Z"⟩ : MethodName) (head1 (Jvm.Cond.code (⟨"com/example/credlib/credlib/policy/NameRuleIsPartPinLaw", "expected", "(I)Z"⟩ : MethodName) method_2_code 7 (some .boolean) :: ws) ({ frames := 0, cells := 0, slots := 0, locals := 0 } : Room)) (fun a U => a = #[(.int v1)] ∧ Z.Warmed39 U.vm ∧ U.heap = h0) (fun _ _ _ _ _ => True) (fun _ U o U' => ∃ v L, o = .returned v ∧ OwnQ (some (.int (1 : Int32))) h0 n0 v U'.heap L ∧ FrameEnd U o U' L ({ frames := 0, cells := 0, slots := 0, locals := 0 } : Room).cells ({ frames := 0, cells := 0, slots := 0, locals := 0 } : Room).slots) := by
  refine MetFree.of_bodySF (plainFor_of_name own_pn_0) hisR ?_
  intro p e s m args below meth c s₁ Bd hml0 hP hK
  obtain ⟨rfl, hZ, hh⟩ := hP
  have hx := Bd.exec
  have hby := Bd.bytes
  have hml : c.maxLocals = 7 := hml0
  have hown : s.vm.findClass "com/example/credlib/credlib/policy/NameRuleIsPartPinLaw" = some m.cls := findClass_of_methodNamed Bd.named
  have hnm := (name_of_methodNamed Bd.named Bd.method).1
  have X0 : Stand p l e ({ frames := 0, cells := 0, slots := 0, locals := 0 } : Room) s m #[(.int v1)] below meth c s₁ [] 0 0 := Stand.of_body Bd
  have e0 : s₁.heap = h0 := by rw [← hh, Bd.state]; rfl
  have N0 := Fr.nil n0
  have pre0 : ∀ t, Steps p.tables e below (s₁.setTop (mkF m 0 #[.val (.int v1), .unset, .unset, .unset, .unset, .unset, .unset] [])) t → Steps p.tables e below (s₁.setTop (entryFrame m #[(.int v1)] 7)) t := fun t k => castTop (own_ef_2_I m v1) k
  obtain ⟨fs, hr, hrun, hended, hW, hsame⟩ := X0.leave (v := some (.int (1 : Int32))) (fun h => by rw [Bd.returns] at h; cases h)
  refine ⟨_, _, pre0 _ ?_, hrun, hended, _, _, rfl, ?_, ⟨_, rfl⟩, hW, hsame.mono (by decide) (by decide)⟩
  · show Steps p.tables e below (s₁.setTop (mkF m 0 #[.val (.int v1), .unset, .unset, .unset, .unset, .unset, .unset] [])) _
    refine XS.iloadN X0.here hx rfl (hb hby own_d2_0) rfl ?_
    show Steps p.tables e below (s₁.setTop (mkF m 1 #[.val (.int v1), .unset, .unset, .unset, .unset, .unset, .unset] [(.int v1)])) _
    refine XS.bipush X0.here hx rfl (hb hby own_d2_1) ?_
    show Steps p.tables e below (s₁.setTop (mkF m 3 #[.val (.int v1), .unset, .unset, .unset, .unset, .unset, .unset] [(.int (32 : Int32)), (.int v1)])) _
    refine XS.ior X0.here hx rfl (hb hby own_d2_3) rfl ?_
    show Steps p.tables e below (s₁.setTop (mkF m 4 #[.val (.int v1), .unset, .unset, .unset, .unset, .unset, .unset] [(.int (v1 ||| (32 : Int32)))])) _
    refine XS.istoreN X0.here hx rfl (hb hby own_d2_4) rfl (l' := #[.val (.int v1), .val (.int (v1 ||| (32 : Int32))), .unset, .unset, .unset, .unset, .unset]) rfl ?_
    show Steps p.tables e below (s₁.setTop (mkF m 5 #[.val (.int v1), .val (.int (v1 ||| (32 : Int32))), .unset, .unset, .unset, .unset, .unset] [])) _
    refine XS.iloadN X0.here hx rfl (hb hby own_d2_5) rfl ?_
    show Steps p.tables e below (s₁.setTop (mkF m 6 #[.val (.int v1), .val (.int (v1 ||| (32 : Int32))), .unset, .unset, .unset, .unset, .unset] [(.int (v1 ||| (32 : Int32)))])) _
    refine XS.bipush X0.here hx rfl (hb hby own_d2_6) ?_
    show Steps p.tables e below (s₁.setTop (mkF m 8 #[.val (.int v1), .val (.int (v1 ||| (32 : Int32))), .unset, .unset, .unset, .unset, .unset] [(.int (97 : Int32)), (.int (v1 ||| (32 : Int32)))])) _
    refine XS.icmpNo X0.here hx rfl (hb hby own_d2_8) rfl (flt (hp8 : ¬ ((v1 ||| (32 : Int32)) < (97 : Int32)))).1 ?_
    show Steps p.tables e below (s₁.setTop (mkF m 11 #[.val (.int v1), .val (.int (v1 ||| (32 : Int32))), .unset, .unset, .unset, .unset, .unset] [])) _
    refine XS.iloadN X0.here hx rfl (hb hby own_d2_11) rfl ?_
    show Steps p.tables e below (s₁.setTop (mkF m 12 #[.val (.int v1), .val (.int (v1 ||| (32 : Int32))), .unset, .unset, .unset, .unset, .unset] [(.int (v1 ||| (32 : Int32)))])) _
    refine XS.bipush X0.here hx rfl (hb hby own_d2_12) ?_
    show Steps p.tables e below (s₁.setTop (mkF m 14 #[.val (.int v1), .val (.int (v1 ||| (32 : Int32))), .unset, .unset, .unset, .unset, .unset] [(.int (122 : Int32)), (.int (v1 ||| (32 : Int32)))])) _
    refine XS.icmpNo X0.here hx rfl (hb hby own_d2_14) rfl (flt (hp9 : ¬ ((122 : Int32) < (v1 ||| (32 : Int32))))).2.2.1 ?_
    show Steps p.tables e below (s₁.setTop (mkF m 17 #[.val (.int v1), .val (.int (v1 ||| (32 : Int32))), .unset, .unset, .unset, .unset, .unset] [])) _
    refine XS.iconst X0.here hx rfl (hb hby own_d2_17) ?_
    show Steps p.tables e below (s₁.setTop (mkF m 18 #[.val (.int v1), .val (.int (v1 ||| (32 : Int32))), .unset, .unset, .unset, .unset, .unset] [(.int (1 : Int32))])) _
    refine XS.goto X0.here hx rfl (pc0 := 18) (pc' := 22) rfl (hb hby own_d2_18) (by decide) (by decide) ?_
    show Steps p.tables e below (s₁.setTop (mkF m 22 #[.val (.int v1), .val (.int (v1 ||| (32 : Int32))), .unset, .unset, .unset, .unset, .unset] [(.int (1 : Int32))])) _
    refine XS.istoreN X0.here hx rfl (hb hby own_d2_22) rfl (l' := #[.val (.int v1), .val (.int (v1 ||| (32 : Int32))), .val (.int (1 : Int32)), .unset, .unset, .unset, .unset]) rfl ?_
    show Steps p.tables e below (s₁.setTop (mkF m 23 #[.val (.int v1), .val (.int (v1 ||| (32 : Int32))), .val (.int (1 : Int32)), .unset, .unset, .unset, .unset] [])) _
    refine XS.iloadN X0.here hx rfl (hb hby own_d2_23) rfl ?_
    show Steps p.tables e below (s₁.setTop (mkF m 24 #[.val (.int v1), .val (.int (v1 ||| (32 : Int32))), .val (.int (1 : Int32)), .unset, .unset, .unset, .unset] [(.int v1)])) _
    refine XS.i2l X0.here hx rfl (hb hby own_d2_24) rfl ?_
    show Steps p.tables e below (s₁.setTop (mkF m 25 #[.val (.int v1), .val (.int (v1 ||| (32 : Int32))), .val (.int (1 : Int32)), .unset, .unset, .unset, .unset] [(.long (v1.toInt64))])) _
    refine Jvm.Stand.ldc2J X0 hx hown (mvT hZ (hw _ (List.mem_of_getElem? (i := 8) rfl))) rfl (hb hby own_d2_25) ?_
    show Steps p.tables e below (s₁.setTop (mkF m 28 #[.val (.int v1), .val (.int (v1 ||| (32 : Int32))), .val (.int (1 : Int32)), .unset, .unset, .unset, .unset] [(.long (48 : Int64)), (.long (v1.toInt64))])) _
    refine XS.lsub X0.here hx rfl (hb hby own_d2_28) rfl ?_
    show Steps p.tables e below (s₁.setTop (mkF m 29 #[.val (.int v1), .val (.int (v1 ||| (32 : Int32))), .val (.int (1 : Int32)), .unset, .unset, .unset, .unset] [(.long ((v1.toInt64) - (48 : Int64)))])) _
    refine XS.lstoreN X0.here hx rfl (hb hby own_d2_29) rfl (l' := #[.val (.int v1), .val (.int (v1 ||| (32 : Int32))), .val (.int (1 : Int32)), .val (.long ((v1.toInt64) - (48 : Int64))), .second, .unset, .unset]) rfl ?_
    show Steps p.tables e below (s₁.setTop (mkF m 30 #[.val (.int v1), .val (.int (v1 ||| (32 : Int32))), .val (.int (1 : Int32)), .val (.long ((v1.toInt64) - (48 : Int64))), .second, .unset, .unset] [])) _
    refine XS.lloadN X0.here hx rfl (hb hby own_d2_30) rfl ?_
    show Steps p.tables e below (s₁.setTop (mkF m 31 #[.val (.int v1), .val (.int (v1 ||| (32 : Int32))), .val (.int (1 : Int32)), .val (.long ((v1.toInt64) - (48 : Int64))), .second, .unset, .unset] [(.long ((v1.toInt64) - (48 : Int64)))])) _
    refine XS.lconst X0.here hx rfl (hb hby own_d2_31) ?_
    show Steps p.tables e below (s₁.setTop (mkF m 32 #[.val (.int v1), .val (.int (v1 ||| (32 : Int32))), .val (.int (1 : Int32)), .val (.long ((v1.toInt64) - (48 : Int64))), .second, .unset, .unset] [(.long (0 : Int64)), (.long ((v1.toInt64) - (48 : Int64)))])) _
    refine XS.lcmp X0.here hx rfl (hb hby own_d2_32) rfl ?_
    show Steps p.tables e below (s₁.setTop (mkF m 33 #[.val (.int v1), .val (.int (v1 ||| (32 : Int32))), .val (.int (1 : Int32)), .val (.long ((v1.toInt64) - (48 : Int64))), .second, .unset, .unset] [(.int (lcmpW ((v1.toInt64) - (48 : Int64)) (0 : Int64)))])) _
    refine XS.ifNo X0.here hx rfl (hb hby own_d2_33) rfl ((if0 _ _).trans (flt (hp10 : ¬ ((lcmpW ((v1.toInt64) - (48 : Int64)) (0 : Int64)) < (0 : Int32)))).1) ?_
    show Steps p.tables e below (s₁.setTop (mkF m 36 #[.val (.int v1), .val (.int (v1 ||| (32 : Int32))), .val (.int (1 : Int32)), .val (.long ((v1.toInt64) - (48 : Int64))), .second, .unset, .unset] [])) _
    refine XS.lloadN X0.here hx rfl (hb hby own_d2_36) rfl ?_
    show Steps p.tables e below (s₁.setTop (mkF m 37 #[.val (.int v1), .val (.int (v1 ||| (32 : Int32))), .val (.int (1 : Int32)), .val (.long ((v1.toInt64) - (48 : Int64))), .second, .unset, .unset] [(.long ((v1.toInt64) - (48 : Int64)))])) _
    refine Jvm.Stand.ldc2J X0 hx hown (mvT hZ (hw _ (List.mem_of_getElem? (i := 20) rfl))) rfl (hb hby own_d2_37) ?_
    show Steps p.tables e below (s₁.setTop (mkF m 40 #[.val (.int v1), .val (.int (v1 ||| (32 : Int32))), .val (.int (1 : Int32)), .val (.long ((v1.toInt64) - (48 : Int64))), .second, .unset, .unset] [(.long (10 : Int64)), (.long ((v1.toInt64) - (48 : Int64)))])) _
    refine XS.lcmp X0.here hx rfl (hb hby own_d2_40) rfl ?_
    show Steps p.tables e below (s₁.setTop (mkF m 41 #[.val (.int v1), .val (.int (v1 ||| (32 : Int32))), .val (.int (1 : Int32)), .val (.long ((v1.toInt64) - (48 : Int64))), .second, .unset, .unset] [(.int (lcmpW ((v1.toInt64) - (48 : Int64)) (10 : Int64)))])) _
    refine XS.ifYes X0.here hx rfl (pc0 := 41) (pc' := 48) rfl (hb hby own_d2_41) rfl ((if0 _ _).trans (flt (hp11 : ¬ ((lcmpW ((v1.toInt64) - (48 : Int64)) (10 : Int64)) < (0 : Int32)))).2.1) (by decide) (by decide) ?_
    show Steps p.tables e below (s₁.setTop (mkF m 48 #[.val (.int v1), .val (.int (v1 ||| (32 : Int32))), .val (.int (1 : Int32)), .val (.long ((v1.toInt64) - (48 : Int64))), .second, .unset, .unset] [])) _
    refine XS.iconst X0.here hx rfl (hb hby own_d2_48) ?_
    show Steps p.tables e below (s₁.setTop (mkF m 49 #[.val (.int v1), .val (.int (v1 ||| (32 : Int32))), .val (.int (1 : Int32)), .val (.long ((v1.toInt64) - (48 : Int64))), .second, .unset, .unset] [(.int (0 : Int32))])) _
    refine XS.istore X0.here hx rfl (hb hby own_d2_49) rfl (l' := #[.val (.int v1), .val (.int (v1 ||| (32 : Int32))), .val (.int (1 : Int32)), .val (.long ((v1.toInt64) - (48 : Int64))), .second, .val (.int (0 : Int32)), .unset]) rfl ?_
    show Steps p.tables e below (s₁.setTop (mkF m 51 #[.val (.int v1), .val (.int (v1 ||| (32 : Int32))), .val (.int (1 : Int32)), .val (.long ((v1.toInt64) - (48 : Int64))), .second, .val (.int (0 : Int32)), .unset] [])) _
    refine XS.iloadN X0.here hx rfl (hb hby own_d2_51) rfl ?_
    show Steps p.tables e below (s₁.setTop (mkF m 52 #[.val (.int v1), .val (.int (v1 ||| (32 : Int32))), .val (.int (1 : Int32)), .val (.long ((v1.toInt64) - (48 : Int64))), .second, .val (.int (0 : Int32)), .unset] [(.int v1)])) _
    refine XS.bipush X0.here hx rfl (hb hby own_d2_52) ?_
    show Steps p.tables e below (s₁.setTop (mkF m 54 #[.val (.int v1), .val (.int (v1 ||| (32 : Int32))), .val (.int (1 : Int32)), .val (.long ((v1.toInt64) - (48 : Int64))), .second, .val (.int (0 : Int32)), .unset] [(.int (95 : Int32)), (.int v1)])) _
    refine XS.icmpYes X0.here hx rfl (pc0 := 54) (pc' := 61) rfl (hb hby own_d2_54) rfl (feq (hp7 : ¬ (v1 = (95 : Int32)))).2 (by decide) (by decide) ?_
    show Steps p.tables e below (s₁.setTop (mkF m 61 #[.val (.int v1), .val (.int (v1 ||| (32 : Int32))), .val (.int (1 : Int32)), .val (.long ((v1.toInt64) - (48 : Int64))), .second, .val (.int (0 : Int32)), .unset] [])) _
    refine XS.iconst X0.here hx rfl (hb hby own_d2_61) ?_
    show Steps p.tables e below (s₁.setTop (mkF m 62 #[.val (.int v1), .val (.int (v1 ||| (32 : Int32))), .val (.int (1 : Int32)), .val (.long ((v1.toInt64) - (48 : Int64))), .second, .val (.int (0 : Int32)), .unset] [(.int (0 : Int32))])) _
    refine XS.istore X0.here hx rfl (hb hby own_d2_62) rfl (l' := #[.val (.int v1), .val (.int (v1 ||| (32 : Int32))), .val (.int (1 : Int32)), .val (.long ((v1.toInt64) - (48 : Int64))), .second, .val (.int (0 : Int32)), .val (.int (0 : Int32))]) rfl ?_
    show Steps p.tables e below (s₁.setTop (mkF m 64 #[.val (.int v1), .val (.int (v1 ||| (32 : Int32))), .val (.int (1 : Int32)), .val (.long ((v1.toInt64) - (48 : Int64))), .second, .val (.int (0 : Int32)), .val (.int (0 : Int32))] [])) _
    refine XS.iloadN X0.here hx rfl (hb hby own_d2_64) rfl ?_
    show Steps p.tables e below (s₁.setTop (mkF m 65 #[.val (.int v1), .val (.int (v1 ||| (32 : Int32))), .val (.int (1 : Int32)), .val (.long ((v1.toInt64) - (48 : Int64))), .second, .val (.int (0 : Int32)), .val (.int (0 : Int32))] [(.int (1 : Int32))])) _
    refine XS.ifYes X0.here hx rfl (pc0 := 65) (pc' := 78) rfl (hb hby own_d2_65) rfl (by decide) (by decide) (by decide) ?_
    show Steps p.tables e below (s₁.setTop (mkF m 78 #[.val (.int v1), .val (.int (v1 ||| (32 : Int32))), .val (.int (1 : Int32)), .val (.long ((v1.toInt64) - (48 : Int64))), .second, .val (.int (0 : Int32)), .val (.int (0 : Int32))] [])) _
    refine XS.iconst X0.here hx rfl (hb hby own_d2_78) ?_
    show Steps p.tables e below (s₁.setTop (mkF m 79 #[.val (.int v1), .val (.int (v1 ||| (32 : Int32))), .val (.int (1 : Int32)), .val (.long ((v1.toInt64) - (48 : Int64))), .second, .val (.int (0 : Int32)), .val (.int (0 : Int32))] [(.int (1 : Int32))])) _
    refine XS.goto X0.here hx rfl (pc0 := 79) (pc' := 83) rfl (hb hby own_d2_79) (by decide) (by decide) ?_
    show Steps p.tables e below (s₁.setTop (mkF m 83 #[.val (.int v1), .val (.int (v1 ||| (32 : Int32))), .val (.int (1 : Int32)), .val (.long ((v1.toInt64) - (48 : Int64))), .second, .val (.int (0 : Int32)), .val (.int (0 : Int32))] [(.int (1 : Int32))])) _
    exact retN X0 hx (t := .boolean) Bd.returns (by simp) (hb hby own_d2_83) hr
  · show OwnQ _ h0 n0 _ s₁.heap _
    exact ⟨rfl, N0, e0⟩
theorem own_d3_8 : decode prog_30_method_6_code 8 = .ok (.iload_n 1, 1) := by decide +kernel
theorem own_d3_9 : decode prog_30_method_6_code 9 = .ok (.aload_n 0, 1) := by decide +kernel
theorem own_d3_10 : decode prog_30_method_6_code 10 = .ok (.getfield 40, 3) := by decide +kernel
theorem own_d3_13 : decode prog_30_method_6_code 13 = .ok (.if_icmp .gt 7, 3) := by decide +kernel
theorem own_d3_16 : decode prog_30_method_6_code 16 = .ok (.iconst 1, 1) := by decide +kernel
theorem own_d3_17 : decode prog_30_method_6_code 17 = .ok (.goto 4, 3) := by decide +kernel
set_option maxRecDepth 65536 in
set_option maxHeartbeats 40000000 in
theorem own_isStart_14 (l : Launch) (Z : State) (a0 : Array Value) (hw : ∀ d ∈ tables_1, d.before a0 Z = true) (ws : List Jvm.Cond) (wENTITY : Addr) (wROLE_NAME : Addr) (G : OwnG Z wENTITY wROLE_NAME) (h0 : Heap) (n0 : Nat) (O0 : Old Z n0 h0) (v1 : Int32) (hp1 : ¬ (v1 < (65 : Int32))) (hp2 : ¬ ((90 : Int32) < v1)) (hp3 : v1 < (97 : Int32)) (hp4 : ¬ ((122 : Int32) < v1)) (hp5 : ¬ (v1 < (48 : Int32))) (hp6 : (57 : Int32) < v1) (hp7 : ¬ (v1 = (95 : Int32))) (hp8 : ¬ ((v1 ||| (32 : Int32)) < (97 : Int32))) (hp9 : ¬ ((122 : Int32) < (v1 ||| (32 : Int32)))) (hp10 : ¬ ((lcmpW ((v1.toInt64) - (48 : Int64)) (0 : Int64)) < (0 : Int32))) (hp11 : ¬ ((lcmpW ((v1.toInt64) - (48 : Int64)) (10 : Int64)) < (0 : Int32))) :
    MetFree l (⟨"com/example/credlib/credlib/policy/NameRule", "isStart", "(I)Z"⟩ : MethodName) (head1 (Jvm.Cond.code (⟨"com/example/credlib/credlib/policy/NameRule", "isStart", "(I)Z"⟩ : MethodName) prog_30_method_6_code 2 (some .boolean) :: ws) ({ frames := 0, cells := 0, slots := 0, locals := 0 } : Room)) (fun a U => a = #[(.ref wENTITY), (.int v1)] ∧ Z.Warmed39 U.vm ∧ U.heap = h0) (fun _ _ _ _ _ => True) (fun _ U o U' => ∃ v L, o = .returned v ∧ OwnQ (some (.int (1 : Int32))) h0 n0 v U'.heap L ∧ FrameEnd U o U' L ({ frames := 0, cells := 0, slots := 0, locals := 0 } : Room).cells ({ frames := 0, cells := 0, slots := 0, locals := 0 } : Room).slots) := by
  refine MetFree.of_bodySF (plainFor_of_name own_pn_1) hisR ?_
  intro p e s m args below meth c s₁ Bd hml0 hP hK
  obtain ⟨rfl, hZ, hh⟩ := hP
  have hx := Bd.exec
  have hby := Bd.bytes
  have hml : c.maxLocals = 2 := hml0
  have hown : s.vm.findClass "com/example/credlib/credlib/policy/NameRule" = some m.cls := findClass_of_methodNamed Bd.named
  have hnm := (name_of_methodNamed Bd.named Bd.method).1
  have X0 : Stand p l e ({ frames := 0, cells := 0, slots := 0, locals := 0 } : Room) s m #[(.ref wENTITY), (.int v1)] below meth c s₁ [] 0 0 := Stand.of_body Bd
  have e0 : s₁.heap = h0 := by rw [← hh, Bd.state]; rfl
  have N0 := Fr.nil n0
  have pre0 : ∀ t, Steps p.tables e below (s₁.setTop (mkF m 0 #[.val (.ref wENTITY), .val (.int v1)] [])) t → Steps p.tables e below (s₁.setTop (entryFrame m #[(.ref wENTITY), (.int v1)] 2)) t := fun t k => castTop (own_ef_3_RI m wENTITY v1) k
  obtain ⟨T1, X1, e1, st1⟩ := getF X0 hx hZ hown (host := "") (Or.inl (hw _ (List.mem_of_getElem? (i := 16) rfl))) Via.refl e0 (G.2.2.2.2.1.ext O0.2) (g := (mkF m 2 #[.val (.ref wENTITY), .val (.int v1)] [(.ref wENTITY), (.int v1)])) rfl rfl (hb hby own_d3_2)
  obtain ⟨T2, X2, e2, st2⟩ := getF X1 hx hZ hown (host := "") (Or.inl (hw _ (List.mem_of_getElem? (i := 21) rfl))) Via.refl e1 (G.2.2.2.2.2.2.1.ext O0.2) (g := (mkF m 10 #[.val (.ref wENTITY), .val (.int v1)] [(.ref wENTITY), (.int v1)])) rfl rfl (hb hby own_d3_10)
  obtain ⟨fs, hr, hrun, hended, hW, hsame⟩ := X2.leave (v := some (.int (1 : Int32))) (fun h => by rw [Bd.returns] at h; cases h)
  refine ⟨_, _, pre0 _ ?_, hrun, hended, _, _, rfl, ?_, ⟨_, rfl⟩, hW, hsame.mono (by decide) (by decide)⟩
  · show Steps p.tables e below (s₁.setTop (mkF m 0 #[.val (.ref wENTITY), .val (.int v1)] [])) _
    refine XS.iloadN X0.here hx rfl (hb hby own_d3_0) rfl ?_
    show Steps p.tables e below (s₁.setTop (mkF m 1 #[.val (.ref wENTITY), .val (.int v1)] [(.int v1)])) _
    refine XS.aloadN X0.here hx rfl (hb hby own_d3_1) rfl rfl ?_
    show Steps p.tables e below (s₁.setTop (mkF m 2 #[.val (.ref wENTITY), .val (.int v1)] [(.ref wENTITY), (.int v1)])) _
    refine st1 _ ?_
    show Steps p.tables e below (T1.setTop (mkF m 5 #[.val (.ref wENTITY), .val (.int v1)] [(.int (65 : Int32)), (.int v1)])) _
    refine XS.icmpNo X1.here hx rfl (hb hby own_d3_5) rfl (flt (hp1 : ¬ (v1 < (65 : Int32)))).1 ?_
    show Steps p.tables e below (T1.setTop (mkF m 8 #[.val (.ref wENTITY), .val (.int v1)] [])) _
    refine XS.iloadN X1.here hx rfl (hb hby own_d3_8) rfl ?_
    show Steps p.tables e below (T1.setTop (mkF m 9 #[.val (.ref wENTITY), .val (.int v1)] [(.int v1)])) _
    refine XS.aloadN X1.here hx rfl (hb hby own_d3_9) rfl rfl ?_
    show Steps p.tables e below (T1.setTop (mkF m 10 #[.val (.ref wENTITY), .val (.int v1)] [(.ref wENTITY), (.int v1)])) _
    refine st2 _ ?_
    show Steps p.tables e below (T2.setTop (mkF m 13 #[.val (.ref wENTITY), .val (.int v1)] [(.int (90 : Int32)), (.int v1)])) _
    refine XS.icmpNo X2.here hx rfl (hb hby own_d3_13) rfl (flt (hp2 : ¬ ((90 : Int32) < v1))).2.2.1 ?_
    show Steps p.tables e below (T2.setTop (mkF m 16 #[.val (.ref wENTITY), .val (.int v1)] [])) _
    refine XS.iconst X2.here hx rfl (hb hby own_d3_16) ?_
    show Steps p.tables e below (T2.setTop (mkF m 17 #[.val (.ref wENTITY), .val (.int v1)] [(.int (1 : Int32))])) _
    refine XS.goto X2.here hx rfl (pc0 := 17) (pc' := 21) rfl (hb hby own_d3_17) (by decide) (by decide) ?_
    show Steps p.tables e below (T2.setTop (mkF m 21 #[.val (.ref wENTITY), .val (.int v1)] [(.int (1 : Int32))])) _
    exact retN X2 hx (t := .boolean) Bd.returns (by simp) (hb hby own_d3_21) hr
  · show OwnQ _ h0 n0 _ T2.heap _
    exact ⟨rfl, N0, e2⟩
set_option maxRecDepth 65536 in
set_option maxHeartbeats 40000000 in
theorem own_isStart_15 (l : Launch) (Z : State) (a0 : Array Value) (hw : ∀ d ∈ tables_1, d.before a0 Z = true) (ws : List Jvm.Cond) (wENTITY : Addr) (wROLE_NAME : Addr) (G : OwnG Z wENTITY wROLE_NAME) (h0 : Heap) (n0 : Nat) (O0 : Old Z n0 h0) (v1 : Int32) (hp1 : ¬ (v1 < (65 : Int32))) (hp2 : ¬ ((90 : Int32) < v1)) (hp3 : v1 < (97 : Int32)) (hp4 : ¬ ((122 : Int32) < v1)) (hp5 : ¬ (v1 < (48 : Int32))) (hp6 : (57 : Int32) < v1) (hp7 : ¬ (v1 = (95 : Int32))) (hp8 : ¬ ((v1 ||| (32 : Int32)) < (97 : Int32))) (hp9 : ¬ ((122 : Int32) < (v1 ||| (32 : Int32)))) (hp10 : ¬ ((lcmpW ((v1.toInt64) - (48 : Int64)) (0 : Int64)) < (0 : Int32))) (hp11 : ¬ ((lcmpW ((v1.toInt64) - (48 : Int64)) (10 : Int64)) < (0 : Int32))) :
    MetFree l (⟨"com/example/credlib/credlib/policy/NameRule", "isStart", "(I)Z"⟩ : MethodName) (head1 (Jvm.Cond.code (⟨"com/example/credlib/credlib/policy/NameRule", "isStart", "(I)Z"⟩ : MethodName) prog_30_method_6_code 2 (some .boolean) :: ws) ({ frames := 0, cells := 0, slots := 0, locals := 0 } : Room)) (fun a U => a = #[(.ref wROLE_NAME), (.int v1)] ∧ Z.Warmed39 U.vm ∧ U.heap = h0) (fun _ _ _ _ _ => True) (fun _ U o U' => ∃ v L, o = .returned v ∧ OwnQ (some (.int (0 : Int32))) h0 n0 v U'.heap L ∧ FrameEnd U o U' L ({ frames := 0, cells := 0, slots := 0, locals := 0 } : Room).cells ({ frames := 0, cells := 0, slots := 0, locals := 0 } : Room).slots) := by
  refine MetFree.of_bodySF (plainFor_of_name own_pn_1) hisR ?_
  intro p e s m args below meth c s₁ Bd hml0 hP hK
  obtain ⟨rfl, hZ, hh⟩ := hP
  have hx := Bd.exec
  have hby := Bd.bytes
  have hml : c.maxLocals = 2 := hml0
  have hown : s.vm.findClass "com/example/credlib/credlib/policy/NameRule" = some m.cls := findClass_of_methodNamed Bd.named
  have hnm := (name_of_methodNamed Bd.named Bd.method).1
  have X0 : Stand p l e ({ frames := 0, cells := 0, slots := 0, locals := 0 } : Room) s m #[(.ref wROLE_NAME), (.int v1)] below meth c s₁ [] 0 0 := Stand.of_body Bd
  have e0 : s₁.heap = h0 := by rw [← hh, Bd.state]; rfl
  have N0 := Fr.nil n0
  have pre0 : ∀ t, Steps p.tables e below (s₁.setTop (mkF m 0 #[.val (.ref wROLE_NAME), .val (.int v1)] [])) t → Steps p.tables e below (s₁.setTop (entryFrame m #[(.ref wROLE_NAME), (.int v1)] 2)) t := fun t k => castTop (own_ef_3_RI m wROLE_NAME v1) k
  obtain ⟨T1, X1, e1, st1⟩ := getF X0 hx hZ hown (host := "") (Or.inl (hw _ (List.mem_of_getElem? (i := 16) rfl))) Via.refl e0 (G.2.2.2.2.2.1.ext O0.2) (g := (mkF m 2 #[.val (.ref wROLE_NAME), .val (.int v1)] [(.ref wROLE_NAME), (.int v1)])) rfl rfl (hb hby own_d3_2)
  obtain ⟨fs, hr, hrun, hended, hW, hsame⟩ := X1.leave (v := some (.int (0 : Int32))) (fun h => by rw [Bd.returns] at h; cases h)
  refine ⟨_, _, pre0 _ ?_, hrun, hended, _, _, rfl, ?_, ⟨_, rfl⟩, hW, hsame.mono (by decide) (by decide)⟩
  · show Steps p.tables e below (s₁.setTop (mkF m 0 #[.val (.ref wROLE_NAME), .val (.int v1)] [])) _
    refine XS.iloadN X0.here hx rfl (hb hby own_d3_0) rfl ?_
    show Steps p.tables e below (s₁.setTop (mkF m 1 #[.val (.ref wROLE_NAME), .val (.int v1)] [(.int v1)])) _
    refine XS.aloadN X0.here hx rfl (hb hby own_d3_1) rfl rfl ?_
    show Steps p.tables e below (s₁.setTop (mkF m 2 #[.val (.ref wROLE_NAME), .val (.int v1)] [(.ref wROLE_NAME), (.int v1)])) _
    refine st1 _ ?_
    show Steps p.tables e below (T1.setTop (mkF m 5 #[.val (.ref wROLE_NAME), .val (.int v1)] [(.int (97 : Int32)), (.int v1)])) _
    refine XS.icmpYes X1.here hx rfl (pc0 := 5) (pc' := 20) rfl (hb hby own_d3_5) rfl (tlt (hp3 : v1 < (97 : Int32))).1 (by decide) (by decide) ?_
    show Steps p.tables e below (T1.setTop (mkF m 20 #[.val (.ref wROLE_NAME), .val (.int v1)] [])) _
    refine XS.iconst X1.here hx rfl (hb hby own_d3_20) ?_
    show Steps p.tables e below (T1.setTop (mkF m 21 #[.val (.ref wROLE_NAME), .val (.int v1)] [(.int (0 : Int32))])) _
    exact retN X1 hx (t := .boolean) Bd.returns (by simp) (hb hby own_d3_21) hr
  · show OwnQ _ h0 n0 _ T1.heap _
    exact ⟨rfl, N0, e1⟩
set_option maxRecDepth 65536 in
set_option maxHeartbeats 40000000 in
theorem own_law_03 (l : Launch) (Z : State) (a0 : Array Value) (hw : ∀ d ∈ tables_1, d.before a0 Z = true) (ws : List Jvm.Cond) (wENTITY : Addr) (wROLE_NAME : Addr) (G : OwnG Z wENTITY wROLE_NAME) (h0 : Heap) (n0 : Nat) (O0 : Old Z n0 h0) (p1 : Int32) (p2 : Int32) (he : (p2 &&& (1 : Int32)) = (0 : Int32)) (aa0 : ¬ ((p1 &&& (255 : Int32)) < (65 : Int32))) (aa1 : ¬ ((90 : Int32) < (p1 &&& (255 : Int32)))) (aa2 : (p1 &&& (255 : Int32)) < (97 : Int32)) (aa3 : ¬ ((122 : Int32) < (p1 &&& (255 : Int32)))) (aa4 : ¬ ((p1 &&& (255 : Int32)) < (48 : Int32))) (aa5 : (57 : Int32) < (p1 &&& (255 : Int32))) (aa6 : ¬ ((p1 &&& (255 : Int32)) = (95 : Int32))) (aa7 : ¬ (((p1 &&& (255 : Int32)) ||| (32 : Int32)) < (97 : Int32))) (aa8 : ¬ ((122 : Int32) < ((p1 &&& (255 : Int32)) ||| (32 : Int32)))) (aa9 : ¬ ((lcmpW (((p1 &&& (255 : Int32)).toInt64) - (48 : Int64)) (0 : Int64)) < (0 : Int32))) (aa10 : ¬ ((lcmpW (((p1 &&& (255 : Int32)).toInt64) - (48 : Int64)) (10 : Int64)) < (0 : Int32))) :
    MetFree l x (head1 (Jvm.Cond.code x code maxLocals ret :: ws) room_1) (fun a U => a = #[(.int p1), (.int p2)] ∧ Z.Warmed39 U.vm ∧ U.heap = h0) (fun _ _ _ _ _ => True) (fun _ U o U' => ∃ v L, o = .returned v ∧ (v = some (.int 1) ∧ Fr n0 L) ∧ FrameEnd U o U' L room_1.cells room_1.slots) := by
  refine MetFree.of_bodySF (plainFor_of_name own_pn_0) hisR ?_
  intro p e s m args below meth c s₁ Bd hml0 hP hK
  obtain ⟨rfl, hZ, hh⟩ := hP
  have hx := Bd.exec
  have hby := Bd.bytes
  have hml : c.maxLocals = 4 := hml0
  have hown : s.vm.findClass "com/example/credlib/credlib/policy/NameRuleIsPartPinLaw" = some m.cls := findClass_of_methodNamed Bd.named
  have hnm := (name_of_methodNamed Bd.named Bd.method).1
  have X0 : Stand p l e room_1 s m #[(.int p1), (.int p2)] below meth c s₁ [] 0 0 := Stand.of_body Bd
  have e0 : s₁.heap = h0 := by rw [← hh, Bd.state]; rfl
  have N0 := Fr.nil n0
  have pre0 : ∀ t, Steps p.tables e below (s₁.setTop (mkF m 0 #[.val (.int p1), .val (.int p2), .unset, .unset] [])) t → Steps p.tables e below (s₁.setTop (entryFrame m #[(.int p1), (.int p2)] maxLocals)) t := fun t k => castTop (own_ef_0_II m p1 p2) k
  obtain ⟨_, _, ⟨T1, L1, k1, n1⟩, -, X1, ⟨Lc1, hQ1, l1, y1, z1⟩, st1⟩ := Jvm.LawKit.callS X0 hx (y := (⟨"com/example/credlib/credlib/policy/NameRule", "isPart", "(I)Z"⟩ : MethodName)) hown (mvT hZ (hw _ (List.mem_of_getElem? (i := 0) rfl))) (mvT hZ (hw _ (List.mem_of_getElem? (i := 1) rfl))) (mvT hZ (hw _ (List.mem_of_getElem? (i := 2) rfl))) (mvT hZ (hw _ (List.mem_of_getElem? (i := 3) rfl))) (by decide) (backOf (W := 0) (own_isPart_12 l Z a0 hw [] wENTITY wROLE_NAME G h0 n0 O0 (p1 &&& (255 : Int32)) aa0 aa1 aa2 aa3 aa4 aa5 aa6 aa7 aa8 aa9 aa10) hZ (hw _ (List.mem_of_getElem? (i := 3) rfl)) (hw _ (List.mem_of_getElem? (i := 2) rfl)) (by decide) (by decide)) (g := (mkF m 17 #[.val (.int p1), .val (.int p2), .val (.int (p1 &&& (255 : Int32))), .unset] [(.int (p1 &&& (255 : Int32)))])) rfl (by rw [hml]; rfl) (argsL := [(.int (p1 &&& (255 : Int32)))]) (rest := []) (lenOf own_pd_0 rfl) rfl (by show 2 * 0 + _ ≤ _; exact Nat.le_of_eq rfl) (hb hby at_17) (fun _ _ => ⟨rfl, e0, (by decide : 0 + 0 ≤ _), (by decide : 0 + 0 ≤ _)⟩)
  dsimp only [Pt.U, Pt.locs, Pt.cells, Pt.slots] at X1 l1 y1 z1 st1 hQ1
  subst l1 y1 z1
  obtain ⟨rfl, N1q, e1⟩ := hQ1
  have N1 := Fr.app N0 N1q
  obtain ⟨_, _, ⟨T2, L2, k2, n2⟩, -, X2, ⟨Lc2, hQ2, l2, y2, z2⟩, st2⟩ := Jvm.LawKit.callS X1 hx (y := (⟨"com/example/credlib/credlib/policy/NameRuleIsPartPinLaw", "expected", "(I)Z"⟩ : MethodName)) hown (mvT hZ (hw _ (List.mem_of_getElem? (i := 4) rfl))) (mvT hZ (hw _ (List.mem_of_getElem? (i := 5) rfl))) (mvT hZ (hw _ (List.mem_of_getElem? (i := 6) rfl))) (mvT hZ (hw _ (List.mem_of_getElem? (i := 7) rfl))) (by decide) (backOf (W := 1) (own_expected_13 l Z a0 hw [] wENTITY wROLE_NAME G h0 n0 O0 (p1 &&& (255 : Int32)) aa0 aa1 aa2 aa3 aa4 aa5 aa6 aa7 aa8 aa9 aa10) hZ (hw _ (List.mem_of_getElem? (i := 7) rfl)) (hw _ (List.mem_of_getElem? (i := 6) rfl)) (by decide) (by decide)) (g := (mkF m 23 #[.val (.int p1), .val (.int p2), .val (.int (p1 &&& (255 : Int32))), .val (.int (1 : Int32))] [(.int (p1 &&& (255 : Int32))), (.int (1 : Int32))])) rfl (by rw [hml]; rfl) (argsL := [(.int (p1 &&& (255 : Int32)))]) (rest := [(.int (1 : Int32))]) (lenOf own_pd_0 rfl) rfl (by show 2 * 0 + _ ≤ _; exact Nat.le_of_eq rfl) (hb hby at_23) (fun _ _ => ⟨rfl, e1, (by decide : 0 + 0 ≤ _), (by decide : 0 + 0 ≤ _)⟩)
  dsimp only [Pt.U, Pt.locs, Pt.cells, Pt.slots] at X2 l2 y2 z2 st2 hQ2
  subst l2 y2 z2
  obtain ⟨rfl, N2q, e2⟩ := hQ2
  have N2 := Fr.app N1 N2q
  obtain ⟨T3, X3, e3, st3⟩ := getS2 X2 hx hZ hown (host := "") (Or.inl (hw _ (List.mem_of_getElem? (i := 9) rfl))) Via.refl e2 (G.1.ext O0.2) (g := (mkF m 31 #[.val (.int p1), .val (.int p2), .val (.int (p1 &&& (255 : Int32))), .val (.int (1 : Int32))] [])) rfl (hb hby at_31)
  obtain ⟨cq4, kq4, q4a, q4b, q4c⟩ := isOf hZ e3 (G.2.1.ext O0.2)
  obtain ⟨_, _, ⟨T4, L4, k4, n4⟩, -, X4, ⟨Lc4, hQ4, l4, y4, z4⟩, st4⟩ := X3.virtualBack hx (y := (⟨"com/example/credlib/credlib/policy/NameRule", "isStart", "(I)Z"⟩ : MethodName)) (z := (⟨"com/example/credlib/credlib/policy/NameRule", "isStart", "(I)Z"⟩ : MethodName)) hown (mvT hZ (hw _ (List.mem_of_getElem? (i := 11) rfl))) (mvT hZ (hw _ (List.mem_of_getElem? (i := 12) rfl))) (notFace_of_selects (args := #[]) (mvT hZ (hw _ (List.mem_of_getElem? (i := 14) rfl)))) (mvT hZ (hw _ (List.mem_of_getElem? (i := 14) rfl))) (mvT hZ (hw _ (List.mem_of_getElem? (i := 13) rfl))) (by decide) (backOf (W := 0) (own_isStart_14 l Z a0 hw [] wENTITY wROLE_NAME G h0 n0 O0 (p1 &&& (255 : Int32)) aa0 aa1 aa2 aa3 aa4 aa5 aa6 aa7 aa8 aa9 aa10) hZ (hw _ (List.mem_of_getElem? (i := 15) rfl)) (hw _ (List.mem_of_getElem? (i := 2) rfl)) (by decide) (by decide)) q4a q4c (g := (mkF m 35 #[.val (.int p1), .val (.int p2), .val (.int (p1 &&& (255 : Int32))), .val (.int (1 : Int32))] [(.int (p1 &&& (255 : Int32))), (.ref wENTITY)])) rfl (by rw [hml]; rfl) (Steps.refl _) (argsL := [(.int (p1 &&& (255 : Int32)))]) (rest := []) (lenOf own_pd_0 rfl) rfl (by show 2 * 0 + _ ≤ _; exact Nat.le_of_eq rfl) (hb hby at_35) (fun _ _ => ⟨rfl, e3, (by decide : 0 + 0 ≤ _), (by decide : 0 + 0 ≤ _)⟩)
  dsimp only [Pt.U, Pt.locs, Pt.cells, Pt.slots] at X4 l4 y4 z4 st4 hQ4
  subst l4 y4 z4
  obtain ⟨rfl, N4q, e4⟩ := hQ4
  have N4 := Fr.app N2 N4q
  obtain ⟨T5, X5, e5, st5⟩ := getS2 X4 hx hZ hown (host := "") (Or.inl (hw _ (List.mem_of_getElem? (i := 18) rfl))) Via.refl e4 (G.2.2.1.ext O0.2) (g := (mkF m 47 #[.val (.int p1), .val (.int p2), .val (.int (p1 &&& (255 : Int32))), .val (.int (1 : Int32))] [])) rfl (hb hby at_47)
  obtain ⟨cq6, kq6, q6a, q6b, q6c⟩ := isOf hZ e5 (G.2.2.2.1.ext O0.2)
  obtain ⟨_, _, ⟨T6, L6, k6, n6⟩, -, X6, ⟨Lc6, hQ6, l6, y6, z6⟩, st6⟩ := X5.virtualBack hx (y := (⟨"com/example/credlib/credlib/policy/NameRule", "isStart", "(I)Z"⟩ : MethodName)) (z := (⟨"com/example/credlib/credlib/policy/NameRule", "isStart", "(I)Z"⟩ : MethodName)) hown (mvT hZ (hw _ (List.mem_of_getElem? (i := 11) rfl))) (mvT hZ (hw _ (List.mem_of_getElem? (i := 12) rfl))) (notFace_of_selects (args := #[]) (mvT hZ (hw _ (List.mem_of_getElem? (i := 14) rfl)))) (mvT hZ (hw _ (List.mem_of_getElem? (i := 14) rfl))) (mvT hZ (hw _ (List.mem_of_getElem? (i := 13) rfl))) (by decide) (backOf (W := 0) (own_isStart_15 l Z a0 hw [] wENTITY wROLE_NAME G h0 n0 O0 (p1 &&& (255 : Int32)) aa0 aa1 aa2 aa3 aa4 aa5 aa6 aa7 aa8 aa9 aa10) hZ (hw _ (List.mem_of_getElem? (i := 15) rfl)) (hw _ (List.mem_of_getElem? (i := 2) rfl)) (by decide) (by decide)) q6a q6c (g := (mkF m 51 #[.val (.int p1), .val (.int p2), .val (.int (p1 &&& (255 : Int32))), .val (.int (1 : Int32))] [(.int (p1 &&& (255 : Int32))), (.ref wROLE_NAME)])) rfl (by rw [hml]; rfl) (Steps.refl _) (argsL := [(.int (p1 &&& (255 : Int32)))]) (rest := []) (lenOf own_pd_0 rfl) rfl (by show 2 * 0 + _ ≤ _; exact Nat.le_of_eq rfl) (hb hby at_51) (fun _ _ => ⟨rfl, e5, (by decide : 0 + 0 ≤ _), (by decide : 0 + 0 ≤ _)⟩)
  dsimp only [Pt.U, Pt.locs, Pt.cells, Pt.slots] at X6 l6 y6 z6 st6 hQ6
  subst l6 y6 z6
  obtain ⟨rfl, N6q, e6⟩ := hQ6
  have N6 := Fr.app N4 N6q
  obtain ⟨fs, hr, hrun, hended, hW, hsame⟩ := X6.leave (v := some (.int (1 : Int32))) (fun h => by rw [Bd.returns] at h; cases h)
  refine ⟨_, _, pre0 _ ?_, hrun, hended, _, _, rfl, ?_, ⟨_, rfl⟩, hW, hsame.mono (by decide) (by decide)⟩
  · show Steps p.tables e below (s₁.setTop (mkF m 0 #[.val (.int p1), .val (.int p2), .unset, .unset] [])) _
    refine XS.iloadN X0.here hx rfl (hb hby at_0) rfl ?_
    show Steps p.tables e below (s₁.setTop (mkF m 1 #[.val (.int p1), .val (.int p2), .unset, .unset] [(.int p2)])) _
    refine XS.iconst X0.here hx rfl (hb hby at_1) ?_
    show Steps p.tables e below (s₁.setTop (mkF m 2 #[.val (.int p1), .val (.int p2), .unset, .unset] [(.int (1 : Int32)), (.int p2)])) _
    refine XS.iand X0.here hx rfl (hb hby at_2) rfl ?_
    show Steps p.tables e below (s₁.setTop (mkF m 3 #[.val (.int p1), .val (.int p2), .unset, .unset] [(.int (p2 &&& (1 : Int32)))])) _
    refine XS.ifYes X0.here hx rfl (pc0 := 3) (pc' := 10) rfl (hb hby at_3) rfl ((if0 _ _).trans (teq (he : (p2 &&& (1 : Int32)) = (0 : Int32))).1) (by decide) (by decide) ?_
    show Steps p.tables e below (s₁.setTop (mkF m 10 #[.val (.int p1), .val (.int p2), .unset, .unset] [])) _
    refine XS.iloadN X0.here hx rfl (hb hby at_10) rfl ?_
    show Steps p.tables e below (s₁.setTop (mkF m 11 #[.val (.int p1), .val (.int p2), .unset, .unset] [(.int p1)])) _
    refine XS.sipush X0.here hx rfl (hb hby at_11) ?_
    show Steps p.tables e below (s₁.setTop (mkF m 14 #[.val (.int p1), .val (.int p2), .unset, .unset] [(.int (255 : Int32)), (.int p1)])) _
    refine XS.iand X0.here hx rfl (hb hby at_14) rfl ?_
    show Steps p.tables e below (s₁.setTop (mkF m 15 #[.val (.int p1), .val (.int p2), .unset, .unset] [(.int (p1 &&& (255 : Int32)))])) _
    refine XS.istoreN X0.here hx rfl (hb hby at_15) rfl (l' := #[.val (.int p1), .val (.int p2), .val (.int (p1 &&& (255 : Int32))), .unset]) rfl ?_
    show Steps p.tables e below (s₁.setTop (mkF m 16 #[.val (.int p1), .val (.int p2), .val (.int (p1 &&& (255 : Int32))), .unset] [])) _
    refine XS.iloadN X0.here hx rfl (hb hby at_16) rfl ?_
    show Steps p.tables e below (s₁.setTop (mkF m 17 #[.val (.int p1), .val (.int p2), .val (.int (p1 &&& (255 : Int32))), .unset] [(.int (p1 &&& (255 : Int32)))])) _
    refine st1 _ ?_
    show Steps p.tables e below (T1.setTop (mkF m 20 #[.val (.int p1), .val (.int p2), .val (.int (p1 &&& (255 : Int32))), .unset] [(.int (1 : Int32))])) _
    refine XS.istoreN X1.here hx rfl (hb hby at_20) rfl (l' := #[.val (.int p1), .val (.int p2), .val (.int (p1 &&& (255 : Int32))), .val (.int (1 : Int32))]) rfl ?_
    show Steps p.tables e below (T1.setTop (mkF m 21 #[.val (.int p1), .val (.int p2), .val (.int (p1 &&& (255 : Int32))), .val (.int (1 : Int32))] [])) _
    refine XS.iloadN X1.here hx rfl (hb hby at_21) rfl ?_
    show Steps p.tables e below (T1.setTop (mkF m 22 #[.val (.int p1), .val (.int p2), .val (.int (p1 &&& (255 : Int32))), .val (.int (1 : Int32))] [(.int (1 : Int32))])) _
    refine XS.iloadN X1.here hx rfl (hb hby at_22) rfl ?_
    show Steps p.tables e below (T1.setTop (mkF m 23 #[.val (.int p1), .val (.int p2), .val (.int (p1 &&& (255 : Int32))), .val (.int (1 : Int32))] [(.int (p1 &&& (255 : Int32))), (.int (1 : Int32))])) _
    refine st2 _ ?_
    show Steps p.tables e below (T2.setTop (mkF m 26 #[.val (.int p1), .val (.int p2), .val (.int (p1 &&& (255 : Int32))), .val (.int (1 : Int32))] [(.int (1 : Int32)), (.int (1 : Int32))])) _
    refine XS.icmpYes X2.here hx rfl (pc0 := 26) (pc' := 31) rfl (hb hby at_26) rfl (by decide) (by decide) (by decide) ?_
    show Steps p.tables e below (T2.setTop (mkF m 31 #[.val (.int p1), .val (.int p2), .val (.int (p1 &&& (255 : Int32))), .val (.int (1 : Int32))] [])) _
    refine st3 _ ?_
    show Steps p.tables e below (T3.setTop (mkF m 34 #[.val (.int p1), .val (.int p2), .val (.int (p1 &&& (255 : Int32))), .val (.int (1 : Int32))] [(.ref wENTITY)])) _
    refine XS.iloadN X3.here hx rfl (hb hby at_34) rfl ?_
    show Steps p.tables e below (T3.setTop (mkF m 35 #[.val (.int p1), .val (.int p2), .val (.int (p1 &&& (255 : Int32))), .val (.int (1 : Int32))] [(.int (p1 &&& (255 : Int32))), (.ref wENTITY)])) _
    refine st4.trans ?_
    show Steps p.tables e below (T4.setTop (mkF m 38 #[.val (.int p1), .val (.int p2), .val (.int (p1 &&& (255 : Int32))), .val (.int (1 : Int32))] [(.int (1 : Int32))])) _
    refine XS.ifNo X4.here hx rfl (hb hby at_38) rfl (by decide) ?_
    show Steps p.tables e below (T4.setTop (mkF m 41 #[.val (.int p1), .val (.int p2), .val (.int (p1 &&& (255 : Int32))), .val (.int (1 : Int32))] [])) _
    refine XS.iloadN X4.here hx rfl (hb hby at_41) rfl ?_
    show Steps p.tables e below (T4.setTop (mkF m 42 #[.val (.int p1), .val (.int p2), .val (.int (p1 &&& (255 : Int32))), .val (.int (1 : Int32))] [(.int (1 : Int32))])) _
    refine XS.ifYes X4.here hx rfl (pc0 := 42) (pc' := 47) rfl (hb hby at_42) rfl (by decide) (by decide) (by decide) ?_
    show Steps p.tables e below (T4.setTop (mkF m 47 #[.val (.int p1), .val (.int p2), .val (.int (p1 &&& (255 : Int32))), .val (.int (1 : Int32))] [])) _
    refine st5 _ ?_
    show Steps p.tables e below (T5.setTop (mkF m 50 #[.val (.int p1), .val (.int p2), .val (.int (p1 &&& (255 : Int32))), .val (.int (1 : Int32))] [(.ref wROLE_NAME)])) _
    refine XS.iloadN X5.here hx rfl (hb hby at_50) rfl ?_
    show Steps p.tables e below (T5.setTop (mkF m 51 #[.val (.int p1), .val (.int p2), .val (.int (p1 &&& (255 : Int32))), .val (.int (1 : Int32))] [(.int (p1 &&& (255 : Int32))), (.ref wROLE_NAME)])) _
    refine st6.trans ?_
    show Steps p.tables e below (T6.setTop (mkF m 54 #[.val (.int p1), .val (.int p2), .val (.int (p1 &&& (255 : Int32))), .val (.int (1 : Int32))] [(.int (0 : Int32))])) _
    refine XS.ifYes X6.here hx rfl (pc0 := 54) (pc' := 63) rfl (hb hby at_54) rfl (by decide) (by decide) (by decide) ?_
    show Steps p.tables e below (T6.setTop (mkF m 63 #[.val (.int p1), .val (.int p2), .val (.int (p1 &&& (255 : Int32))), .val (.int (1 : Int32))] [])) _
    refine XS.iconst X6.here hx rfl (hb hby at_63) ?_
    show Steps p.tables e below (T6.setTop (mkF m 64 #[.val (.int p1), .val (.int p2), .val (.int (p1 &&& (255 : Int32))), .val (.int (1 : Int32))] [(.int (1 : Int32))])) _
    exact retN X6 hx (t := .boolean) Bd.returns (by simp) (hb hby at_64) hr
  · exact ⟨rfl, N6⟩
set_option maxRecDepth 65536 in
set_option maxHeartbeats 40000000 in
theorem own_isPart_16 (l : Launch) (Z : State) (a0 : Array Value) (hw : ∀ d ∈ tables_1, d.before a0 Z = true) (ws : List Jvm.Cond) (wENTITY : Addr) (wROLE_NAME : Addr) (G : OwnG Z wENTITY wROLE_NAME) (h0 : Heap) (n0 : Nat) (O0 : Old Z n0 h0) (v1 : Int32) (hp1 : ¬ (v1 < (65 : Int32))) (hp2 : (90 : Int32) < v1) (hp3 : v1 < (97 : Int32)) (hp4 : ¬ ((122 : Int32) < v1)) (hp5 : ¬ (v1 < (48 : Int32))) (hp6 : (57 : Int32) < v1) (hp7 : ¬ (v1 = (95 : Int32))) (hp8 : ¬ ((v1 ||| (32 : Int32)) < (97 : Int32))) (hp9 : (122 : Int32) < (v1 ||| (32 : Int32))) (hp10 : ¬ ((lcmpW ((v1.toInt64) - (48 : Int64)) (0 : Int64)) < (0 : Int32))) (hp11 : ¬ ((lcmpW ((v1.toInt64) - (48 : Int64)) (10 : Int64)) < (0 : Int32))) :
    MetFree l (⟨"com/example/credlib/credlib/policy/NameRule", "isPart", "(I)Z"⟩ : MethodName) (head1 (Jvm.Cond.code (⟨"com/example/credlib/credlib/policy/NameRule", "isPart", "(I)Z"⟩ : MethodName) prog_30_method_7_code 1 (some .boolean) :: ws) ({ frames := 0, cells := 0, slots := 0, locals := 0 } : Room)) (fun a U => a = #[(.int v1)] ∧ Z.Warmed39 U.vm ∧ U.heap = h0) (fun _ _ _ _ _ => True) (fun _ U o U' => ∃ v L, o = .returned v ∧ OwnQ (some (.int (0 : Int32))) h0 n0 v U'.heap L ∧ FrameEnd U o U' L ({ frames := 0, cells := 0, slots := 0, locals := 0 } : Room).cells ({ frames := 0, cells := 0, slots := 0, locals := 0 } : Room).slots) := by
  refine MetFree.of_bodySF (plainFor_of_name own_pn_1) hisR ?_
  intro p e s m args below meth c s₁ Bd hml0 hP hK
  obtain ⟨rfl, hZ, hh⟩ := hP
  have hx := Bd.exec
  have hby := Bd.bytes
  have hml : c.maxLocals = 1 := hml0
  have hown : s.vm.findClass "com/example/credlib/credlib/policy/NameRule" = some m.cls := findClass_of_methodNamed Bd.named
  have hnm := (name_of_methodNamed Bd.named Bd.method).1
  have X0 : Stand p l e ({ frames := 0, cells := 0, slots := 0, locals := 0 } : Room) s m #[(.int v1)] below meth c s₁ [] 0 0 := Stand.of_body Bd
  have e0 : s₁.heap = h0 := by rw [← hh, Bd.state]; rfl
  have N0 := Fr.nil n0
  have pre0 : ∀ t, Steps p.tables e below (s₁.setTop (mkF m 0 #[.val (.int v1)] [])) t → Steps p.tables e below (s₁.setTop (entryFrame m #[(.int v1)] 1)) t := fun t k => castTop (own_ef_1_I m v1) k
  obtain ⟨fs, hr, hrun, hended, hW, hsame⟩ := X0.leave (v := some (.int (0 : Int32))) (fun h => by rw [Bd.returns] at h; cases h)
  refine ⟨_, _, pre0 _ ?_, hrun, hended, _, _, rfl, ?_, ⟨_, rfl⟩, hW, hsame.mono (by decide) (by decide)⟩
  · show Steps p.tables e below (s₁.setTop (mkF m 0 #[.val (.int v1)] [])) _
    refine XS.iloadN X0.here hx rfl (hb hby own_d1_0) rfl ?_
    show Steps p.tables e below (s₁.setTop (mkF m 1 #[.val (.int v1)] [(.int v1)])) _
    refine XS.bipush X0.here hx rfl (hb hby own_d1_1) ?_
    show Steps p.tables e below (s₁.setTop (mkF m 3 #[.val (.int v1)] [(.int (65 : Int32)), (.int v1)])) _
    refine XS.icmpNo X0.here hx rfl (hb hby own_d1_3) rfl (flt (hp1 : ¬ (v1 < (65 : Int32)))).1 ?_
    show Steps p.tables e below (s₁.setTop (mkF m 6 #[.val (.int v1)] [])) _
    refine XS.iloadN X0.here hx rfl (hb hby own_d1_6) rfl ?_
    show Steps p.tables e below (s₁.setTop (mkF m 7 #[.val (.int v1)] [(.int v1)])) _
    refine XS.bipush X0.here hx rfl (hb hby own_d1_7) ?_
    show Steps p.tables e below (s₁.setTop (mkF m 9 #[.val (.int v1)] [(.int (90 : Int32)), (.int v1)])) _
    refine XS.icmpNo X0.here hx rfl (hb hby own_d1_9) rfl (tlt (hp2 : (90 : Int32) < v1)).2.2.2 ?_
    show Steps p.tables e below (s₁.setTop (mkF m 12 #[.val (.int v1)] [])) _
    refine XS.iloadN X0.here hx rfl (hb hby own_d1_12) rfl ?_
    show Steps p.tables e below (s₁.setTop (mkF m 13 #[.val (.int v1)] [(.int v1)])) _
    refine XS.bipush X0.here hx rfl (hb hby own_d1_13) ?_
    show Steps p.tables e below (s₁.setTop (mkF m 15 #[.val (.int v1)] [(.int (97 : Int32)), (.int v1)])) _
    refine XS.icmpYes X0.here hx rfl (pc0 := 15) (pc' := 24) rfl (hb hby own_d1_15) rfl (tlt (hp3 : v1 < (97 : Int32))).1 (by decide) (by decide) ?_
    show Steps p.tables e below (s₁.setTop (mkF m 24 #[.val (.int v1)] [])) _
    refine XS.iloadN X0.here hx rfl (hb hby own_d1_24) rfl ?_
    show Steps p.tables e below (s₁.setTop (mkF m 25 #[.val (.int v1)] [(.int v1)])) _
    refine XS.bipush X0.here hx rfl (hb hby own_d1_25) ?_
    show Steps p.tables e below (s₁.setTop (mkF m 27 #[.val (.int v1)] [(.int (48 : Int32)), (.int v1)])) _
    refine XS.icmpNo X0.here hx rfl (hb hby own_d1_27) rfl (flt (hp5 : ¬ (v1 < (48 : Int32)))).1 ?_
    show Steps p.tables e below (s₁.setTop (mkF m 30 #[.val (.int v1)] [])) _
    refine XS.iloadN X0.here hx rfl (hb hby own_d1_30) rfl ?_
    show Steps p.tables e below (s₁.setTop (mkF m 31 #[.val (.int v1)] [(.int v1)])) _
    refine XS.bipush X0.here hx rfl (hb hby own_d1_31) ?_
    show Steps p.tables e below (s₁.setTop (mkF m 33 #[.val (.int v1)] [(.int (57 : Int32)), (.int v1)])) _
    refine XS.icmpNo X0.here hx rfl (hb hby own_d1_33) rfl (tlt (hp6 : (57 : Int32) < v1)).2.2.2 ?_
    show Steps p.tables e below (s₁.setTop (mkF m 36 #[.val (.int v1)] [])) _
    refine XS.iloadN X0.here hx rfl (hb hby own_d1_36) rfl ?_
    show Steps p.tables e below (s₁.setTop (mkF m 37 #[.val (.int v1)] [(.int v1)])) _
    refine XS.bipush X0.here hx rfl (hb hby own_d1_37) ?_
    show Steps p.tables e below (s₁.setTop (mkF m 39 #[.val (.int v1)] [(.int (95 : Int32)), (.int v1)])) _
    refine XS.icmpYes X0.here hx rfl (pc0 := 39) (pc' := 46) rfl (hb hby own_d1_39) rfl (feq (hp7 : ¬ (v1 = (95 : Int32)))).2 (by decide) (by decide) ?_
    show Steps p.tables e below (s₁.setTop (mkF m 46 #[.val (.int v1)] [])) _
    refine XS.iconst X0.here hx rfl (hb hby own_d1_46) ?_
    show Steps p.tables e below (s₁.setTop (mkF m 47 #[.val (.int v1)] [(.int (0 : Int32))])) _
    exact retN X0 hx (t := .boolean) Bd.returns (by simp) (hb hby own_d1_47) hr
  · show OwnQ _ h0 n0 _ s₁.heap _
    exact ⟨rfl, N0, e0⟩
set_option maxRecDepth 65536 in
set_option maxHeartbeats 40000000 in
theorem own_expected_17 (l : Launch) (Z : State) (a0 : Array Value) (hw : ∀ d ∈ tables_1, d.before a0 Z = true) (ws : List Jvm.Cond) (wENTITY : Addr) (wROLE_NAME : Addr) (G : OwnG Z wENTITY wROLE_NAME) (h0 : Heap) (n0 : Nat) (O0 : Old Z n0 h0) (v1 : Int32) (hp1 : ¬ (v1 < (65 : Int32))) (hp2 : (90 : Int32) < v1) (hp3 : v1 < (97 : Int32)) (hp4 : ¬ ((122 : Int32) < v1)) (hp5 : ¬ (v1 < (48 : Int32))) (hp6 : (57 : Int32) < v1) (hp7 : ¬ (v1 = (95 : Int32))) (hp8 : ¬ ((v1 ||| (32 : Int32)) < (97 : Int32))) (hp9 : (122 : Int32) < (v1 ||| (32 : Int32))) (hp10 : ¬ ((lcmpW ((v1.toInt64) - (48 : Int64)) (0 : Int64)) < (0 : Int32))) (hp11 : ¬ ((lcmpW ((v1.toInt64) - (48 : Int64)) (10 : Int64)) < (0 : Int32))) :
    MetFree l (⟨"com/example/credlib/credlib/policy/NameRuleIsPartPinLaw", "expected", "(I)Z"⟩ : MethodName) (head1 (Jvm.Cond.code (⟨"com/example/credlib/credlib/policy/NameRuleIsPartPinLaw", "expected", "(I)Z"⟩ : MethodName) method_2_code 7 (some .boolean) :: ws) ({ frames := 0, cells := 0, slots := 0, locals := 0 } : Room)) (fun a U => a = #[(.int v1)] ∧ Z.Warmed39 U.vm ∧ U.heap = h0) (fun _ _ _ _ _ => True) (fun _ U o U' => ∃ v L, o = .returned v ∧ OwnQ (some (.int (0 : Int32))) h0 n0 v U'.heap L ∧ FrameEnd U o U' L ({ frames := 0, cells := 0, slots := 0, locals := 0 } : Room).cells ({ frames := 0, cells := 0, slots := 0, locals := 0 } : Room).slots) := by
  refine MetFree.of_bodySF (plainFor_of_name own_pn_0) hisR ?_
  intro p e s m args below meth c s₁ Bd hml0 hP hK
  obtain ⟨rfl, hZ, hh⟩ := hP
  have hx := Bd.exec
  have hby := Bd.bytes
  have hml : c.maxLocals = 7 := hml0
  have hown : s.vm.findClass "com/example/credlib/credlib/policy/NameRuleIsPartPinLaw" = some m.cls := findClass_of_methodNamed Bd.named
  have hnm := (name_of_methodNamed Bd.named Bd.method).1
  have X0 : Stand p l e ({ frames := 0, cells := 0, slots := 0, locals := 0 } : Room) s m #[(.int v1)] below meth c s₁ [] 0 0 := Stand.of_body Bd
  have e0 : s₁.heap = h0 := by rw [← hh, Bd.state]; rfl
  have N0 := Fr.nil n0
  have pre0 : ∀ t, Steps p.tables e below (s₁.setTop (mkF m 0 #[.val (.int v1), .unset, .unset, .unset, .unset, .unset, .unset] [])) t → Steps p.tables e below (s₁.setTop (entryFrame m #[(.int v1)] 7)) t := fun t k => castTop (own_ef_2_I m v1) k
  obtain ⟨fs, hr, hrun, hended, hW, hsame⟩ := X0.leave (v := some (.int (0 : Int32))) (fun h => by rw [Bd.returns] at h; cases h)
  refine ⟨_, _, pre0 _ ?_, hrun, hended, _, _, rfl, ?_, ⟨_, rfl⟩, hW, hsame.mono (by decide) (by decide)⟩
  · show Steps p.tables e below (s₁.setTop (mkF m 0 #[.val (.int v1), .unset, .unset, .unset, .unset, .unset, .unset] [])) _
    refine XS.iloadN X0.here hx rfl (hb hby own_d2_0) rfl ?_
    show Steps p.tables e below (s₁.setTop (mkF m 1 #[.val (.int v1), .unset, .unset, .unset, .unset, .unset, .unset] [(.int v1)])) _
    refine XS.bipush X0.here hx rfl (hb hby own_d2_1) ?_
    show Steps p.tables e below (s₁.setTop (mkF m 3 #[.val (.int v1), .unset, .unset, .unset, .unset, .unset, .unset] [(.int (32 : Int32)), (.int v1)])) _
    refine XS.ior X0.here hx rfl (hb hby own_d2_3) rfl ?_
    show Steps p.tables e below (s₁.setTop (mkF m 4 #[.val (.int v1), .unset, .unset, .unset, .unset, .unset, .unset] [(.int (v1 ||| (32 : Int32)))])) _
    refine XS.istoreN X0.here hx rfl (hb hby own_d2_4) rfl (l' := #[.val (.int v1), .val (.int (v1 ||| (32 : Int32))), .unset, .unset, .unset, .unset, .unset]) rfl ?_
    show Steps p.tables e below (s₁.setTop (mkF m 5 #[.val (.int v1), .val (.int (v1 ||| (32 : Int32))), .unset, .unset, .unset, .unset, .unset] [])) _
    refine XS.iloadN X0.here hx rfl (hb hby own_d2_5) rfl ?_
    show Steps p.tables e below (s₁.setTop (mkF m 6 #[.val (.int v1), .val (.int (v1 ||| (32 : Int32))), .unset, .unset, .unset, .unset, .unset] [(.int (v1 ||| (32 : Int32)))])) _
    refine XS.bipush X0.here hx rfl (hb hby own_d2_6) ?_
    show Steps p.tables e below (s₁.setTop (mkF m 8 #[.val (.int v1), .val (.int (v1 ||| (32 : Int32))), .unset, .unset, .unset, .unset, .unset] [(.int (97 : Int32)), (.int (v1 ||| (32 : Int32)))])) _
    refine XS.icmpNo X0.here hx rfl (hb hby own_d2_8) rfl (flt (hp8 : ¬ ((v1 ||| (32 : Int32)) < (97 : Int32)))).1 ?_
    show Steps p.tables e below (s₁.setTop (mkF m 11 #[.val (.int v1), .val (.int (v1 ||| (32 : Int32))), .unset, .unset, .unset, .unset, .unset] [])) _
    refine XS.iloadN X0.here hx rfl (hb hby own_d2_11) rfl ?_
    show Steps p.tables e below (s₁.setTop (mkF m 12 #[.val (.int v1), .val (.int (v1 ||| (32 : Int32))), .unset, .unset, .unset, .unset, .unset] [(.int (v1 ||| (32 : Int32)))])) _
    refine XS.bipush X0.here hx rfl (hb hby own_d2_12) ?_
    show Steps p.tables e below (s₁.setTop (mkF m 14 #[.val (.int v1), .val (.int (v1 ||| (32 : Int32))), .unset, .unset, .unset, .unset, .unset] [(.int (122 : Int32)), (.int (v1 ||| (32 : Int32)))])) _
    refine XS.icmpYes X0.here hx rfl (pc0 := 14) (pc' := 21) rfl (hb hby own_d2_14) rfl (tlt (hp9 : (122 : Int32) < (v1 ||| (32 : Int32)))).2.2.1 (by decide) (by decide) ?_
    show Steps p.tables e below (s₁.setTop (mkF m 21 #[.val (.int v1), .val (.int (v1 ||| (32 : Int32))), .unset, .unset, .unset, .unset, .unset] [])) _
    refine XS.iconst X0.here hx rfl (hb hby own_d2_21) ?_
    show Steps p.tables e below (s₁.setTop (mkF m 22 #[.val (.int v1), .val (.int (v1 ||| (32 : Int32))), .unset, .unset, .unset, .unset, .unset] [(.int (0 : Int32))])) _
    refine XS.istoreN X0.here hx rfl (hb hby own_d2_22) rfl (l' := #[.val (.int v1), .val (.int (v1 ||| (32 : Int32))), .val (.int (0 : Int32)), .unset, .unset, .unset, .unset]) rfl ?_
    show Steps p.tables e below (s₁.setTop (mkF m 23 #[.val (.int v1), .val (.int (v1 ||| (32 : Int32))), .val (.int (0 : Int32)), .unset, .unset, .unset, .unset] [])) _
    refine XS.iloadN X0.here hx rfl (hb hby own_d2_23) rfl ?_
    show Steps p.tables e below (s₁.setTop (mkF m 24 #[.val (.int v1), .val (.int (v1 ||| (32 : Int32))), .val (.int (0 : Int32)), .unset, .unset, .unset, .unset] [(.int v1)])) _
    refine XS.i2l X0.here hx rfl (hb hby own_d2_24) rfl ?_
    show Steps p.tables e below (s₁.setTop (mkF m 25 #[.val (.int v1), .val (.int (v1 ||| (32 : Int32))), .val (.int (0 : Int32)), .unset, .unset, .unset, .unset] [(.long (v1.toInt64))])) _
    refine Jvm.Stand.ldc2J X0 hx hown (mvT hZ (hw _ (List.mem_of_getElem? (i := 8) rfl))) rfl (hb hby own_d2_25) ?_
    show Steps p.tables e below (s₁.setTop (mkF m 28 #[.val (.int v1), .val (.int (v1 ||| (32 : Int32))), .val (.int (0 : Int32)), .unset, .unset, .unset, .unset] [(.long (48 : Int64)), (.long (v1.toInt64))])) _
    refine XS.lsub X0.here hx rfl (hb hby own_d2_28) rfl ?_
    show Steps p.tables e below (s₁.setTop (mkF m 29 #[.val (.int v1), .val (.int (v1 ||| (32 : Int32))), .val (.int (0 : Int32)), .unset, .unset, .unset, .unset] [(.long ((v1.toInt64) - (48 : Int64)))])) _
    refine XS.lstoreN X0.here hx rfl (hb hby own_d2_29) rfl (l' := #[.val (.int v1), .val (.int (v1 ||| (32 : Int32))), .val (.int (0 : Int32)), .val (.long ((v1.toInt64) - (48 : Int64))), .second, .unset, .unset]) rfl ?_
    show Steps p.tables e below (s₁.setTop (mkF m 30 #[.val (.int v1), .val (.int (v1 ||| (32 : Int32))), .val (.int (0 : Int32)), .val (.long ((v1.toInt64) - (48 : Int64))), .second, .unset, .unset] [])) _
    refine XS.lloadN X0.here hx rfl (hb hby own_d2_30) rfl ?_
    show Steps p.tables e below (s₁.setTop (mkF m 31 #[.val (.int v1), .val (.int (v1 ||| (32 : Int32))), .val (.int (0 : Int32)), .val (.long ((v1.toInt64) - (48 : Int64))), .second, .unset, .unset] [(.long ((v1.toInt64) - (48 : Int64)))])) _
    refine XS.lconst X0.here hx rfl (hb hby own_d2_31) ?_
    show Steps p.tables e below (s₁.setTop (mkF m 32 #[.val (.int v1), .val (.int (v1 ||| (32 : Int32))), .val (.int (0 : Int32)), .val (.long ((v1.toInt64) - (48 : Int64))), .second, .unset, .unset] [(.long (0 : Int64)), (.long ((v1.toInt64) - (48 : Int64)))])) _
    refine XS.lcmp X0.here hx rfl (hb hby own_d2_32) rfl ?_
    show Steps p.tables e below (s₁.setTop (mkF m 33 #[.val (.int v1), .val (.int (v1 ||| (32 : Int32))), .val (.int (0 : Int32)), .val (.long ((v1.toInt64) - (48 : Int64))), .second, .unset, .unset] [(.int (lcmpW ((v1.toInt64) - (48 : Int64)) (0 : Int64)))])) _
    refine XS.ifNo X0.here hx rfl (hb hby own_d2_33) rfl ((if0 _ _).trans (flt (hp10 : ¬ ((lcmpW ((v1.toInt64) - (48 : Int64)) (0 : Int64)) < (0 : Int32)))).1) ?_
    show Steps p.tables e below (s₁.setTop (mkF m 36 #[.val (.int v1), .val (.int (v1 ||| (32 : Int32))), .val (.int (0 : Int32)), .val (.long ((v1.toInt64) - (48 : Int64))), .second, .unset, .unset] [])) _
    refine XS.lloadN X0.here hx rfl (hb hby own_d2_36) rfl ?_
    show Steps p.tables e below (s₁.setTop (mkF m 37 #[.val (.int v1), .val (.int (v1 ||| (32 : Int32))), .val (.int (0 : Int32)), .val (.long ((v1.toInt64) - (48 : Int64))), .second, .unset, .unset] [(.long ((v1.toInt64) - (48 : Int64)))])) _
    refine Jvm.Stand.ldc2J X0 hx hown (mvT hZ (hw _ (List.mem_of_getElem? (i := 20) rfl))) rfl (hb hby own_d2_37) ?_
    show Steps p.tables e below (s₁.setTop (mkF m 40 #[.val (.int v1), .val (.int (v1 ||| (32 : Int32))), .val (.int (0 : Int32)), .val (.long ((v1.toInt64) - (48 : Int64))), .second, .unset, .unset] [(.long (10 : Int64)), (.long ((v1.toInt64) - (48 : Int64)))])) _
    refine XS.lcmp X0.here hx rfl (hb hby own_d2_40) rfl ?_
    show Steps p.tables e below (s₁.setTop (mkF m 41 #[.val (.int v1), .val (.int (v1 ||| (32 : Int32))), .val (.int (0 : Int32)), .val (.long ((v1.toInt64) - (48 : Int64))), .second, .unset, .unset] [(.int (lcmpW ((v1.toInt64) - (48 : Int64)) (10 : Int64)))])) _
    refine XS.ifYes X0.here hx rfl (pc0 := 41) (pc' := 48) rfl (hb hby own_d2_41) rfl ((if0 _ _).trans (flt (hp11 : ¬ ((lcmpW ((v1.toInt64) - (48 : Int64)) (10 : Int64)) < (0 : Int32)))).2.1) (by decide) (by decide) ?_
    show Steps p.tables e below (s₁.setTop (mkF m 48 #[.val (.int v1), .val (.int (v1 ||| (32 : Int32))), .val (.int (0 : Int32)), .val (.long ((v1.toInt64) - (48 : Int64))), .second, .unset, .unset] [])) _
    refine XS.iconst X0.here hx rfl (hb hby own_d2_48) ?_
    show Steps p.tables e below (s₁.setTop (mkF m 49 #[.val (.int v1), .val (.int (v1 ||| (32 : Int32))), .val (.int (0 : Int32)), .val (.long ((v1.toInt64) - (48 : Int64))), .second, .unset, .unset] [(.int (0 : Int32))])) _
    refine XS.istore X0.here hx rfl (hb hby own_d2_49) rfl (l' := #[.val (.int v1), .val (.int (v1 ||| (32 : Int32))), .val (.int (0 : Int32)), .val (.long ((v1.toInt64) - (48 : Int64))), .second, .val (.int (0 : Int32)), .unset]) rfl ?_
    show Steps p.tables e below (s₁.setTop (mkF m 51 #[.val (.int v1), .val (.int (v1 ||| (32 : Int32))), .val (.int (0 : Int32)), .val (.long ((v1.toInt64) - (48 : Int64))), .second, .val (.int (0 : Int32)), .unset] [])) _
    refine XS.iloadN X0.here hx rfl (hb hby own_d2_51) rfl ?_
    show Steps p.tables e below (s₁.setTop (mkF m 52 #[.val (.int v1), .val (.int (v1 ||| (32 : Int32))), .val (.int (0 : Int32)), .val (.long ((v1.toInt64) - (48 : Int64))), .second, .val (.int (0 : Int32)), .unset] [(.int v1)])) _
    refine XS.bipush X0.here hx rfl (hb hby own_d2_52) ?_
    show Steps p.tables e below (s₁.setTop (mkF m 54 #[.val (.int v1), .val (.int (v1 ||| (32 : Int32))), .val (.int (0 : Int32)), .val (.long ((v1.toInt64) - (48 : Int64))), .second, .val (.int (0 : Int32)), .unset] [(.int (95 : Int32)), (.int v1)])) _
    refine XS.icmpYes X0.here hx rfl (pc0 := 54) (pc' := 61) rfl (hb hby own_d2_54) rfl (feq (hp7 : ¬ (v1 = (95 : Int32)))).2 (by decide) (by decide) ?_
    show Steps p.tables e below (s₁.setTop (mkF m 61 #[.val (.int v1), .val (.int (v1 ||| (32 : Int32))), .val (.int (0 : Int32)), .val (.long ((v1.toInt64) - (48 : Int64))), .second, .val (.int (0 : Int32)), .unset] [])) _
    refine XS.iconst X0.here hx rfl (hb hby own_d2_61) ?_
    show Steps p.tables e below (s₁.setTop (mkF m 62 #[.val (.int v1), .val (.int (v1 ||| (32 : Int32))), .val (.int (0 : Int32)), .val (.long ((v1.toInt64) - (48 : Int64))), .second, .val (.int (0 : Int32)), .unset] [(.int (0 : Int32))])) _
    refine XS.istore X0.here hx rfl (hb hby own_d2_62) rfl (l' := #[.val (.int v1), .val (.int (v1 ||| (32 : Int32))), .val (.int (0 : Int32)), .val (.long ((v1.toInt64) - (48 : Int64))), .second, .val (.int (0 : Int32)), .val (.int (0 : Int32))]) rfl ?_
    show Steps p.tables e below (s₁.setTop (mkF m 64 #[.val (.int v1), .val (.int (v1 ||| (32 : Int32))), .val (.int (0 : Int32)), .val (.long ((v1.toInt64) - (48 : Int64))), .second, .val (.int (0 : Int32)), .val (.int (0 : Int32))] [])) _
    refine XS.iloadN X0.here hx rfl (hb hby own_d2_64) rfl ?_
    show Steps p.tables e below (s₁.setTop (mkF m 65 #[.val (.int v1), .val (.int (v1 ||| (32 : Int32))), .val (.int (0 : Int32)), .val (.long ((v1.toInt64) - (48 : Int64))), .second, .val (.int (0 : Int32)), .val (.int (0 : Int32))] [(.int (0 : Int32))])) _
    refine XS.ifNo X0.here hx rfl (hb hby own_d2_65) rfl (by decide) ?_
    show Steps p.tables e below (s₁.setTop (mkF m 68 #[.val (.int v1), .val (.int (v1 ||| (32 : Int32))), .val (.int (0 : Int32)), .val (.long ((v1.toInt64) - (48 : Int64))), .second, .val (.int (0 : Int32)), .val (.int (0 : Int32))] [])) _
    refine XS.iload X0.here hx rfl (hb hby own_d2_68) rfl ?_
    show Steps p.tables e below (s₁.setTop (mkF m 70 #[.val (.int v1), .val (.int (v1 ||| (32 : Int32))), .val (.int (0 : Int32)), .val (.long ((v1.toInt64) - (48 : Int64))), .second, .val (.int (0 : Int32)), .val (.int (0 : Int32))] [(.int (0 : Int32))])) _
    refine XS.ifNo X0.here hx rfl (hb hby own_d2_70) rfl (by decide) ?_
    show Steps p.tables e below (s₁.setTop (mkF m 73 #[.val (.int v1), .val (.int (v1 ||| (32 : Int32))), .val (.int (0 : Int32)), .val (.long ((v1.toInt64) - (48 : Int64))), .second, .val (.int (0 : Int32)), .val (.int (0 : Int32))] [])) _
    refine XS.iload X0.here hx rfl (hb hby own_d2_73) rfl ?_
    show Steps p.tables e below (s₁.setTop (mkF m 75 #[.val (.int v1), .val (.int (v1 ||| (32 : Int32))), .val (.int (0 : Int32)), .val (.long ((v1.toInt64) - (48 : Int64))), .second, .val (.int (0 : Int32)), .val (.int (0 : Int32))] [(.int (0 : Int32))])) _
    refine XS.ifYes X0.here hx rfl (pc0 := 75) (pc' := 82) rfl (hb hby own_d2_75) rfl (by decide) (by decide) (by decide) ?_
    show Steps p.tables e below (s₁.setTop (mkF m 82 #[.val (.int v1), .val (.int (v1 ||| (32 : Int32))), .val (.int (0 : Int32)), .val (.long ((v1.toInt64) - (48 : Int64))), .second, .val (.int (0 : Int32)), .val (.int (0 : Int32))] [])) _
    refine XS.iconst X0.here hx rfl (hb hby own_d2_82) ?_
    show Steps p.tables e below (s₁.setTop (mkF m 83 #[.val (.int v1), .val (.int (v1 ||| (32 : Int32))), .val (.int (0 : Int32)), .val (.long ((v1.toInt64) - (48 : Int64))), .second, .val (.int (0 : Int32)), .val (.int (0 : Int32))] [(.int (0 : Int32))])) _
    exact retN X0 hx (t := .boolean) Bd.returns (by simp) (hb hby own_d2_83) hr
  · show OwnQ _ h0 n0 _ s₁.heap _
    exact ⟨rfl, N0, e0⟩
set_option maxRecDepth 65536 in
set_option maxHeartbeats 40000000 in
theorem own_isStart_18 (l : Launch) (Z : State) (a0 : Array Value) (hw : ∀ d ∈ tables_1, d.before a0 Z = true) (ws : List Jvm.Cond) (wENTITY : Addr) (wROLE_NAME : Addr) (G : OwnG Z wENTITY wROLE_NAME) (h0 : Heap) (n0 : Nat) (O0 : Old Z n0 h0) (v1 : Int32) (hp1 : ¬ (v1 < (65 : Int32))) (hp2 : (90 : Int32) < v1) (hp3 : v1 < (97 : Int32)) (hp4 : ¬ ((122 : Int32) < v1)) (hp5 : ¬ (v1 < (48 : Int32))) (hp6 : (57 : Int32) < v1) (hp7 : ¬ (v1 = (95 : Int32))) (hp8 : ¬ ((v1 ||| (32 : Int32)) < (97 : Int32))) (hp9 : (122 : Int32) < (v1 ||| (32 : Int32))) (hp10 : ¬ ((lcmpW ((v1.toInt64) - (48 : Int64)) (0 : Int64)) < (0 : Int32))) (hp11 : ¬ ((lcmpW ((v1.toInt64) - (48 : Int64)) (10 : Int64)) < (0 : Int32))) :
    MetFree l (⟨"com/example/credlib/credlib/policy/NameRule", "isStart", "(I)Z"⟩ : MethodName) (head1 (Jvm.Cond.code (⟨"com/example/credlib/credlib/policy/NameRule", "isStart", "(I)Z"⟩ : MethodName) prog_30_method_6_code 2 (some .boolean) :: ws) ({ frames := 0, cells := 0, slots := 0, locals := 0 } : Room)) (fun a U => a = #[(.ref wENTITY), (.int v1)] ∧ Z.Warmed39 U.vm ∧ U.heap = h0) (fun _ _ _ _ _ => True) (fun _ U o U' => ∃ v L, o = .returned v ∧ OwnQ (some (.int (0 : Int32))) h0 n0 v U'.heap L ∧ FrameEnd U o U' L ({ frames := 0, cells := 0, slots := 0, locals := 0 } : Room).cells ({ frames := 0, cells := 0, slots := 0, locals := 0 } : Room).slots) := by
  refine MetFree.of_bodySF (plainFor_of_name own_pn_1) hisR ?_
  intro p e s m args below meth c s₁ Bd hml0 hP hK
  obtain ⟨rfl, hZ, hh⟩ := hP
  have hx := Bd.exec
  have hby := Bd.bytes
  have hml : c.maxLocals = 2 := hml0
  have hown : s.vm.findClass "com/example/credlib/credlib/policy/NameRule" = some m.cls := findClass_of_methodNamed Bd.named
  have hnm := (name_of_methodNamed Bd.named Bd.method).1
  have X0 : Stand p l e ({ frames := 0, cells := 0, slots := 0, locals := 0 } : Room) s m #[(.ref wENTITY), (.int v1)] below meth c s₁ [] 0 0 := Stand.of_body Bd
  have e0 : s₁.heap = h0 := by rw [← hh, Bd.state]; rfl
  have N0 := Fr.nil n0
  have pre0 : ∀ t, Steps p.tables e below (s₁.setTop (mkF m 0 #[.val (.ref wENTITY), .val (.int v1)] [])) t → Steps p.tables e below (s₁.setTop (entryFrame m #[(.ref wENTITY), (.int v1)] 2)) t := fun t k => castTop (own_ef_3_RI m wENTITY v1) k
  obtain ⟨T1, X1, e1, st1⟩ := getF X0 hx hZ hown (host := "") (Or.inl (hw _ (List.mem_of_getElem? (i := 16) rfl))) Via.refl e0 (G.2.2.2.2.1.ext O0.2) (g := (mkF m 2 #[.val (.ref wENTITY), .val (.int v1)] [(.ref wENTITY), (.int v1)])) rfl rfl (hb hby own_d3_2)
  obtain ⟨T2, X2, e2, st2⟩ := getF X1 hx hZ hown (host := "") (Or.inl (hw _ (List.mem_of_getElem? (i := 21) rfl))) Via.refl e1 (G.2.2.2.2.2.2.1.ext O0.2) (g := (mkF m 10 #[.val (.ref wENTITY), .val (.int v1)] [(.ref wENTITY), (.int v1)])) rfl rfl (hb hby own_d3_10)
  obtain ⟨fs, hr, hrun, hended, hW, hsame⟩ := X2.leave (v := some (.int (0 : Int32))) (fun h => by rw [Bd.returns] at h; cases h)
  refine ⟨_, _, pre0 _ ?_, hrun, hended, _, _, rfl, ?_, ⟨_, rfl⟩, hW, hsame.mono (by decide) (by decide)⟩
  · show Steps p.tables e below (s₁.setTop (mkF m 0 #[.val (.ref wENTITY), .val (.int v1)] [])) _
    refine XS.iloadN X0.here hx rfl (hb hby own_d3_0) rfl ?_
    show Steps p.tables e below (s₁.setTop (mkF m 1 #[.val (.ref wENTITY), .val (.int v1)] [(.int v1)])) _
    refine XS.aloadN X0.here hx rfl (hb hby own_d3_1) rfl rfl ?_
    show Steps p.tables e below (s₁.setTop (mkF m 2 #[.val (.ref wENTITY), .val (.int v1)] [(.ref wENTITY), (.int v1)])) _
    refine st1 _ ?_
    show Steps p.tables e below (T1.setTop (mkF m 5 #[.val (.ref wENTITY), .val (.int v1)] [(.int (65 : Int32)), (.int v1)])) _
    refine XS.icmpNo X1.here hx rfl (hb hby own_d3_5) rfl (flt (hp1 : ¬ (v1 < (65 : Int32)))).1 ?_
    show Steps p.tables e below (T1.setTop (mkF m 8 #[.val (.ref wENTITY), .val (.int v1)] [])) _
    refine XS.iloadN X1.here hx rfl (hb hby own_d3_8) rfl ?_
    show Steps p.tables e below (T1.setTop (mkF m 9 #[.val (.ref wENTITY), .val (.int v1)] [(.int v1)])) _
    refine XS.aloadN X1.here hx rfl (hb hby own_d3_9) rfl rfl ?_
    show Steps p.tables e below (T1.setTop (mkF m 10 #[.val (.ref wENTITY), .val (.int v1)] [(.ref wENTITY), (.int v1)])) _
    refine st2 _ ?_
    show Steps p.tables e below (T2.setTop (mkF m 13 #[.val (.ref wENTITY), .val (.int v1)] [(.int (90 : Int32)), (.int v1)])) _
    refine XS.icmpYes X2.here hx rfl (pc0 := 13) (pc' := 20) rfl (hb hby own_d3_13) rfl (tlt (hp2 : (90 : Int32) < v1)).2.2.1 (by decide) (by decide) ?_
    show Steps p.tables e below (T2.setTop (mkF m 20 #[.val (.ref wENTITY), .val (.int v1)] [])) _
    refine XS.iconst X2.here hx rfl (hb hby own_d3_20) ?_
    show Steps p.tables e below (T2.setTop (mkF m 21 #[.val (.ref wENTITY), .val (.int v1)] [(.int (0 : Int32))])) _
    exact retN X2 hx (t := .boolean) Bd.returns (by simp) (hb hby own_d3_21) hr
  · show OwnQ _ h0 n0 _ T2.heap _
    exact ⟨rfl, N0, e2⟩
set_option maxRecDepth 65536 in
set_option maxHeartbeats 40000000 in
theorem own_isStart_19 (l : Launch) (Z : State) (a0 : Array Value) (hw : ∀ d ∈ tables_1, d.before a0 Z = true) (ws : List Jvm.Cond) (wENTITY : Addr) (wROLE_NAME : Addr) (G : OwnG Z wENTITY wROLE_NAME) (h0 : Heap) (n0 : Nat) (O0 : Old Z n0 h0) (v1 : Int32) (hp1 : ¬ (v1 < (65 : Int32))) (hp2 : (90 : Int32) < v1) (hp3 : v1 < (97 : Int32)) (hp4 : ¬ ((122 : Int32) < v1)) (hp5 : ¬ (v1 < (48 : Int32))) (hp6 : (57 : Int32) < v1) (hp7 : ¬ (v1 = (95 : Int32))) (hp8 : ¬ ((v1 ||| (32 : Int32)) < (97 : Int32))) (hp9 : (122 : Int32) < (v1 ||| (32 : Int32))) (hp10 : ¬ ((lcmpW ((v1.toInt64) - (48 : Int64)) (0 : Int64)) < (0 : Int32))) (hp11 : ¬ ((lcmpW ((v1.toInt64) - (48 : Int64)) (10 : Int64)) < (0 : Int32))) :
    MetFree l (⟨"com/example/credlib/credlib/policy/NameRule", "isStart", "(I)Z"⟩ : MethodName) (head1 (Jvm.Cond.code (⟨"com/example/credlib/credlib/policy/NameRule", "isStart", "(I)Z"⟩ : MethodName) prog_30_method_6_code 2 (some .boolean) :: ws) ({ frames := 0, cells := 0, slots := 0, locals := 0 } : Room)) (fun a U => a = #[(.ref wROLE_NAME), (.int v1)] ∧ Z.Warmed39 U.vm ∧ U.heap = h0) (fun _ _ _ _ _ => True) (fun _ U o U' => ∃ v L, o = .returned v ∧ OwnQ (some (.int (0 : Int32))) h0 n0 v U'.heap L ∧ FrameEnd U o U' L ({ frames := 0, cells := 0, slots := 0, locals := 0 } : Room).cells ({ frames := 0, cells := 0, slots := 0, locals := 0 } : Room).slots) := by
  refine MetFree.of_bodySF (plainFor_of_name own_pn_1) hisR ?_
  intro p e s m args below meth c s₁ Bd hml0 hP hK
  obtain ⟨rfl, hZ, hh⟩ := hP
  have hx := Bd.exec
  have hby := Bd.bytes
  have hml : c.maxLocals = 2 := hml0
  have hown : s.vm.findClass "com/example/credlib/credlib/policy/NameRule" = some m.cls := findClass_of_methodNamed Bd.named
  have hnm := (name_of_methodNamed Bd.named Bd.method).1
  have X0 : Stand p l e ({ frames := 0, cells := 0, slots := 0, locals := 0 } : Room) s m #[(.ref wROLE_NAME), (.int v1)] below meth c s₁ [] 0 0 := Stand.of_body Bd
  have e0 : s₁.heap = h0 := by rw [← hh, Bd.state]; rfl
  have N0 := Fr.nil n0
  have pre0 : ∀ t, Steps p.tables e below (s₁.setTop (mkF m 0 #[.val (.ref wROLE_NAME), .val (.int v1)] [])) t → Steps p.tables e below (s₁.setTop (entryFrame m #[(.ref wROLE_NAME), (.int v1)] 2)) t := fun t k => castTop (own_ef_3_RI m wROLE_NAME v1) k
  obtain ⟨T1, X1, e1, st1⟩ := getF X0 hx hZ hown (host := "") (Or.inl (hw _ (List.mem_of_getElem? (i := 16) rfl))) Via.refl e0 (G.2.2.2.2.2.1.ext O0.2) (g := (mkF m 2 #[.val (.ref wROLE_NAME), .val (.int v1)] [(.ref wROLE_NAME), (.int v1)])) rfl rfl (hb hby own_d3_2)
  obtain ⟨fs, hr, hrun, hended, hW, hsame⟩ := X1.leave (v := some (.int (0 : Int32))) (fun h => by rw [Bd.returns] at h; cases h)
  refine ⟨_, _, pre0 _ ?_, hrun, hended, _, _, rfl, ?_, ⟨_, rfl⟩, hW, hsame.mono (by decide) (by decide)⟩
  · show Steps p.tables e below (s₁.setTop (mkF m 0 #[.val (.ref wROLE_NAME), .val (.int v1)] [])) _
    refine XS.iloadN X0.here hx rfl (hb hby own_d3_0) rfl ?_
    show Steps p.tables e below (s₁.setTop (mkF m 1 #[.val (.ref wROLE_NAME), .val (.int v1)] [(.int v1)])) _
    refine XS.aloadN X0.here hx rfl (hb hby own_d3_1) rfl rfl ?_
    show Steps p.tables e below (s₁.setTop (mkF m 2 #[.val (.ref wROLE_NAME), .val (.int v1)] [(.ref wROLE_NAME), (.int v1)])) _
    refine st1 _ ?_
    show Steps p.tables e below (T1.setTop (mkF m 5 #[.val (.ref wROLE_NAME), .val (.int v1)] [(.int (97 : Int32)), (.int v1)])) _
    refine XS.icmpYes X1.here hx rfl (pc0 := 5) (pc' := 20) rfl (hb hby own_d3_5) rfl (tlt (hp3 : v1 < (97 : Int32))).1 (by decide) (by decide) ?_
    show Steps p.tables e below (T1.setTop (mkF m 20 #[.val (.ref wROLE_NAME), .val (.int v1)] [])) _
    refine XS.iconst X1.here hx rfl (hb hby own_d3_20) ?_
    show Steps p.tables e below (T1.setTop (mkF m 21 #[.val (.ref wROLE_NAME), .val (.int v1)] [(.int (0 : Int32))])) _
    exact retN X1 hx (t := .boolean) Bd.returns (by simp) (hb hby own_d3_21) hr
  · show OwnQ _ h0 n0 _ T1.heap _
    exact ⟨rfl, N0, e1⟩
set_option maxRecDepth 65536 in
set_option maxHeartbeats 40000000 in
theorem own_law_04 (l : Launch) (Z : State) (a0 : Array Value) (hw : ∀ d ∈ tables_1, d.before a0 Z = true) (ws : List Jvm.Cond) (wENTITY : Addr) (wROLE_NAME : Addr) (G : OwnG Z wENTITY wROLE_NAME) (h0 : Heap) (n0 : Nat) (O0 : Old Z n0 h0) (p1 : Int32) (p2 : Int32) (he : (p2 &&& (1 : Int32)) = (0 : Int32)) (aa0 : ¬ ((p1 &&& (255 : Int32)) < (65 : Int32))) (aa1 : (90 : Int32) < (p1 &&& (255 : Int32))) (aa2 : (p1 &&& (255 : Int32)) < (97 : Int32)) (aa3 : ¬ ((122 : Int32) < (p1 &&& (255 : Int32)))) (aa4 : ¬ ((p1 &&& (255 : Int32)) < (48 : Int32))) (aa5 : (57 : Int32) < (p1 &&& (255 : Int32))) (aa6 : ¬ ((p1 &&& (255 : Int32)) = (95 : Int32))) (aa7 : ¬ (((p1 &&& (255 : Int32)) ||| (32 : Int32)) < (97 : Int32))) (aa8 : (122 : Int32) < ((p1 &&& (255 : Int32)) ||| (32 : Int32))) (aa9 : ¬ ((lcmpW (((p1 &&& (255 : Int32)).toInt64) - (48 : Int64)) (0 : Int64)) < (0 : Int32))) (aa10 : ¬ ((lcmpW (((p1 &&& (255 : Int32)).toInt64) - (48 : Int64)) (10 : Int64)) < (0 : Int32))) :
    MetFree l x (head1 (Jvm.Cond.code x code maxLocals ret :: ws) room_1) (fun a U => a = #[(.int p1), (.int p2)] ∧ Z.Warmed39 U.vm ∧ U.heap = h0) (fun _ _ _ _ _ => True) (fun _ U o U' => ∃ v L, o = .returned v ∧ (v = some (.int 1) ∧ Fr n0 L) ∧ FrameEnd U o U' L room_1.cells room_1.slots) := by
  refine MetFree.of_bodySF (plainFor_of_name own_pn_0) hisR ?_
  intro p e s m args below meth c s₁ Bd hml0 hP hK
  obtain ⟨rfl, hZ, hh⟩ := hP
  have hx := Bd.exec
  have hby := Bd.bytes
  have hml : c.maxLocals = 4 := hml0
  have hown : s.vm.findClass "com/example/credlib/credlib/policy/NameRuleIsPartPinLaw" = some m.cls := findClass_of_methodNamed Bd.named
  have hnm := (name_of_methodNamed Bd.named Bd.method).1
  have X0 : Stand p l e room_1 s m #[(.int p1), (.int p2)] below meth c s₁ [] 0 0 := Stand.of_body Bd
  have e0 : s₁.heap = h0 := by rw [← hh, Bd.state]; rfl
  have N0 := Fr.nil n0
  have pre0 : ∀ t, Steps p.tables e below (s₁.setTop (mkF m 0 #[.val (.int p1), .val (.int p2), .unset, .unset] [])) t → Steps p.tables e below (s₁.setTop (entryFrame m #[(.int p1), (.int p2)] maxLocals)) t := fun t k => castTop (own_ef_0_II m p1 p2) k
  obtain ⟨_, _, ⟨T1, L1, k1, n1⟩, -, X1, ⟨Lc1, hQ1, l1, y1, z1⟩, st1⟩ := Jvm.LawKit.callS X0 hx (y := (⟨"com/example/credlib/credlib/policy/NameRule", "isPart", "(I)Z"⟩ : MethodName)) hown (mvT hZ (hw _ (List.mem_of_getElem? (i := 0) rfl))) (mvT hZ (hw _ (List.mem_of_getElem? (i := 1) rfl))) (mvT hZ (hw _ (List.mem_of_getElem? (i := 2) rfl))) (mvT hZ (hw _ (List.mem_of_getElem? (i := 3) rfl))) (by decide) (backOf (W := 0) (own_isPart_16 l Z a0 hw [] wENTITY wROLE_NAME G h0 n0 O0 (p1 &&& (255 : Int32)) aa0 aa1 aa2 aa3 aa4 aa5 aa6 aa7 aa8 aa9 aa10) hZ (hw _ (List.mem_of_getElem? (i := 3) rfl)) (hw _ (List.mem_of_getElem? (i := 2) rfl)) (by decide) (by decide)) (g := (mkF m 17 #[.val (.int p1), .val (.int p2), .val (.int (p1 &&& (255 : Int32))), .unset] [(.int (p1 &&& (255 : Int32)))])) rfl (by rw [hml]; rfl) (argsL := [(.int (p1 &&& (255 : Int32)))]) (rest := []) (lenOf own_pd_0 rfl) rfl (by show 2 * 0 + _ ≤ _; exact Nat.le_of_eq rfl) (hb hby at_17) (fun _ _ => ⟨rfl, e0, (by decide : 0 + 0 ≤ _), (by decide : 0 + 0 ≤ _)⟩)
  dsimp only [Pt.U, Pt.locs, Pt.cells, Pt.slots] at X1 l1 y1 z1 st1 hQ1
  subst l1 y1 z1
  obtain ⟨rfl, N1q, e1⟩ := hQ1
  have N1 := Fr.app N0 N1q
  obtain ⟨_, _, ⟨T2, L2, k2, n2⟩, -, X2, ⟨Lc2, hQ2, l2, y2, z2⟩, st2⟩ := Jvm.LawKit.callS X1 hx (y := (⟨"com/example/credlib/credlib/policy/NameRuleIsPartPinLaw", "expected", "(I)Z"⟩ : MethodName)) hown (mvT hZ (hw _ (List.mem_of_getElem? (i := 4) rfl))) (mvT hZ (hw _ (List.mem_of_getElem? (i := 5) rfl))) (mvT hZ (hw _ (List.mem_of_getElem? (i := 6) rfl))) (mvT hZ (hw _ (List.mem_of_getElem? (i := 7) rfl))) (by decide) (backOf (W := 1) (own_expected_17 l Z a0 hw [] wENTITY wROLE_NAME G h0 n0 O0 (p1 &&& (255 : Int32)) aa0 aa1 aa2 aa3 aa4 aa5 aa6 aa7 aa8 aa9 aa10) hZ (hw _ (List.mem_of_getElem? (i := 7) rfl)) (hw _ (List.mem_of_getElem? (i := 6) rfl)) (by decide) (by decide)) (g := (mkF m 23 #[.val (.int p1), .val (.int p2), .val (.int (p1 &&& (255 : Int32))), .val (.int (0 : Int32))] [(.int (p1 &&& (255 : Int32))), (.int (0 : Int32))])) rfl (by rw [hml]; rfl) (argsL := [(.int (p1 &&& (255 : Int32)))]) (rest := [(.int (0 : Int32))]) (lenOf own_pd_0 rfl) rfl (by show 2 * 0 + _ ≤ _; exact Nat.le_of_eq rfl) (hb hby at_23) (fun _ _ => ⟨rfl, e1, (by decide : 0 + 0 ≤ _), (by decide : 0 + 0 ≤ _)⟩)
  dsimp only [Pt.U, Pt.locs, Pt.cells, Pt.slots] at X2 l2 y2 z2 st2 hQ2
  subst l2 y2 z2
  obtain ⟨rfl, N2q, e2⟩ := hQ2
  have N2 := Fr.app N1 N2q
  obtain ⟨T3, X3, e3, st3⟩ := getS2 X2 hx hZ hown (host := "") (Or.inl (hw _ (List.mem_of_getElem? (i := 9) rfl))) Via.refl e2 (G.1.ext O0.2) (g := (mkF m 31 #[.val (.int p1), .val (.int p2), .val (.int (p1 &&& (255 : Int32))), .val (.int (0 : Int32))] [])) rfl (hb hby at_31)
  obtain ⟨cq4, kq4, q4a, q4b, q4c⟩ := isOf hZ e3 (G.2.1.ext O0.2)
  obtain ⟨_, _, ⟨T4, L4, k4, n4⟩, -, X4, ⟨Lc4, hQ4, l4, y4, z4⟩, st4⟩ := X3.virtualBack hx (y := (⟨"com/example/credlib/credlib/policy/NameRule", "isStart", "(I)Z"⟩ : MethodName)) (z := (⟨"com/example/credlib/credlib/policy/NameRule", "isStart", "(I)Z"⟩ : MethodName)) hown (mvT hZ (hw _ (List.mem_of_getElem? (i := 11) rfl))) (mvT hZ (hw _ (List.mem_of_getElem? (i := 12) rfl))) (notFace_of_selects (args := #[]) (mvT hZ (hw _ (List.mem_of_getElem? (i := 14) rfl)))) (mvT hZ (hw _ (List.mem_of_getElem? (i := 14) rfl))) (mvT hZ (hw _ (List.mem_of_getElem? (i := 13) rfl))) (by decide) (backOf (W := 0) (own_isStart_18 l Z a0 hw [] wENTITY wROLE_NAME G h0 n0 O0 (p1 &&& (255 : Int32)) aa0 aa1 aa2 aa3 aa4 aa5 aa6 aa7 aa8 aa9 aa10) hZ (hw _ (List.mem_of_getElem? (i := 15) rfl)) (hw _ (List.mem_of_getElem? (i := 2) rfl)) (by decide) (by decide)) q4a q4c (g := (mkF m 35 #[.val (.int p1), .val (.int p2), .val (.int (p1 &&& (255 : Int32))), .val (.int (0 : Int32))] [(.int (p1 &&& (255 : Int32))), (.ref wENTITY)])) rfl (by rw [hml]; rfl) (Steps.refl _) (argsL := [(.int (p1 &&& (255 : Int32)))]) (rest := []) (lenOf own_pd_0 rfl) rfl (by show 2 * 0 + _ ≤ _; exact Nat.le_of_eq rfl) (hb hby at_35) (fun _ _ => ⟨rfl, e3, (by decide : 0 + 0 ≤ _), (by decide : 0 + 0 ≤ _)⟩)
  dsimp only [Pt.U, Pt.locs, Pt.cells, Pt.slots] at X4 l4 y4 z4 st4 hQ4
  subst l4 y4 z4
  obtain ⟨rfl, N4q, e4⟩ := hQ4
  have N4 := Fr.app N2 N4q
  obtain ⟨T5, X5, e5, st5⟩ := getS2 X4 hx hZ hown (host := "") (Or.inl (hw _ (List.mem_of_getElem? (i := 18) rfl))) Via.refl e4 (G.2.2.1.ext O0.2) (g := (mkF m 47 #[.val (.int p1), .val (.int p2), .val (.int (p1 &&& (255 : Int32))), .val (.int (0 : Int32))] [])) rfl (hb hby at_47)
  obtain ⟨cq6, kq6, q6a, q6b, q6c⟩ := isOf hZ e5 (G.2.2.2.1.ext O0.2)
  obtain ⟨_, _, ⟨T6, L6, k6, n6⟩, -, X6, ⟨Lc6, hQ6, l6, y6, z6⟩, st6⟩ := X5.virtualBack hx (y := (⟨"com/example/credlib/credlib/policy/NameRule", "isStart", "(I)Z"⟩ : MethodName)) (z := (⟨"com/example/credlib/credlib/policy/NameRule", "isStart", "(I)Z"⟩ : MethodName)) hown (mvT hZ (hw _ (List.mem_of_getElem? (i := 11) rfl))) (mvT hZ (hw _ (List.mem_of_getElem? (i := 12) rfl))) (notFace_of_selects (args := #[]) (mvT hZ (hw _ (List.mem_of_getElem? (i := 14) rfl)))) (mvT hZ (hw _ (List.mem_of_getElem? (i := 14) rfl))) (mvT hZ (hw _ (List.mem_of_getElem? (i := 13) rfl))) (by decide) (backOf (W := 0) (own_isStart_19 l Z a0 hw [] wENTITY wROLE_NAME G h0 n0 O0 (p1 &&& (255 : Int32)) aa0 aa1 aa2 aa3 aa4 aa5 aa6 aa7 aa8 aa9 aa10) hZ (hw _ (List.mem_of_getElem? (i := 15) rfl)) (hw _ (List.mem_of_getElem? (i := 2) rfl)) (by decide) (by decide)) q6a q6c (g := (mkF m 51 #[.val (.int p1), .val (.int p2), .val (.int (p1 &&& (255 : Int32))), .val (.int (0 : Int32))] [(.int (p1 &&& (255 : Int32))), (.ref wROLE_NAME)])) rfl (by rw [hml]; rfl) (Steps.refl _) (argsL := [(.int (p1 &&& (255 : Int32)))]) (rest := []) (lenOf own_pd_0 rfl) rfl (by show 2 * 0 + _ ≤ _; exact Nat.le_of_eq rfl) (hb hby at_51) (fun _ _ => ⟨rfl, e5, (by decide : 0 + 0 ≤ _), (by decide : 0 + 0 ≤ _)⟩)
  dsimp only [Pt.U, Pt.locs, Pt.cells, Pt.slots] at X6 l6 y6 z6 st6 hQ6
  subst l6 y6 z6
  obtain ⟨rfl, N6q, e6⟩ := hQ6
  have N6 := Fr.app N4 N6q
  obtain ⟨fs, hr, hrun, hended, hW, hsame⟩ := X6.leave (v := some (.int (1 : Int32))) (fun h => by rw [Bd.returns] at h; cases h)
  refine ⟨_, _, pre0 _ ?_, hrun, hended, _, _, rfl, ?_, ⟨_, rfl⟩, hW, hsame.mono (by decide) (by decide)⟩
  · show Steps p.tables e below (s₁.setTop (mkF m 0 #[.val (.int p1), .val (.int p2), .unset, .unset] [])) _
    refine XS.iloadN X0.here hx rfl (hb hby at_0) rfl ?_
    show Steps p.tables e below (s₁.setTop (mkF m 1 #[.val (.int p1), .val (.int p2), .unset, .unset] [(.int p2)])) _
    refine XS.iconst X0.here hx rfl (hb hby at_1) ?_
    show Steps p.tables e below (s₁.setTop (mkF m 2 #[.val (.int p1), .val (.int p2), .unset, .unset] [(.int (1 : Int32)), (.int p2)])) _
    refine XS.iand X0.here hx rfl (hb hby at_2) rfl ?_
    show Steps p.tables e below (s₁.setTop (mkF m 3 #[.val (.int p1), .val (.int p2), .unset, .unset] [(.int (p2 &&& (1 : Int32)))])) _
    refine XS.ifYes X0.here hx rfl (pc0 := 3) (pc' := 10) rfl (hb hby at_3) rfl ((if0 _ _).trans (teq (he : (p2 &&& (1 : Int32)) = (0 : Int32))).1) (by decide) (by decide) ?_
    show Steps p.tables e below (s₁.setTop (mkF m 10 #[.val (.int p1), .val (.int p2), .unset, .unset] [])) _
    refine XS.iloadN X0.here hx rfl (hb hby at_10) rfl ?_
    show Steps p.tables e below (s₁.setTop (mkF m 11 #[.val (.int p1), .val (.int p2), .unset, .unset] [(.int p1)])) _
    refine XS.sipush X0.here hx rfl (hb hby at_11) ?_
    show Steps p.tables e below (s₁.setTop (mkF m 14 #[.val (.int p1), .val (.int p2), .unset, .unset] [(.int (255 : Int32)), (.int p1)])) _
    refine XS.iand X0.here hx rfl (hb hby at_14) rfl ?_
    show Steps p.tables e below (s₁.setTop (mkF m 15 #[.val (.int p1), .val (.int p2), .unset, .unset] [(.int (p1 &&& (255 : Int32)))])) _
    refine XS.istoreN X0.here hx rfl (hb hby at_15) rfl (l' := #[.val (.int p1), .val (.int p2), .val (.int (p1 &&& (255 : Int32))), .unset]) rfl ?_
    show Steps p.tables e below (s₁.setTop (mkF m 16 #[.val (.int p1), .val (.int p2), .val (.int (p1 &&& (255 : Int32))), .unset] [])) _
    refine XS.iloadN X0.here hx rfl (hb hby at_16) rfl ?_
    show Steps p.tables e below (s₁.setTop (mkF m 17 #[.val (.int p1), .val (.int p2), .val (.int (p1 &&& (255 : Int32))), .unset] [(.int (p1 &&& (255 : Int32)))])) _
    refine st1 _ ?_
    show Steps p.tables e below (T1.setTop (mkF m 20 #[.val (.int p1), .val (.int p2), .val (.int (p1 &&& (255 : Int32))), .unset] [(.int (0 : Int32))])) _
    refine XS.istoreN X1.here hx rfl (hb hby at_20) rfl (l' := #[.val (.int p1), .val (.int p2), .val (.int (p1 &&& (255 : Int32))), .val (.int (0 : Int32))]) rfl ?_
    show Steps p.tables e below (T1.setTop (mkF m 21 #[.val (.int p1), .val (.int p2), .val (.int (p1 &&& (255 : Int32))), .val (.int (0 : Int32))] [])) _
    refine XS.iloadN X1.here hx rfl (hb hby at_21) rfl ?_
    show Steps p.tables e below (T1.setTop (mkF m 22 #[.val (.int p1), .val (.int p2), .val (.int (p1 &&& (255 : Int32))), .val (.int (0 : Int32))] [(.int (0 : Int32))])) _
    refine XS.iloadN X1.here hx rfl (hb hby at_22) rfl ?_
    show Steps p.tables e below (T1.setTop (mkF m 23 #[.val (.int p1), .val (.int p2), .val (.int (p1 &&& (255 : Int32))), .val (.int (0 : Int32))] [(.int (p1 &&& (255 : Int32))), (.int (0 : Int32))])) _
    refine st2 _ ?_
    show Steps p.tables e below (T2.setTop (mkF m 26 #[.val (.int p1), .val (.int p2), .val (.int (p1 &&& (255 : Int32))), .val (.int (0 : Int32))] [(.int (0 : Int32)), (.int (0 : Int32))])) _
    refine XS.icmpYes X2.here hx rfl (pc0 := 26) (pc' := 31) rfl (hb hby at_26) rfl (by decide) (by decide) (by decide) ?_
    show Steps p.tables e below (T2.setTop (mkF m 31 #[.val (.int p1), .val (.int p2), .val (.int (p1 &&& (255 : Int32))), .val (.int (0 : Int32))] [])) _
    refine st3 _ ?_
    show Steps p.tables e below (T3.setTop (mkF m 34 #[.val (.int p1), .val (.int p2), .val (.int (p1 &&& (255 : Int32))), .val (.int (0 : Int32))] [(.ref wENTITY)])) _
    refine XS.iloadN X3.here hx rfl (hb hby at_34) rfl ?_
    show Steps p.tables e below (T3.setTop (mkF m 35 #[.val (.int p1), .val (.int p2), .val (.int (p1 &&& (255 : Int32))), .val (.int (0 : Int32))] [(.int (p1 &&& (255 : Int32))), (.ref wENTITY)])) _
    refine st4.trans ?_
    show Steps p.tables e below (T4.setTop (mkF m 38 #[.val (.int p1), .val (.int p2), .val (.int (p1 &&& (255 : Int32))), .val (.int (0 : Int32))] [(.int (0 : Int32))])) _
    refine XS.ifYes X4.here hx rfl (pc0 := 38) (pc' := 47) rfl (hb hby at_38) rfl (by decide) (by decide) (by decide) ?_
    show Steps p.tables e below (T4.setTop (mkF m 47 #[.val (.int p1), .val (.int p2), .val (.int (p1 &&& (255 : Int32))), .val (.int (0 : Int32))] [])) _
    refine st5 _ ?_
    show Steps p.tables e below (T5.setTop (mkF m 50 #[.val (.int p1), .val (.int p2), .val (.int (p1 &&& (255 : Int32))), .val (.int (0 : Int32))] [(.ref wROLE_NAME)])) _
    refine XS.iloadN X5.here hx rfl (hb hby at_50) rfl ?_
    show Steps p.tables e below (T5.setTop (mkF m 51 #[.val (.int p1), .val (.int p2), .val (.int (p1 &&& (255 : Int32))), .val (.int (0 : Int32))] [(.int (p1 &&& (255 : Int32))), (.ref wROLE_NAME)])) _
    refine st6.trans ?_
    show Steps p.tables e below (T6.setTop (mkF m 54 #[.val (.int p1), .val (.int p2), .val (.int (p1 &&& (255 : Int32))), .val (.int (0 : Int32))] [(.int (0 : Int32))])) _
    refine XS.ifYes X6.here hx rfl (pc0 := 54) (pc' := 63) rfl (hb hby at_54) rfl (by decide) (by decide) (by decide) ?_
    show Steps p.tables e below (T6.setTop (mkF m 63 #[.val (.int p1), .val (.int p2), .val (.int (p1 &&& (255 : Int32))), .val (.int (0 : Int32))] [])) _
    refine XS.iconst X6.here hx rfl (hb hby at_63) ?_
    show Steps p.tables e below (T6.setTop (mkF m 64 #[.val (.int p1), .val (.int p2), .val (.int (p1 &&& (255 : Int32))), .val (.int (0 : Int32))] [(.int (1 : Int32))])) _
    exact retN X6 hx (t := .boolean) Bd.returns (by simp) (hb hby at_64) hr
  · exact ⟨rfl, N6⟩
set_option maxRecDepth 65536 in
set_option maxHeartbeats 40000000 in
theorem own_isPart_20 (l : Launch) (Z : State) (a0 : Array Value) (hw : ∀ d ∈ tables_1, d.before a0 Z = true) (ws : List Jvm.Cond) (wENTITY : Addr) (wROLE_NAME : Addr) (G : OwnG Z wENTITY wROLE_NAME) (h0 : Heap) (n0 : Nat) (O0 : Old Z n0 h0) (v1 : Int32) (hp1 : ¬ (v1 < (65 : Int32))) (hp2 : (90 : Int32) < v1) (hp3 : v1 < (97 : Int32)) (hp4 : ¬ ((122 : Int32) < v1)) (hp5 : ¬ (v1 < (48 : Int32))) (hp6 : (57 : Int32) < v1) (hp7 : v1 = (95 : Int32)) (hp8 : ¬ ((v1 ||| (32 : Int32)) < (97 : Int32))) (hp9 : (122 : Int32) < (v1 ||| (32 : Int32))) (hp10 : ¬ ((lcmpW ((v1.toInt64) - (48 : Int64)) (0 : Int64)) < (0 : Int32))) (hp11 : ¬ ((lcmpW ((v1.toInt64) - (48 : Int64)) (10 : Int64)) < (0 : Int32))) :
    MetFree l (⟨"com/example/credlib/credlib/policy/NameRule", "isPart", "(I)Z"⟩ : MethodName) (head1 (Jvm.Cond.code (⟨"com/example/credlib/credlib/policy/NameRule", "isPart", "(I)Z"⟩ : MethodName) prog_30_method_7_code 1 (some .boolean) :: ws) ({ frames := 0, cells := 0, slots := 0, locals := 0 } : Room)) (fun a U => a = #[(.int v1)] ∧ Z.Warmed39 U.vm ∧ U.heap = h0) (fun _ _ _ _ _ => True) (fun _ U o U' => ∃ v L, o = .returned v ∧ OwnQ (some (.int (1 : Int32))) h0 n0 v U'.heap L ∧ FrameEnd U o U' L ({ frames := 0, cells := 0, slots := 0, locals := 0 } : Room).cells ({ frames := 0, cells := 0, slots := 0, locals := 0 } : Room).slots) := by
  refine MetFree.of_bodySF (plainFor_of_name own_pn_1) hisR ?_
  intro p e s m args below meth c s₁ Bd hml0 hP hK
  obtain ⟨rfl, hZ, hh⟩ := hP
  have hx := Bd.exec
  have hby := Bd.bytes
  have hml : c.maxLocals = 1 := hml0
  have hown : s.vm.findClass "com/example/credlib/credlib/policy/NameRule" = some m.cls := findClass_of_methodNamed Bd.named
  have hnm := (name_of_methodNamed Bd.named Bd.method).1
  have X0 : Stand p l e ({ frames := 0, cells := 0, slots := 0, locals := 0 } : Room) s m #[(.int v1)] below meth c s₁ [] 0 0 := Stand.of_body Bd
  have e0 : s₁.heap = h0 := by rw [← hh, Bd.state]; rfl
  have N0 := Fr.nil n0
  have pre0 : ∀ t, Steps p.tables e below (s₁.setTop (mkF m 0 #[.val (.int v1)] [])) t → Steps p.tables e below (s₁.setTop (entryFrame m #[(.int v1)] 1)) t := fun t k => castTop (own_ef_1_I m v1) k
  obtain ⟨fs, hr, hrun, hended, hW, hsame⟩ := X0.leave (v := some (.int (1 : Int32))) (fun h => by rw [Bd.returns] at h; cases h)
  refine ⟨_, _, pre0 _ ?_, hrun, hended, _, _, rfl, ?_, ⟨_, rfl⟩, hW, hsame.mono (by decide) (by decide)⟩
  · show Steps p.tables e below (s₁.setTop (mkF m 0 #[.val (.int v1)] [])) _
    refine XS.iloadN X0.here hx rfl (hb hby own_d1_0) rfl ?_
    show Steps p.tables e below (s₁.setTop (mkF m 1 #[.val (.int v1)] [(.int v1)])) _
    refine XS.bipush X0.here hx rfl (hb hby own_d1_1) ?_
    show Steps p.tables e below (s₁.setTop (mkF m 3 #[.val (.int v1)] [(.int (65 : Int32)), (.int v1)])) _
    refine XS.icmpNo X0.here hx rfl (hb hby own_d1_3) rfl (flt (hp1 : ¬ (v1 < (65 : Int32)))).1 ?_
    show Steps p.tables e below (s₁.setTop (mkF m 6 #[.val (.int v1)] [])) _
    refine XS.iloadN X0.here hx rfl (hb hby own_d1_6) rfl ?_
    show Steps p.tables e below (s₁.setTop (mkF m 7 #[.val (.int v1)] [(.int v1)])) _
    refine XS.bipush X0.here hx rfl (hb hby own_d1_7) ?_
    show Steps p.tables e below (s₁.setTop (mkF m 9 #[.val (.int v1)] [(.int (90 : Int32)), (.int v1)])) _
    refine XS.icmpNo X0.here hx rfl (hb hby own_d1_9) rfl (tlt (hp2 : (90 : Int32) < v1)).2.2.2 ?_
    show Steps p.tables e below (s₁.setTop (mkF m 12 #[.val (.int v1)] [])) _
    refine XS.iloadN X0.here hx rfl (hb hby own_d1_12) rfl ?_
    show Steps p.tables e below (s₁.setTop (mkF m 13 #[.val (.int v1)] [(.int v1)])) _
    refine XS.bipush X0.here hx rfl (hb hby own_d1_13) ?_
    show Steps p.tables e below (s₁.setTop (mkF m 15 #[.val (.int v1)] [(.int (97 : Int32)), (.int v1)])) _
    refine XS.icmpYes X0.here hx rfl (pc0 := 15) (pc' := 24) rfl (hb hby own_d1_15) rfl (tlt (hp3 : v1 < (97 : Int32))).1 (by decide) (by decide) ?_
    show Steps p.tables e below (s₁.setTop (mkF m 24 #[.val (.int v1)] [])) _
    refine XS.iloadN X0.here hx rfl (hb hby own_d1_24) rfl ?_
    show Steps p.tables e below (s₁.setTop (mkF m 25 #[.val (.int v1)] [(.int v1)])) _
    refine XS.bipush X0.here hx rfl (hb hby own_d1_25) ?_
    show Steps p.tables e below (s₁.setTop (mkF m 27 #[.val (.int v1)] [(.int (48 : Int32)), (.int v1)])) _
    refine XS.icmpNo X0.here hx rfl (hb hby own_d1_27) rfl (flt (hp5 : ¬ (v1 < (48 : Int32)))).1 ?_
    show Steps p.tables e below (s₁.setTop (mkF m 30 #[.val (.int v1)] [])) _
    refine XS.iloadN X0.here hx rfl (hb hby own_d1_30) rfl ?_
    show Steps p.tables e below (s₁.setTop (mkF m 31 #[.val (.int v1)] [(.int v1)])) _
    refine XS.bipush X0.here hx rfl (hb hby own_d1_31) ?_
    show Steps p.tables e below (s₁.setTop (mkF m 33 #[.val (.int v1)] [(.int (57 : Int32)), (.int v1)])) _
    refine XS.icmpNo X0.here hx rfl (hb hby own_d1_33) rfl (tlt (hp6 : (57 : Int32) < v1)).2.2.2 ?_
    show Steps p.tables e below (s₁.setTop (mkF m 36 #[.val (.int v1)] [])) _
    refine XS.iloadN X0.here hx rfl (hb hby own_d1_36) rfl ?_
    show Steps p.tables e below (s₁.setTop (mkF m 37 #[.val (.int v1)] [(.int v1)])) _
    refine XS.bipush X0.here hx rfl (hb hby own_d1_37) ?_
    show Steps p.tables e below (s₁.setTop (mkF m 39 #[.val (.int v1)] [(.int (95 : Int32)), (.int v1)])) _
    refine XS.icmpNo X0.here hx rfl (hb hby own_d1_39) rfl (teq (hp7 : v1 = (95 : Int32))).2 ?_
    show Steps p.tables e below (s₁.setTop (mkF m 42 #[.val (.int v1)] [])) _
    refine XS.iconst X0.here hx rfl (hb hby own_d1_42) ?_
    show Steps p.tables e below (s₁.setTop (mkF m 43 #[.val (.int v1)] [(.int (1 : Int32))])) _
    refine XS.goto X0.here hx rfl (pc0 := 43) (pc' := 47) rfl (hb hby own_d1_43) (by decide) (by decide) ?_
    show Steps p.tables e below (s₁.setTop (mkF m 47 #[.val (.int v1)] [(.int (1 : Int32))])) _
    exact retN X0 hx (t := .boolean) Bd.returns (by simp) (hb hby own_d1_47) hr
  · show OwnQ _ h0 n0 _ s₁.heap _
    exact ⟨rfl, N0, e0⟩
theorem own_d2_57 : decode method_2_code 57 = .ok (.iconst 1, 1) := by decide +kernel
theorem own_d2_58 : decode method_2_code 58 = .ok (.goto 4, 3) := by decide +kernel
set_option maxRecDepth 65536 in
set_option maxHeartbeats 40000000 in
theorem own_expected_21 (l : Launch) (Z : State) (a0 : Array Value) (hw : ∀ d ∈ tables_1, d.before a0 Z = true) (ws : List Jvm.Cond) (wENTITY : Addr) (wROLE_NAME : Addr) (G : OwnG Z wENTITY wROLE_NAME) (h0 : Heap) (n0 : Nat) (O0 : Old Z n0 h0) (v1 : Int32) (hp1 : ¬ (v1 < (65 : Int32))) (hp2 : (90 : Int32) < v1) (hp3 : v1 < (97 : Int32)) (hp4 : ¬ ((122 : Int32) < v1)) (hp5 : ¬ (v1 < (48 : Int32))) (hp6 : (57 : Int32) < v1) (hp7 : v1 = (95 : Int32)) (hp8 : ¬ ((v1 ||| (32 : Int32)) < (97 : Int32))) (hp9 : (122 : Int32) < (v1 ||| (32 : Int32))) (hp10 : ¬ ((lcmpW ((v1.toInt64) - (48 : Int64)) (0 : Int64)) < (0 : Int32))) (hp11 : ¬ ((lcmpW ((v1.toInt64) - (48 : Int64)) (10 : Int64)) < (0 : Int32))) :
    MetFree l (⟨"com/example/credlib/credlib/policy/NameRuleIsPartPinLaw", "expected", "(I)Z"⟩ : MethodName) (head1 (Jvm.Cond.code (⟨"com/example/credlib/credlib/policy/NameRuleIsPartPinLaw", "expected", "(I)Z"⟩ : MethodName) method_2_code 7 (some .boolean) :: ws) ({ frames := 0, cells := 0, slots := 0, locals := 0 } : Room)) (fun a U => a = #[(.int v1)] ∧ Z.Warmed39 U.vm ∧ U.heap = h0) (fun _ _ _ _ _ => True) (fun _ U o U' => ∃ v L, o = .returned v ∧ OwnQ (some (.int (1 : Int32))) h0 n0 v U'.heap L ∧ FrameEnd U o U' L ({ frames := 0, cells := 0, slots := 0, locals := 0 } : Room).cells ({ frames := 0, cells := 0, slots := 0, locals := 0 } : Room).slots) := by
  refine MetFree.of_bodySF (plainFor_of_name own_pn_0) hisR ?_
  intro p e s m args below meth c s₁ Bd hml0 hP hK
  obtain ⟨rfl, hZ, hh⟩ := hP
  have hx := Bd.exec
  have hby := Bd.bytes
  have hml : c.maxLocals = 7 := hml0
  have hown : s.vm.findClass "com/example/credlib/credlib/policy/NameRuleIsPartPinLaw" = some m.cls := findClass_of_methodNamed Bd.named
  have hnm := (name_of_methodNamed Bd.named Bd.method).1
  have X0 : Stand p l e ({ frames := 0, cells := 0, slots := 0, locals := 0 } : Room) s m #[(.int v1)] below meth c s₁ [] 0 0 := Stand.of_body Bd
  have e0 : s₁.heap = h0 := by rw [← hh, Bd.state]; rfl
  have N0 := Fr.nil n0
  have pre0 : ∀ t, Steps p.tables e below (s₁.setTop (mkF m 0 #[.val (.int v1), .unset, .unset, .unset, .unset, .unset, .unset] [])) t → Steps p.tables e below (s₁.setTop (entryFrame m #[(.int v1)] 7)) t := fun t k => castTop (own_ef_2_I m v1) k
  obtain ⟨fs, hr, hrun, hended, hW, hsame⟩ := X0.leave (v := some (.int (1 : Int32))) (fun h => by rw [Bd.returns] at h; cases h)
  refine ⟨_, _, pre0 _ ?_, hrun, hended, _, _, rfl, ?_, ⟨_, rfl⟩, hW, hsame.mono (by decide) (by decide)⟩
  · show Steps p.tables e below (s₁.setTop (mkF m 0 #[.val (.int v1), .unset, .unset, .unset, .unset, .unset, .unset] [])) _
    refine XS.iloadN X0.here hx rfl (hb hby own_d2_0) rfl ?_
    show Steps p.tables e below (s₁.setTop (mkF m 1 #[.val (.int v1), .unset, .unset, .unset, .unset, .unset, .unset] [(.int v1)])) _
    refine XS.bipush X0.here hx rfl (hb hby own_d2_1) ?_
    show Steps p.tables e below (s₁.setTop (mkF m 3 #[.val (.int v1), .unset, .unset, .unset, .unset, .unset, .unset] [(.int (32 : Int32)), (.int v1)])) _
    refine XS.ior X0.here hx rfl (hb hby own_d2_3) rfl ?_
    show Steps p.tables e below (s₁.setTop (mkF m 4 #[.val (.int v1), .unset, .unset, .unset, .unset, .unset, .unset] [(.int (v1 ||| (32 : Int32)))])) _
    refine XS.istoreN X0.here hx rfl (hb hby own_d2_4) rfl (l' := #[.val (.int v1), .val (.int (v1 ||| (32 : Int32))), .unset, .unset, .unset, .unset, .unset]) rfl ?_
    show Steps p.tables e below (s₁.setTop (mkF m 5 #[.val (.int v1), .val (.int (v1 ||| (32 : Int32))), .unset, .unset, .unset, .unset, .unset] [])) _
    refine XS.iloadN X0.here hx rfl (hb hby own_d2_5) rfl ?_
    show Steps p.tables e below (s₁.setTop (mkF m 6 #[.val (.int v1), .val (.int (v1 ||| (32 : Int32))), .unset, .unset, .unset, .unset, .unset] [(.int (v1 ||| (32 : Int32)))])) _
    refine XS.bipush X0.here hx rfl (hb hby own_d2_6) ?_
    show Steps p.tables e below (s₁.setTop (mkF m 8 #[.val (.int v1), .val (.int (v1 ||| (32 : Int32))), .unset, .unset, .unset, .unset, .unset] [(.int (97 : Int32)), (.int (v1 ||| (32 : Int32)))])) _
    refine XS.icmpNo X0.here hx rfl (hb hby own_d2_8) rfl (flt (hp8 : ¬ ((v1 ||| (32 : Int32)) < (97 : Int32)))).1 ?_
    show Steps p.tables e below (s₁.setTop (mkF m 11 #[.val (.int v1), .val (.int (v1 ||| (32 : Int32))), .unset, .unset, .unset, .unset, .unset] [])) _
    refine XS.iloadN X0.here hx rfl (hb hby own_d2_11) rfl ?_
    show Steps p.tables e below (s₁.setTop (mkF m 12 #[.val (.int v1), .val (.int (v1 ||| (32 : Int32))), .unset, .unset, .unset, .unset, .unset] [(.int (v1 ||| (32 : Int32)))])) _
    refine XS.bipush X0.here hx rfl (hb hby own_d2_12) ?_
    show Steps p.tables e below (s₁.setTop (mkF m 14 #[.val (.int v1), .val (.int (v1 ||| (32 : Int32))), .unset, .unset, .unset, .unset, .unset] [(.int (122 : Int32)), (.int (v1 ||| (32 : Int32)))])) _
    refine XS.icmpYes X0.here hx rfl (pc0 := 14) (pc' := 21) rfl (hb hby own_d2_14) rfl (tlt (hp9 : (122 : Int32) < (v1 ||| (32 : Int32)))).2.2.1 (by decide) (by decide) ?_
    show Steps p.tables e below (s₁.setTop (mkF m 21 #[.val (.int v1), .val (.int (v1 ||| (32 : Int32))), .unset, .unset, .unset, .unset, .unset] [])) _
    refine XS.iconst X0.here hx rfl (hb hby own_d2_21) ?_
    show Steps p.tables e below (s₁.setTop (mkF m 22 #[.val (.int v1), .val (.int (v1 ||| (32 : Int32))), .unset, .unset, .unset, .unset, .unset] [(.int (0 : Int32))])) _
    refine XS.istoreN X0.here hx rfl (hb hby own_d2_22) rfl (l' := #[.val (.int v1), .val (.int (v1 ||| (32 : Int32))), .val (.int (0 : Int32)), .unset, .unset, .unset, .unset]) rfl ?_
    show Steps p.tables e below (s₁.setTop (mkF m 23 #[.val (.int v1), .val (.int (v1 ||| (32 : Int32))), .val (.int (0 : Int32)), .unset, .unset, .unset, .unset] [])) _
    refine XS.iloadN X0.here hx rfl (hb hby own_d2_23) rfl ?_
    show Steps p.tables e below (s₁.setTop (mkF m 24 #[.val (.int v1), .val (.int (v1 ||| (32 : Int32))), .val (.int (0 : Int32)), .unset, .unset, .unset, .unset] [(.int v1)])) _
    refine XS.i2l X0.here hx rfl (hb hby own_d2_24) rfl ?_
    show Steps p.tables e below (s₁.setTop (mkF m 25 #[.val (.int v1), .val (.int (v1 ||| (32 : Int32))), .val (.int (0 : Int32)), .unset, .unset, .unset, .unset] [(.long (v1.toInt64))])) _
    refine Jvm.Stand.ldc2J X0 hx hown (mvT hZ (hw _ (List.mem_of_getElem? (i := 8) rfl))) rfl (hb hby own_d2_25) ?_
    show Steps p.tables e below (s₁.setTop (mkF m 28 #[.val (.int v1), .val (.int (v1 ||| (32 : Int32))), .val (.int (0 : Int32)), .unset, .unset, .unset, .unset] [(.long (48 : Int64)), (.long (v1.toInt64))])) _
    refine XS.lsub X0.here hx rfl (hb hby own_d2_28) rfl ?_
    show Steps p.tables e below (s₁.setTop (mkF m 29 #[.val (.int v1), .val (.int (v1 ||| (32 : Int32))), .val (.int (0 : Int32)), .unset, .unset, .unset, .unset] [(.long ((v1.toInt64) - (48 : Int64)))])) _
    refine XS.lstoreN X0.here hx rfl (hb hby own_d2_29) rfl (l' := #[.val (.int v1), .val (.int (v1 ||| (32 : Int32))), .val (.int (0 : Int32)), .val (.long ((v1.toInt64) - (48 : Int64))), .second, .unset, .unset]) rfl ?_
    show Steps p.tables e below (s₁.setTop (mkF m 30 #[.val (.int v1), .val (.int (v1 ||| (32 : Int32))), .val (.int (0 : Int32)), .val (.long ((v1.toInt64) - (48 : Int64))), .second, .unset, .unset] [])) _
    refine XS.lloadN X0.here hx rfl (hb hby own_d2_30) rfl ?_
    show Steps p.tables e below (s₁.setTop (mkF m 31 #[.val (.int v1), .val (.int (v1 ||| (32 : Int32))), .val (.int (0 : Int32)), .val (.long ((v1.toInt64) - (48 : Int64))), .second, .unset, .unset] [(.long ((v1.toInt64) - (48 : Int64)))])) _
    refine XS.lconst X0.here hx rfl (hb hby own_d2_31) ?_
    show Steps p.tables e below (s₁.setTop (mkF m 32 #[.val (.int v1), .val (.int (v1 ||| (32 : Int32))), .val (.int (0 : Int32)), .val (.long ((v1.toInt64) - (48 : Int64))), .second, .unset, .unset] [(.long (0 : Int64)), (.long ((v1.toInt64) - (48 : Int64)))])) _
    refine XS.lcmp X0.here hx rfl (hb hby own_d2_32) rfl ?_
    show Steps p.tables e below (s₁.setTop (mkF m 33 #[.val (.int v1), .val (.int (v1 ||| (32 : Int32))), .val (.int (0 : Int32)), .val (.long ((v1.toInt64) - (48 : Int64))), .second, .unset, .unset] [(.int (lcmpW ((v1.toInt64) - (48 : Int64)) (0 : Int64)))])) _
    refine XS.ifNo X0.here hx rfl (hb hby own_d2_33) rfl ((if0 _ _).trans (flt (hp10 : ¬ ((lcmpW ((v1.toInt64) - (48 : Int64)) (0 : Int64)) < (0 : Int32)))).1) ?_
    show Steps p.tables e below (s₁.setTop (mkF m 36 #[.val (.int v1), .val (.int (v1 ||| (32 : Int32))), .val (.int (0 : Int32)), .val (.long ((v1.toInt64) - (48 : Int64))), .second, .unset, .unset] [])) _
    refine XS.lloadN X0.here hx rfl (hb hby own_d2_36) rfl ?_
    show Steps p.tables e below (s₁.setTop (mkF m 37 #[.val (.int v1), .val (.int (v1 ||| (32 : Int32))), .val (.int (0 : Int32)), .val (.long ((v1.toInt64) - (48 : Int64))), .second, .unset, .unset] [(.long ((v1.toInt64) - (48 : Int64)))])) _
    refine Jvm.Stand.ldc2J X0 hx hown (mvT hZ (hw _ (List.mem_of_getElem? (i := 20) rfl))) rfl (hb hby own_d2_37) ?_
    show Steps p.tables e below (s₁.setTop (mkF m 40 #[.val (.int v1), .val (.int (v1 ||| (32 : Int32))), .val (.int (0 : Int32)), .val (.long ((v1.toInt64) - (48 : Int64))), .second, .unset, .unset] [(.long (10 : Int64)), (.long ((v1.toInt64) - (48 : Int64)))])) _
    refine XS.lcmp X0.here hx rfl (hb hby own_d2_40) rfl ?_
    show Steps p.tables e below (s₁.setTop (mkF m 41 #[.val (.int v1), .val (.int (v1 ||| (32 : Int32))), .val (.int (0 : Int32)), .val (.long ((v1.toInt64) - (48 : Int64))), .second, .unset, .unset] [(.int (lcmpW ((v1.toInt64) - (48 : Int64)) (10 : Int64)))])) _
    refine XS.ifYes X0.here hx rfl (pc0 := 41) (pc' := 48) rfl (hb hby own_d2_41) rfl ((if0 _ _).trans (flt (hp11 : ¬ ((lcmpW ((v1.toInt64) - (48 : Int64)) (10 : Int64)) < (0 : Int32)))).2.1) (by decide) (by decide) ?_
    show Steps p.tables e below (s₁.setTop (mkF m 48 #[.val (.int v1), .val (.int (v1 ||| (32 : Int32))), .val (.int (0 : Int32)), .val (.long ((v1.toInt64) - (48 : Int64))), .second, .unset, .unset] [])) _
    refine XS.iconst X0.here hx rfl (hb hby own_d2_48) ?_
    show Steps p.tables e below (s₁.setTop (mkF m 49 #[.val (.int v1), .val (.int (v1 ||| (32 : Int32))), .val (.int (0 : Int32)), .val (.long ((v1.toInt64) - (48 : Int64))), .second, .unset, .unset] [(.int (0 : Int32))])) _
    refine XS.istore X0.here hx rfl (hb hby own_d2_49) rfl (l' := #[.val (.int v1), .val (.int (v1 ||| (32 : Int32))), .val (.int (0 : Int32)), .val (.long ((v1.toInt64) - (48 : Int64))), .second, .val (.int (0 : Int32)), .unset]) rfl ?_
    show Steps p.tables e below (s₁.setTop (mkF m 51 #[.val (.int v1), .val (.int (v1 ||| (32 : Int32))), .val (.int (0 : Int32)), .val (.long ((v1.toInt64) - (48 : Int64))), .second, .val (.int (0 : Int32)), .unset] [])) _
    refine XS.iloadN X0.here hx rfl (hb hby own_d2_51) rfl ?_
    show Steps p.tables e below (s₁.setTop (mkF m 52 #[.val (.int v1), .val (.int (v1 ||| (32 : Int32))), .val (.int (0 : Int32)), .val (.long ((v1.toInt64) - (48 : Int64))), .second, .val (.int (0 : Int32)), .unset] [(.int v1)])) _
    refine XS.bipush X0.here hx rfl (hb hby own_d2_52) ?_
    show Steps p.tables e below (s₁.setTop (mkF m 54 #[.val (.int v1), .val (.int (v1 ||| (32 : Int32))), .val (.int (0 : Int32)), .val (.long ((v1.toInt64) - (48 : Int64))), .second, .val (.int (0 : Int32)), .unset] [(.int (95 : Int32)), (.int v1)])) _
    refine XS.icmpNo X0.here hx rfl (hb hby own_d2_54) rfl (teq (hp7 : v1 = (95 : Int32))).2 ?_
    show Steps p.tables e below (s₁.setTop (mkF m 57 #[.val (.int v1), .val (.int (v1 ||| (32 : Int32))), .val (.int (0 : Int32)), .val (.long ((v1.toInt64) - (48 : Int64))), .second, .val (.int (0 : Int32)), .unset] [])) _
    refine XS.iconst X0.here hx rfl (hb hby own_d2_57) ?_
    show Steps p.tables e below (s₁.setTop (mkF m 58 #[.val (.int v1), .val (.int (v1 ||| (32 : Int32))), .val (.int (0 : Int32)), .val (.long ((v1.toInt64) - (48 : Int64))), .second, .val (.int (0 : Int32)), .unset] [(.int (1 : Int32))])) _
    refine XS.goto X0.here hx rfl (pc0 := 58) (pc' := 62) rfl (hb hby own_d2_58) (by decide) (by decide) ?_
    show Steps p.tables e below (s₁.setTop (mkF m 62 #[.val (.int v1), .val (.int (v1 ||| (32 : Int32))), .val (.int (0 : Int32)), .val (.long ((v1.toInt64) - (48 : Int64))), .second, .val (.int (0 : Int32)), .unset] [(.int (1 : Int32))])) _
    refine XS.istore X0.here hx rfl (hb hby own_d2_62) rfl (l' := #[.val (.int v1), .val (.int (v1 ||| (32 : Int32))), .val (.int (0 : Int32)), .val (.long ((v1.toInt64) - (48 : Int64))), .second, .val (.int (0 : Int32)), .val (.int (1 : Int32))]) rfl ?_
    show Steps p.tables e below (s₁.setTop (mkF m 64 #[.val (.int v1), .val (.int (v1 ||| (32 : Int32))), .val (.int (0 : Int32)), .val (.long ((v1.toInt64) - (48 : Int64))), .second, .val (.int (0 : Int32)), .val (.int (1 : Int32))] [])) _
    refine XS.iloadN X0.here hx rfl (hb hby own_d2_64) rfl ?_
    show Steps p.tables e below (s₁.setTop (mkF m 65 #[.val (.int v1), .val (.int (v1 ||| (32 : Int32))), .val (.int (0 : Int32)), .val (.long ((v1.toInt64) - (48 : Int64))), .second, .val (.int (0 : Int32)), .val (.int (1 : Int32))] [(.int (0 : Int32))])) _
    refine XS.ifNo X0.here hx rfl (hb hby own_d2_65) rfl (by decide) ?_
    show Steps p.tables e below (s₁.setTop (mkF m 68 #[.val (.int v1), .val (.int (v1 ||| (32 : Int32))), .val (.int (0 : Int32)), .val (.long ((v1.toInt64) - (48 : Int64))), .second, .val (.int (0 : Int32)), .val (.int (1 : Int32))] [])) _
    refine XS.iload X0.here hx rfl (hb hby own_d2_68) rfl ?_
    show Steps p.tables e below (s₁.setTop (mkF m 70 #[.val (.int v1), .val (.int (v1 ||| (32 : Int32))), .val (.int (0 : Int32)), .val (.long ((v1.toInt64) - (48 : Int64))), .second, .val (.int (0 : Int32)), .val (.int (1 : Int32))] [(.int (0 : Int32))])) _
    refine XS.ifNo X0.here hx rfl (hb hby own_d2_70) rfl (by decide) ?_
    show Steps p.tables e below (s₁.setTop (mkF m 73 #[.val (.int v1), .val (.int (v1 ||| (32 : Int32))), .val (.int (0 : Int32)), .val (.long ((v1.toInt64) - (48 : Int64))), .second, .val (.int (0 : Int32)), .val (.int (1 : Int32))] [])) _
    refine XS.iload X0.here hx rfl (hb hby own_d2_73) rfl ?_
    show Steps p.tables e below (s₁.setTop (mkF m 75 #[.val (.int v1), .val (.int (v1 ||| (32 : Int32))), .val (.int (0 : Int32)), .val (.long ((v1.toInt64) - (48 : Int64))), .second, .val (.int (0 : Int32)), .val (.int (1 : Int32))] [(.int (1 : Int32))])) _
    refine XS.ifNo X0.here hx rfl (hb hby own_d2_75) rfl (by decide) ?_
    show Steps p.tables e below (s₁.setTop (mkF m 78 #[.val (.int v1), .val (.int (v1 ||| (32 : Int32))), .val (.int (0 : Int32)), .val (.long ((v1.toInt64) - (48 : Int64))), .second, .val (.int (0 : Int32)), .val (.int (1 : Int32))] [])) _
    refine XS.iconst X0.here hx rfl (hb hby own_d2_78) ?_
    show Steps p.tables e below (s₁.setTop (mkF m 79 #[.val (.int v1), .val (.int (v1 ||| (32 : Int32))), .val (.int (0 : Int32)), .val (.long ((v1.toInt64) - (48 : Int64))), .second, .val (.int (0 : Int32)), .val (.int (1 : Int32))] [(.int (1 : Int32))])) _
    refine XS.goto X0.here hx rfl (pc0 := 79) (pc' := 83) rfl (hb hby own_d2_79) (by decide) (by decide) ?_
    show Steps p.tables e below (s₁.setTop (mkF m 83 #[.val (.int v1), .val (.int (v1 ||| (32 : Int32))), .val (.int (0 : Int32)), .val (.long ((v1.toInt64) - (48 : Int64))), .second, .val (.int (0 : Int32)), .val (.int (1 : Int32))] [(.int (1 : Int32))])) _
    exact retN X0 hx (t := .boolean) Bd.returns (by simp) (hb hby own_d2_83) hr
  · show OwnQ _ h0 n0 _ s₁.heap _
    exact ⟨rfl, N0, e0⟩
set_option maxRecDepth 65536 in
set_option maxHeartbeats 40000000 in
theorem own_isStart_22 (l : Launch) (Z : State) (a0 : Array Value) (hw : ∀ d ∈ tables_1, d.before a0 Z = true) (ws : List Jvm.Cond) (wENTITY : Addr) (wROLE_NAME : Addr) (G : OwnG Z wENTITY wROLE_NAME) (h0 : Heap) (n0 : Nat) (O0 : Old Z n0 h0) (v1 : Int32) (hp1 : ¬ (v1 < (65 : Int32))) (hp2 : (90 : Int32) < v1) (hp3 : v1 < (97 : Int32)) (hp4 : ¬ ((122 : Int32) < v1)) (hp5 : ¬ (v1 < (48 : Int32))) (hp6 : (57 : Int32) < v1) (hp7 : v1 = (95 : Int32)) (hp8 : ¬ ((v1 ||| (32 : Int32)) < (97 : Int32))) (hp9 : (122 : Int32) < (v1 ||| (32 : Int32))) (hp10 : ¬ ((lcmpW ((v1.toInt64) - (48 : Int64)) (0 : Int64)) < (0 : Int32))) (hp11 : ¬ ((lcmpW ((v1.toInt64) - (48 : Int64)) (10 : Int64)) < (0 : Int32))) :
    MetFree l (⟨"com/example/credlib/credlib/policy/NameRule", "isStart", "(I)Z"⟩ : MethodName) (head1 (Jvm.Cond.code (⟨"com/example/credlib/credlib/policy/NameRule", "isStart", "(I)Z"⟩ : MethodName) prog_30_method_6_code 2 (some .boolean) :: ws) ({ frames := 0, cells := 0, slots := 0, locals := 0 } : Room)) (fun a U => a = #[(.ref wENTITY), (.int v1)] ∧ Z.Warmed39 U.vm ∧ U.heap = h0) (fun _ _ _ _ _ => True) (fun _ U o U' => ∃ v L, o = .returned v ∧ OwnQ (some (.int (0 : Int32))) h0 n0 v U'.heap L ∧ FrameEnd U o U' L ({ frames := 0, cells := 0, slots := 0, locals := 0 } : Room).cells ({ frames := 0, cells := 0, slots := 0, locals := 0 } : Room).slots) := by
  refine MetFree.of_bodySF (plainFor_of_name own_pn_1) hisR ?_
  intro p e s m args below meth c s₁ Bd hml0 hP hK
  obtain ⟨rfl, hZ, hh⟩ := hP
  have hx := Bd.exec
  have hby := Bd.bytes
  have hml : c.maxLocals = 2 := hml0
  have hown : s.vm.findClass "com/example/credlib/credlib/policy/NameRule" = some m.cls := findClass_of_methodNamed Bd.named
  have hnm := (name_of_methodNamed Bd.named Bd.method).1
  have X0 : Stand p l e ({ frames := 0, cells := 0, slots := 0, locals := 0 } : Room) s m #[(.ref wENTITY), (.int v1)] below meth c s₁ [] 0 0 := Stand.of_body Bd
  have e0 : s₁.heap = h0 := by rw [← hh, Bd.state]; rfl
  have N0 := Fr.nil n0
  have pre0 : ∀ t, Steps p.tables e below (s₁.setTop (mkF m 0 #[.val (.ref wENTITY), .val (.int v1)] [])) t → Steps p.tables e below (s₁.setTop (entryFrame m #[(.ref wENTITY), (.int v1)] 2)) t := fun t k => castTop (own_ef_3_RI m wENTITY v1) k
  obtain ⟨T1, X1, e1, st1⟩ := getF X0 hx hZ hown (host := "") (Or.inl (hw _ (List.mem_of_getElem? (i := 16) rfl))) Via.refl e0 (G.2.2.2.2.1.ext O0.2) (g := (mkF m 2 #[.val (.ref wENTITY), .val (.int v1)] [(.ref wENTITY), (.int v1)])) rfl rfl (hb hby own_d3_2)
  obtain ⟨T2, X2, e2, st2⟩ := getF X1 hx hZ hown (host := "") (Or.inl (hw _ (List.mem_of_getElem? (i := 21) rfl))) Via.refl e1 (G.2.2.2.2.2.2.1.ext O0.2) (g := (mkF m 10 #[.val (.ref wENTITY), .val (.int v1)] [(.ref wENTITY), (.int v1)])) rfl rfl (hb hby own_d3_10)
  obtain ⟨fs, hr, hrun, hended, hW, hsame⟩ := X2.leave (v := some (.int (0 : Int32))) (fun h => by rw [Bd.returns] at h; cases h)
  refine ⟨_, _, pre0 _ ?_, hrun, hended, _, _, rfl, ?_, ⟨_, rfl⟩, hW, hsame.mono (by decide) (by decide)⟩
  · show Steps p.tables e below (s₁.setTop (mkF m 0 #[.val (.ref wENTITY), .val (.int v1)] [])) _
    refine XS.iloadN X0.here hx rfl (hb hby own_d3_0) rfl ?_
    show Steps p.tables e below (s₁.setTop (mkF m 1 #[.val (.ref wENTITY), .val (.int v1)] [(.int v1)])) _
    refine XS.aloadN X0.here hx rfl (hb hby own_d3_1) rfl rfl ?_
    show Steps p.tables e below (s₁.setTop (mkF m 2 #[.val (.ref wENTITY), .val (.int v1)] [(.ref wENTITY), (.int v1)])) _
    refine st1 _ ?_
    show Steps p.tables e below (T1.setTop (mkF m 5 #[.val (.ref wENTITY), .val (.int v1)] [(.int (65 : Int32)), (.int v1)])) _
    refine XS.icmpNo X1.here hx rfl (hb hby own_d3_5) rfl (flt (hp1 : ¬ (v1 < (65 : Int32)))).1 ?_
    show Steps p.tables e below (T1.setTop (mkF m 8 #[.val (.ref wENTITY), .val (.int v1)] [])) _
    refine XS.iloadN X1.here hx rfl (hb hby own_d3_8) rfl ?_
    show Steps p.tables e below (T1.setTop (mkF m 9 #[.val (.ref wENTITY), .val (.int v1)] [(.int v1)])) _
    refine XS.aloadN X1.here hx rfl (hb hby own_d3_9) rfl rfl ?_
    show Steps p.tables e below (T1.setTop (mkF m 10 #[.val (.ref wENTITY), .val (.int v1)] [(.ref wENTITY), (.int v1)])) _
    refine st2 _ ?_
    show Steps p.tables e below (T2.setTop (mkF m 13 #[.val (.ref wENTITY), .val (.int v1)] [(.int (90 : Int32)), (.int v1)])) _
    refine XS.icmpYes X2.here hx rfl (pc0 := 13) (pc' := 20) rfl (hb hby own_d3_13) rfl (tlt (hp2 : (90 : Int32) < v1)).2.2.1 (by decide) (by decide) ?_
    show Steps p.tables e below (T2.setTop (mkF m 20 #[.val (.ref wENTITY), .val (.int v1)] [])) _
    refine XS.iconst X2.here hx rfl (hb hby own_d3_20) ?_
    show Steps p.tables e below (T2.setTop (mkF m 21 #[.val (.ref wENTITY), .val (.int v1)] [(.int (0 : Int32))])) _
    exact retN X2 hx (t := .boolean) Bd.returns (by simp) (hb hby own_d3_21) hr
  · show OwnQ _ h0 n0 _ T2.heap _
    exact ⟨rfl, N0, e2⟩
set_option maxRecDepth 65536 in
set_option maxHeartbeats 40000000 in
theorem own_isStart_23 (l : Launch) (Z : State) (a0 : Array Value) (hw : ∀ d ∈ tables_1, d.before a0 Z = true) (ws : List Jvm.Cond) (wENTITY : Addr) (wROLE_NAME : Addr) (G : OwnG Z wENTITY wROLE_NAME) (h0 : Heap) (n0 : Nat) (O0 : Old Z n0 h0) (v1 : Int32) (hp1 : ¬ (v1 < (65 : Int32))) (hp2 : (90 : Int32) < v1) (hp3 : v1 < (97 : Int32)) (hp4 : ¬ ((122 : Int32) < v1)) (hp5 : ¬ (v1 < (48 : Int32))) (hp6 : (57 : Int32) < v1) (hp7 : v1 = (95 : Int32)) (hp8 : ¬ ((v1 ||| (32 : Int32)) < (97 : Int32))) (hp9 : (122 : Int32) < (v1 ||| (32 : Int32))) (hp10 : ¬ ((lcmpW ((v1.toInt64) - (48 : Int64)) (0 : Int64)) < (0 : Int32))) (hp11 : ¬ ((lcmpW ((v1.toInt64) - (48 : Int64)) (10 : Int64)) < (0 : Int32))) :
    MetFree l (⟨"com/example/credlib/credlib/policy/NameRule", "isStart", "(I)Z"⟩ : MethodName) (head1 (Jvm.Cond.code (⟨"com/example/credlib/credlib/policy/NameRule", "isStart", "(I)Z"⟩ : MethodName) prog_30_method_6_code 2 (some .boolean) :: ws) ({ frames := 0, cells := 0, slots := 0, locals := 0 } : Room)) (fun a U => a = #[(.ref wROLE_NAME), (.int v1)] ∧ Z.Warmed39 U.vm ∧ U.heap = h0) (fun _ _ _ _ _ => True) (fun _ U o U' => ∃ v L, o = .returned v ∧ OwnQ (some (.int (0 : Int32))) h0 n0 v U'.heap L ∧ FrameEnd U o U' L ({ frames := 0, cells := 0, slots := 0, locals := 0 } : Room).cells ({ frames := 0, cells := 0, slots := 0, locals := 0 } : Room).slots) := by
  refine MetFree.of_bodySF (plainFor_of_name own_pn_1) hisR ?_
  intro p e s m args below meth c s₁ Bd hml0 hP hK
  obtain ⟨rfl, hZ, hh⟩ := hP
  have hx := Bd.exec
  have hby := Bd.bytes
  have hml : c.maxLocals = 2 := hml0
  have hown : s.vm.findClass "com/example/credlib/credlib/policy/NameRule" = some m.cls := findClass_of_methodNamed Bd.named
  have hnm := (name_of_methodNamed Bd.named Bd.method).1
  have X0 : Stand p l e ({ frames := 0, cells := 0, slots := 0, locals := 0 } : Room) s m #[(.ref wROLE_NAME), (.int v1)] below meth c s₁ [] 0 0 := Stand.of_body Bd
  have e0 : s₁.heap = h0 := by rw [← hh, Bd.state]; rfl
  have N0 := Fr.nil n0
  have pre0 : ∀ t, Steps p.tables e below (s₁.setTop (mkF m 0 #[.val (.ref wROLE_NAME), .val (.int v1)] [])) t → Steps p.tables e below (s₁.setTop (entryFrame m #[(.ref wROLE_NAME), (.int v1)] 2)) t := fun t k => castTop (own_ef_3_RI m wROLE_NAME v1) k
  obtain ⟨T1, X1, e1, st1⟩ := getF X0 hx hZ hown (host := "") (Or.inl (hw _ (List.mem_of_getElem? (i := 16) rfl))) Via.refl e0 (G.2.2.2.2.2.1.ext O0.2) (g := (mkF m 2 #[.val (.ref wROLE_NAME), .val (.int v1)] [(.ref wROLE_NAME), (.int v1)])) rfl rfl (hb hby own_d3_2)
  obtain ⟨fs, hr, hrun, hended, hW, hsame⟩ := X1.leave (v := some (.int (0 : Int32))) (fun h => by rw [Bd.returns] at h; cases h)
  refine ⟨_, _, pre0 _ ?_, hrun, hended, _, _, rfl, ?_, ⟨_, rfl⟩, hW, hsame.mono (by decide) (by decide)⟩
  · show Steps p.tables e below (s₁.setTop (mkF m 0 #[.val (.ref wROLE_NAME), .val (.int v1)] [])) _
    refine XS.iloadN X0.here hx rfl (hb hby own_d3_0) rfl ?_
    show Steps p.tables e below (s₁.setTop (mkF m 1 #[.val (.ref wROLE_NAME), .val (.int v1)] [(.int v1)])) _
    refine XS.aloadN X0.here hx rfl (hb hby own_d3_1) rfl rfl ?_
    show Steps p.tables e below (s₁.setTop (mkF m 2 #[.val (.ref wROLE_NAME), .val (.int v1)] [(.ref wROLE_NAME), (.int v1)])) _
    refine st1 _ ?_
    show Steps p.tables e below (T1.setTop (mkF m 5 #[.val (.ref wROLE_NAME), .val (.int v1)] [(.int (97 : Int32)), (.int v1)])) _
    refine XS.icmpYes X1.here hx rfl (pc0 := 5) (pc' := 20) rfl (hb hby own_d3_5) rfl (tlt (hp3 : v1 < (97 : Int32))).1 (by decide) (by decide) ?_
    show Steps p.tables e below (T1.setTop (mkF m 20 #[.val (.ref wROLE_NAME), .val (.int v1)] [])) _
    refine XS.iconst X1.here hx rfl (hb hby own_d3_20) ?_
    show Steps p.tables e below (T1.setTop (mkF m 21 #[.val (.ref wROLE_NAME), .val (.int v1)] [(.int (0 : Int32))])) _
    exact retN X1 hx (t := .boolean) Bd.returns (by simp) (hb hby own_d3_21) hr
  · show OwnQ _ h0 n0 _ T1.heap _
    exact ⟨rfl, N0, e1⟩
set_option maxRecDepth 65536 in
set_option maxHeartbeats 40000000 in
theorem own_law_05 (l : Launch) (Z : State) (a0 : Array Value) (hw : ∀ d ∈ tables_1, d.before a0 Z = true) (ws : List Jvm.Cond) (wENTITY : Addr) (wROLE_NAME : Addr) (G : OwnG Z wENTITY wROLE_NAME) (h0 : Heap) (n0 : Nat) (O0 : Old Z n0 h0) (p1 : Int32) (p2 : Int32) (he : (p2 &&& (1 : Int32)) = (0 : Int32)) (aa0 : ¬ ((p1 &&& (255 : Int32)) < (65 : Int32))) (aa1 : (90 : Int32) < (p1 &&& (255 : Int32))) (aa2 : (p1 &&& (255 : Int32)) < (97 : Int32)) (aa3 : ¬ ((122 : Int32) < (p1 &&& (255 : Int32)))) (aa4 : ¬ ((p1 &&& (255 : Int32)) < (48 : Int32))) (aa5 : (57 : Int32) < (p1 &&& (255 : Int32))) (aa6 : (p1 &&& (255 : Int32)) = (95 : Int32)) (aa7 : ¬ (((p1 &&& (255 : Int32)) ||| (32 : Int32)) < (97 : Int32))) (aa8 : (122 : Int32) < ((p1 &&& (255 : Int32)) ||| (32 : Int32))) (aa9 : ¬ ((lcmpW (((p1 &&& (255 : Int32)).toInt64) - (48 : Int64)) (0 : Int64)) < (0 : Int32))) (aa10 : ¬ ((lcmpW (((p1 &&& (255 : Int32)).toInt64) - (48 : Int64)) (10 : Int64)) < (0 : Int32))) :
    MetFree l x (head1 (Jvm.Cond.code x code maxLocals ret :: ws) room_1) (fun a U => a = #[(.int p1), (.int p2)] ∧ Z.Warmed39 U.vm ∧ U.heap = h0) (fun _ _ _ _ _ => True) (fun _ U o U' => ∃ v L, o = .returned v ∧ (v = some (.int 1) ∧ Fr n0 L) ∧ FrameEnd U o U' L room_1.cells room_1.slots) := by
  refine MetFree.of_bodySF (plainFor_of_name own_pn_0) hisR ?_
  intro p e s m args below meth c s₁ Bd hml0 hP hK
  obtain ⟨rfl, hZ, hh⟩ := hP
  have hx := Bd.exec
  have hby := Bd.bytes
  have hml : c.maxLocals = 4 := hml0
  have hown : s.vm.findClass "com/example/credlib/credlib/policy/NameRuleIsPartPinLaw" = some m.cls := findClass_of_methodNamed Bd.named
  have hnm := (name_of_methodNamed Bd.named Bd.method).1
  have X0 : Stand p l e room_1 s m #[(.int p1), (.int p2)] below meth c s₁ [] 0 0 := Stand.of_body Bd
  have e0 : s₁.heap = h0 := by rw [← hh, Bd.state]; rfl
  have N0 := Fr.nil n0
  have pre0 : ∀ t, Steps p.tables e below (s₁.setTop (mkF m 0 #[.val (.int p1), .val (.int p2), .unset, .unset] [])) t → Steps p.tables e below (s₁.setTop (entryFrame m #[(.int p1), (.int p2)] maxLocals)) t := fun t k => castTop (own_ef_0_II m p1 p2) k
  obtain ⟨_, _, ⟨T1, L1, k1, n1⟩, -, X1, ⟨Lc1, hQ1, l1, y1, z1⟩, st1⟩ := Jvm.LawKit.callS X0 hx (y := (⟨"com/example/credlib/credlib/policy/NameRule", "isPart", "(I)Z"⟩ : MethodName)) hown (mvT hZ (hw _ (List.mem_of_getElem? (i := 0) rfl))) (mvT hZ (hw _ (List.mem_of_getElem? (i := 1) rfl))) (mvT hZ (hw _ (List.mem_of_getElem? (i := 2) rfl))) (mvT hZ (hw _ (List.mem_of_getElem? (i := 3) rfl))) (by decide) (backOf (W := 0) (own_isPart_20 l Z a0 hw [] wENTITY wROLE_NAME G h0 n0 O0 (p1 &&& (255 : Int32)) aa0 aa1 aa2 aa3 aa4 aa5 aa6 aa7 aa8 aa9 aa10) hZ (hw _ (List.mem_of_getElem? (i := 3) rfl)) (hw _ (List.mem_of_getElem? (i := 2) rfl)) (by decide) (by decide)) (g := (mkF m 17 #[.val (.int p1), .val (.int p2), .val (.int (p1 &&& (255 : Int32))), .unset] [(.int (p1 &&& (255 : Int32)))])) rfl (by rw [hml]; rfl) (argsL := [(.int (p1 &&& (255 : Int32)))]) (rest := []) (lenOf own_pd_0 rfl) rfl (by show 2 * 0 + _ ≤ _; exact Nat.le_of_eq rfl) (hb hby at_17) (fun _ _ => ⟨rfl, e0, (by decide : 0 + 0 ≤ _), (by decide : 0 + 0 ≤ _)⟩)
  dsimp only [Pt.U, Pt.locs, Pt.cells, Pt.slots] at X1 l1 y1 z1 st1 hQ1
  subst l1 y1 z1
  obtain ⟨rfl, N1q, e1⟩ := hQ1
  have N1 := Fr.app N0 N1q
  obtain ⟨_, _, ⟨T2, L2, k2, n2⟩, -, X2, ⟨Lc2, hQ2, l2, y2, z2⟩, st2⟩ := Jvm.LawKit.callS X1 hx (y := (⟨"com/example/credlib/credlib/policy/NameRuleIsPartPinLaw", "expected", "(I)Z"⟩ : MethodName)) hown (mvT hZ (hw _ (List.mem_of_getElem? (i := 4) rfl))) (mvT hZ (hw _ (List.mem_of_getElem? (i := 5) rfl))) (mvT hZ (hw _ (List.mem_of_getElem? (i := 6) rfl))) (mvT hZ (hw _ (List.mem_of_getElem? (i := 7) rfl))) (by decide) (backOf (W := 1) (own_expected_21 l Z a0 hw [] wENTITY wROLE_NAME G h0 n0 O0 (p1 &&& (255 : Int32)) aa0 aa1 aa2 aa3 aa4 aa5 aa6 aa7 aa8 aa9 aa10) hZ (hw _ (List.mem_of_getElem? (i := 7) rfl)) (hw _ (List.mem_of_getElem? (i := 6) rfl)) (by decide) (by decide)) (g := (mkF m 23 #[.val (.int p1), .val (.int p2), .val (.int (p1 &&& (255 : Int32))), .val (.int (1 : Int32))] [(.int (p1 &&& (255 : Int32))), (.int (1 : Int32))])) rfl (by rw [hml]; rfl) (argsL := [(.int (p1 &&& (255 : Int32)))]) (rest := [(.int (1 : Int32))]) (lenOf own_pd_0 rfl) rfl (by show 2 * 0 + _ ≤ _; exact Nat.le_of_eq rfl) (hb hby at_23) (fun _ _ => ⟨rfl, e1, (by decide : 0 + 0 ≤ _), (by decide : 0 + 0 ≤ _)⟩)
  dsimp only [Pt.U, Pt.locs, Pt.cells, Pt.slots] at X2 l2 y2 z2 st2 hQ2
  subst l2 y2 z2
  obtain ⟨rfl, N2q, e2⟩ := hQ2
  have N2 := Fr.app N1 N2q
  obtain ⟨T3, X3, e3, st3⟩ := getS2 X2 hx hZ hown (host := "") (Or.inl (hw _ (List.mem_of_getElem? (i := 9) rfl))) Via.refl e2 (G.1.ext O0.2) (g := (mkF m 31 #[.val (.int p1), .val (.int p2), .val (.int (p1 &&& (255 : Int32))), .val (.int (1 : Int32))] [])) rfl (hb hby at_31)
  obtain ⟨cq4, kq4, q4a, q4b, q4c⟩ := isOf hZ e3 (G.2.1.ext O0.2)
  obtain ⟨_, _, ⟨T4, L4, k4, n4⟩, -, X4, ⟨Lc4, hQ4, l4, y4, z4⟩, st4⟩ := X3.virtualBack hx (y := (⟨"com/example/credlib/credlib/policy/NameRule", "isStart", "(I)Z"⟩ : MethodName)) (z := (⟨"com/example/credlib/credlib/policy/NameRule", "isStart", "(I)Z"⟩ : MethodName)) hown (mvT hZ (hw _ (List.mem_of_getElem? (i := 11) rfl))) (mvT hZ (hw _ (List.mem_of_getElem? (i := 12) rfl))) (notFace_of_selects (args := #[]) (mvT hZ (hw _ (List.mem_of_getElem? (i := 14) rfl)))) (mvT hZ (hw _ (List.mem_of_getElem? (i := 14) rfl))) (mvT hZ (hw _ (List.mem_of_getElem? (i := 13) rfl))) (by decide) (backOf (W := 0) (own_isStart_22 l Z a0 hw [] wENTITY wROLE_NAME G h0 n0 O0 (p1 &&& (255 : Int32)) aa0 aa1 aa2 aa3 aa4 aa5 aa6 aa7 aa8 aa9 aa10) hZ (hw _ (List.mem_of_getElem? (i := 15) rfl)) (hw _ (List.mem_of_getElem? (i := 2) rfl)) (by decide) (by decide)) q4a q4c (g := (mkF m 35 #[.val (.int p1), .val (.int p2), .val (.int (p1 &&& (255 : Int32))), .val (.int (1 : Int32))] [(.int (p1 &&& (255 : Int32))), (.ref wENTITY)])) rfl (by rw [hml]; rfl) (Steps.refl _) (argsL := [(.int (p1 &&& (255 : Int32)))]) (rest := []) (lenOf own_pd_0 rfl) rfl (by show 2 * 0 + _ ≤ _; exact Nat.le_of_eq rfl) (hb hby at_35) (fun _ _ => ⟨rfl, e3, (by decide : 0 + 0 ≤ _), (by decide : 0 + 0 ≤ _)⟩)
  dsimp only [Pt.U, Pt.locs, Pt.cells, Pt.slots] at X4 l4 y4 z4 st4 hQ4
  subst l4 y4 z4
  obtain ⟨rfl, N4q, e4⟩ := hQ4
  have N4 := Fr.app N2 N4q
  obtain ⟨T5, X5, e5, st5⟩ := getS2 X4 hx hZ hown (host := "") (Or.inl (hw _ (List.mem_of_getElem? (i := 18) rfl))) Via.refl e4 (G.2.2.1.ext O0.2) (g := (mkF m 47 #[.val (.int p1), .val (.int p2), .val (.int (p1 &&& (255 : Int32))), .val (.int (1 : Int32))] [])) rfl (hb hby at_47)
  obtain ⟨cq6, kq6, q6a, q6b, q6c⟩ := isOf hZ e5 (G.2.2.2.1.ext O0.2)
  obtain ⟨_, _, ⟨T6, L6, k6, n6⟩, -, X6, ⟨Lc6, hQ6, l6, y6, z6⟩, st6⟩ := X5.virtualBack hx (y := (⟨"com/example/credlib/credlib/policy/NameRule", "isStart", "(I)Z"⟩ : MethodName)) (z := (⟨"com/example/credlib/credlib/policy/NameRule", "isStart", "(I)Z"⟩ : MethodName)) hown (mvT hZ (hw _ (List.mem_of_getElem? (i := 11) rfl))) (mvT hZ (hw _ (List.mem_of_getElem? (i := 12) rfl))) (notFace_of_selects (args := #[]) (mvT hZ (hw _ (List.mem_of_getElem? (i := 14) rfl)))) (mvT hZ (hw _ (List.mem_of_getElem? (i := 14) rfl))) (mvT hZ (hw _ (List.mem_of_getElem? (i := 13) rfl))) (by decide) (backOf (W := 0) (own_isStart_23 l Z a0 hw [] wENTITY wROLE_NAME G h0 n0 O0 (p1 &&& (255 : Int32)) aa0 aa1 aa2 aa3 aa4 aa5 aa6 aa7 aa8 aa9 aa10) hZ (hw _ (List.mem_of_getElem? (i := 15) rfl)) (hw _ (List.mem_of_getElem? (i := 2) rfl)) (by decide) (by decide)) q6a q6c (g := (mkF m 51 #[.val (.int p1), .val (.int p2), .val (.int (p1 &&& (255 : Int32))), .val (.int (1 : Int32))] [(.int (p1 &&& (255 : Int32))), (.ref wROLE_NAME)])) rfl (by rw [hml]; rfl) (Steps.refl _) (argsL := [(.int (p1 &&& (255 : Int32)))]) (rest := []) (lenOf own_pd_0 rfl) rfl (by show 2 * 0 + _ ≤ _; exact Nat.le_of_eq rfl) (hb hby at_51) (fun _ _ => ⟨rfl, e5, (by decide : 0 + 0 ≤ _), (by decide : 0 + 0 ≤ _)⟩)
  dsimp only [Pt.U, Pt.locs, Pt.cells, Pt.slots] at X6 l6 y6 z6 st6 hQ6
  subst l6 y6 z6
  obtain ⟨rfl, N6q, e6⟩ := hQ6
  have N6 := Fr.app N4 N6q
  obtain ⟨fs, hr, hrun, hended, hW, hsame⟩ := X6.leave (v := some (.int (1 : Int32))) (fun h => by rw [Bd.returns] at h; cases h)
  refine ⟨_, _, pre0 _ ?_, hrun, hended, _, _, rfl, ?_, ⟨_, rfl⟩, hW, hsame.mono (by decide) (by decide)⟩
  · show Steps p.tables e below (s₁.setTop (mkF m 0 #[.val (.int p1), .val (.int p2), .unset, .unset] [])) _
    refine XS.iloadN X0.here hx rfl (hb hby at_0) rfl ?_
    show Steps p.tables e below (s₁.setTop (mkF m 1 #[.val (.int p1), .val (.int p2), .unset, .unset] [(.int p2)])) _
    refine XS.iconst X0.here hx rfl (hb hby at_1) ?_
    show Steps p.tables e below (s₁.setTop (mkF m 2 #[.val (.int p1), .val (.int p2), .unset, .unset] [(.int (1 : Int32)), (.int p2)])) _
    refine XS.iand X0.here hx rfl (hb hby at_2) rfl ?_
    show Steps p.tables e below (s₁.setTop (mkF m 3 #[.val (.int p1), .val (.int p2), .unset, .unset] [(.int (p2 &&& (1 : Int32)))])) _
    refine XS.ifYes X0.here hx rfl (pc0 := 3) (pc' := 10) rfl (hb hby at_3) rfl ((if0 _ _).trans (teq (he : (p2 &&& (1 : Int32)) = (0 : Int32))).1) (by decide) (by decide) ?_
    show Steps p.tables e below (s₁.setTop (mkF m 10 #[.val (.int p1), .val (.int p2), .unset, .unset] [])) _
    refine XS.iloadN X0.here hx rfl (hb hby at_10) rfl ?_
    show Steps p.tables e below (s₁.setTop (mkF m 11 #[.val (.int p1), .val (.int p2), .unset, .unset] [(.int p1)])) _
    refine XS.sipush X0.here hx rfl (hb hby at_11) ?_
    show Steps p.tables e below (s₁.setTop (mkF m 14 #[.val (.int p1), .val (.int p2), .unset, .unset] [(.int (255 : Int32)), (.int p1)])) _
    refine XS.iand X0.here hx rfl (hb hby at_14) rfl ?_
    show Steps p.tables e below (s₁.setTop (mkF m 15 #[.val (.int p1), .val (.int p2), .unset, .unset] [(.int (p1 &&& (255 : Int32)))])) _
    refine XS.istoreN X0.here hx rfl (hb hby at_15) rfl (l' := #[.val (.int p1), .val (.int p2), .val (.int (p1 &&& (255 : Int32))), .unset]) rfl ?_
    show Steps p.tables e below (s₁.setTop (mkF m 16 #[.val (.int p1), .val (.int p2), .val (.int (p1 &&& (255 : Int32))), .unset] [])) _
    refine XS.iloadN X0.here hx rfl (hb hby at_16) rfl ?_
    show Steps p.tables e below (s₁.setTop (mkF m 17 #[.val (.int p1), .val (.int p2), .val (.int (p1 &&& (255 : Int32))), .unset] [(.int (p1 &&& (255 : Int32)))])) _
    refine st1 _ ?_
    show Steps p.tables e below (T1.setTop (mkF m 20 #[.val (.int p1), .val (.int p2), .val (.int (p1 &&& (255 : Int32))), .unset] [(.int (1 : Int32))])) _
    refine XS.istoreN X1.here hx rfl (hb hby at_20) rfl (l' := #[.val (.int p1), .val (.int p2), .val (.int (p1 &&& (255 : Int32))), .val (.int (1 : Int32))]) rfl ?_
    show Steps p.tables e below (T1.setTop (mkF m 21 #[.val (.int p1), .val (.int p2), .val (.int (p1 &&& (255 : Int32))), .val (.int (1 : Int32))] [])) _
    refine XS.iloadN X1.here hx rfl (hb hby at_21) rfl ?_
    show Steps p.tables e below (T1.setTop (mkF m 22 #[.val (.int p1), .val (.int p2), .val (.int (p1 &&& (255 : Int32))), .val (.int (1 : Int32))] [(.int (1 : Int32))])) _
    refine XS.iloadN X1.here hx rfl (hb hby at_22) rfl ?_
    show Steps p.tables e below (T1.setTop (mkF m 23 #[.val (.int p1), .val (.int p2), .val (.int (p1 &&& (255 : Int32))), .val (.int (1 : Int32))] [(.int (p1 &&& (255 : Int32))), (.int (1 : Int32))])) _
    refine st2 _ ?_
    show Steps p.tables e below (T2.setTop (mkF m 26 #[.val (.int p1), .val (.int p2), .val (.int (p1 &&& (255 : Int32))), .val (.int (1 : Int32))] [(.int (1 : Int32)), (.int (1 : Int32))])) _
    refine XS.icmpYes X2.here hx rfl (pc0 := 26) (pc' := 31) rfl (hb hby at_26) rfl (by decide) (by decide) (by decide) ?_
    show Steps p.tables e below (T2.setTop (mkF m 31 #[.val (.int p1), .val (.int p2), .val (.int (p1 &&& (255 : Int32))), .val (.int (1 : Int32))] [])) _
    refine st3 _ ?_
    show Steps p.tables e below (T3.setTop (mkF m 34 #[.val (.int p1), .val (.int p2), .val (.int (p1 &&& (255 : Int32))), .val (.int (1 : Int32))] [(.ref wENTITY)])) _
    refine XS.iloadN X3.here hx rfl (hb hby at_34) rfl ?_
    show Steps p.tables e below (T3.setTop (mkF m 35 #[.val (.int p1), .val (.int p2), .val (.int (p1 &&& (255 : Int32))), .val (.int (1 : Int32))] [(.int (p1 &&& (255 : Int32))), (.ref wENTITY)])) _
    refine st4.trans ?_
    show Steps p.tables e below (T4.setTop (mkF m 38 #[.val (.int p1), .val (.int p2), .val (.int (p1 &&& (255 : Int32))), .val (.int (1 : Int32))] [(.int (0 : Int32))])) _
    refine XS.ifYes X4.here hx rfl (pc0 := 38) (pc' := 47) rfl (hb hby at_38) rfl (by decide) (by decide) (by decide) ?_
    show Steps p.tables e below (T4.setTop (mkF m 47 #[.val (.int p1), .val (.int p2), .val (.int (p1 &&& (255 : Int32))), .val (.int (1 : Int32))] [])) _
    refine st5 _ ?_
    show Steps p.tables e below (T5.setTop (mkF m 50 #[.val (.int p1), .val (.int p2), .val (.int (p1 &&& (255 : Int32))), .val (.int (1 : Int32))] [(.ref wROLE_NAME)])) _
    refine XS.iloadN X5.here hx rfl (hb hby at_50) rfl ?_
    show Steps p.tables e below (T5.setTop (mkF m 51 #[.val (.int p1), .val (.int p2), .val (.int (p1 &&& (255 : Int32))), .val (.int (1 : Int32))] [(.int (p1 &&& (255 : Int32))), (.ref wROLE_NAME)])) _
    refine st6.trans ?_
    show Steps p.tables e below (T6.setTop (mkF m 54 #[.val (.int p1), .val (.int p2), .val (.int (p1 &&& (255 : Int32))), .val (.int (1 : Int32))] [(.int (0 : Int32))])) _
    refine XS.ifYes X6.here hx rfl (pc0 := 54) (pc' := 63) rfl (hb hby at_54) rfl (by decide) (by decide) (by decide) ?_
    show Steps p.tables e below (T6.setTop (mkF m 63 #[.val (.int p1), .val (.int p2), .val (.int (p1 &&& (255 : Int32))), .val (.int (1 : Int32))] [])) _
    refine XS.iconst X6.here hx rfl (hb hby at_63) ?_
    show Steps p.tables e below (T6.setTop (mkF m 64 #[.val (.int p1), .val (.int p2), .val (.int (p1 &&& (255 : Int32))), .val (.int (1 : Int32))] [(.int (1 : Int32))])) _
    exact retN X6 hx (t := .boolean) Bd.returns (by simp) (hb hby at_64) hr
  · exact ⟨rfl, N6⟩
set_option maxRecDepth 65536 in
set_option maxHeartbeats 40000000 in
theorem own_isPart_24 (l : Launch) (Z : State) (a0 : Array Value) (hw : ∀ d ∈ tables_1, d.before a0 Z = true) (ws : List Jvm.Cond) (wENTITY : Addr) (wROLE_NAME : Addr) (G : OwnG Z wENTITY wROLE_NAME) (h0 : Heap) (n0 : Nat) (O0 : Old Z n0 h0) (v1 : Int32) (hp1 : ¬ (v1 < (65 : Int32))) (hp2 : (90 : Int32) < v1) (hp3 : v1 < (97 : Int32)) (hp4 : ¬ ((122 : Int32) < v1)) (hp5 : ¬ (v1 < (48 : Int32))) (hp6 : (57 : Int32) < v1) (hp7 : ¬ (v1 = (95 : Int32))) (hp8 : (v1 ||| (32 : Int32)) < (97 : Int32)) (hp9 : ¬ ((122 : Int32) < (v1 ||| (32 : Int32)))) (hp10 : ¬ ((lcmpW ((v1.toInt64) - (48 : Int64)) (0 : Int64)) < (0 : Int32))) (hp11 : ¬ ((lcmpW ((v1.toInt64) - (48 : Int64)) (10 : Int64)) < (0 : Int32))) :
    MetFree l (⟨"com/example/credlib/credlib/policy/NameRule", "isPart", "(I)Z"⟩ : MethodName) (head1 (Jvm.Cond.code (⟨"com/example/credlib/credlib/policy/NameRule", "isPart", "(I)Z"⟩ : MethodName) prog_30_method_7_code 1 (some .boolean) :: ws) ({ frames := 0, cells := 0, slots := 0, locals := 0 } : Room)) (fun a U => a = #[(.int v1)] ∧ Z.Warmed39 U.vm ∧ U.heap = h0) (fun _ _ _ _ _ => True) (fun _ U o U' => ∃ v L, o = .returned v ∧ OwnQ (some (.int (0 : Int32))) h0 n0 v U'.heap L ∧ FrameEnd U o U' L ({ frames := 0, cells := 0, slots := 0, locals := 0 } : Room).cells ({ frames := 0, cells := 0, slots := 0, locals := 0 } : Room).slots) := by
  refine MetFree.of_bodySF (plainFor_of_name own_pn_1) hisR ?_
  intro p e s m args below meth c s₁ Bd hml0 hP hK
  obtain ⟨rfl, hZ, hh⟩ := hP
  have hx := Bd.exec
  have hby := Bd.bytes
  have hml : c.maxLocals = 1 := hml0
  have hown : s.vm.findClass "com/example/credlib/credlib/policy/NameRule" = some m.cls := findClass_of_methodNamed Bd.named
  have hnm := (name_of_methodNamed Bd.named Bd.method).1
  have X0 : Stand p l e ({ frames := 0, cells := 0, slots := 0, locals := 0 } : Room) s m #[(.int v1)] below meth c s₁ [] 0 0 := Stand.of_body Bd
  have e0 : s₁.heap = h0 := by rw [← hh, Bd.state]; rfl
  have N0 := Fr.nil n0
  have pre0 : ∀ t, Steps p.tables e below (s₁.setTop (mkF m 0 #[.val (.int v1)] [])) t → Steps p.tables e below (s₁.setTop (entryFrame m #[(.int v1)] 1)) t := fun t k => castTop (own_ef_1_I m v1) k
  obtain ⟨fs, hr, hrun, hended, hW, hsame⟩ := X0.leave (v := some (.int (0 : Int32))) (fun h => by rw [Bd.returns] at h; cases h)
  refine ⟨_, _, pre0 _ ?_, hrun, hended, _, _, rfl, ?_, ⟨_, rfl⟩, hW, hsame.mono (by decide) (by decide)⟩
  · show Steps p.tables e below (s₁.setTop (mkF m 0 #[.val (.int v1)] [])) _
    refine XS.iloadN X0.here hx rfl (hb hby own_d1_0) rfl ?_
    show Steps p.tables e below (s₁.setTop (mkF m 1 #[.val (.int v1)] [(.int v1)])) _
    refine XS.bipush X0.here hx rfl (hb hby own_d1_1) ?_
    show Steps p.tables e below (s₁.setTop (mkF m 3 #[.val (.int v1)] [(.int (65 : Int32)), (.int v1)])) _
    refine XS.icmpNo X0.here hx rfl (hb hby own_d1_3) rfl (flt (hp1 : ¬ (v1 < (65 : Int32)))).1 ?_
    show Steps p.tables e below (s₁.setTop (mkF m 6 #[.val (.int v1)] [])) _
    refine XS.iloadN X0.here hx rfl (hb hby own_d1_6) rfl ?_
    show Steps p.tables e below (s₁.setTop (mkF m 7 #[.val (.int v1)] [(.int v1)])) _
    refine XS.bipush X0.here hx rfl (hb hby own_d1_7) ?_
    show Steps p.tables e below (s₁.setTop (mkF m 9 #[.val (.int v1)] [(.int (90 : Int32)), (.int v1)])) _
    refine XS.icmpNo X0.here hx rfl (hb hby own_d1_9) rfl (tlt (hp2 : (90 : Int32) < v1)).2.2.2 ?_
    show Steps p.tables e below (s₁.setTop (mkF m 12 #[.val (.int v1)] [])) _
    refine XS.iloadN X0.here hx rfl (hb hby own_d1_12) rfl ?_
    show Steps p.tables e below (s₁.setTop (mkF m 13 #[.val (.int v1)] [(.int v1)])) _
    refine XS.bipush X0.here hx rfl (hb hby own_d1_13) ?_
    show Steps p.tables e below (s₁.setTop (mkF m 15 #[.val (.int v1)] [(.int (97 : Int32)), (.int v1)])) _
    refine XS.icmpYes X0.here hx rfl (pc0 := 15) (pc' := 24) rfl (hb hby own_d1_15) rfl (tlt (hp3 : v1 < (97 : Int32))).1 (by decide) (by decide) ?_
    show Steps p.tables e below (s₁.setTop (mkF m 24 #[.val (.int v1)] [])) _
    refine XS.iloadN X0.here hx rfl (hb hby own_d1_24) rfl ?_
    show Steps p.tables e below (s₁.setTop (mkF m 25 #[.val (.int v1)] [(.int v1)])) _
    refine XS.bipush X0.here hx rfl (hb hby own_d1_25) ?_
    show Steps p.tables e below (s₁.setTop (mkF m 27 #[.val (.int v1)] [(.int (48 : Int32)), (.int v1)])) _
    refine XS.icmpNo X0.here hx rfl (hb hby own_d1_27) rfl (flt (hp5 : ¬ (v1 < (48 : Int32)))).1 ?_
    show Steps p.tables e below (s₁.setTop (mkF m 30 #[.val (.int v1)] [])) _
    refine XS.iloadN X0.here hx rfl (hb hby own_d1_30) rfl ?_
    show Steps p.tables e below (s₁.setTop (mkF m 31 #[.val (.int v1)] [(.int v1)])) _
    refine XS.bipush X0.here hx rfl (hb hby own_d1_31) ?_
    show Steps p.tables e below (s₁.setTop (mkF m 33 #[.val (.int v1)] [(.int (57 : Int32)), (.int v1)])) _
    refine XS.icmpNo X0.here hx rfl (hb hby own_d1_33) rfl (tlt (hp6 : (57 : Int32) < v1)).2.2.2 ?_
    show Steps p.tables e below (s₁.setTop (mkF m 36 #[.val (.int v1)] [])) _
    refine XS.iloadN X0.here hx rfl (hb hby own_d1_36) rfl ?_
    show Steps p.tables e below (s₁.setTop (mkF m 37 #[.val (.int v1)] [(.int v1)])) _
    refine XS.bipush X0.here hx rfl (hb hby own_d1_37) ?_
    show Steps p.tables e below (s₁.setTop (mkF m 39 #[.val (.int v1)] [(.int (95 : Int32)), (.int v1)])) _
    refine XS.icmpYes X0.here hx rfl (pc0 := 39) (pc' := 46) rfl (hb hby own_d1_39) rfl (feq (hp7 : ¬ (v1 = (95 : Int32)))).2 (by decide) (by decide) ?_
    show Steps p.tables e below (s₁.setTop (mkF m 46 #[.val (.int v1)] [])) _
    refine XS.iconst X0.here hx rfl (hb hby own_d1_46) ?_
    show Steps p.tables e below (s₁.setTop (mkF m 47 #[.val (.int v1)] [(.int (0 : Int32))])) _
    exact retN X0 hx (t := .boolean) Bd.returns (by simp) (hb hby own_d1_47) hr
  · show OwnQ _ h0 n0 _ s₁.heap _
    exact ⟨rfl, N0, e0⟩
set_option maxRecDepth 65536 in
set_option maxHeartbeats 40000000 in
theorem own_expected_25 (l : Launch) (Z : State) (a0 : Array Value) (hw : ∀ d ∈ tables_1, d.before a0 Z = true) (ws : List Jvm.Cond) (wENTITY : Addr) (wROLE_NAME : Addr) (G : OwnG Z wENTITY wROLE_NAME) (h0 : Heap) (n0 : Nat) (O0 : Old Z n0 h0) (v1 : Int32) (hp1 : ¬ (v1 < (65 : Int32))) (hp2 : (90 : Int32) < v1) (hp3 : v1 < (97 : Int32)) (hp4 : ¬ ((122 : Int32) < v1)) (hp5 : ¬ (v1 < (48 : Int32))) (hp6 : (57 : Int32) < v1) (hp7 : ¬ (v1 = (95 : Int32))) (hp8 : (v1 ||| (32 : Int32)) < (97 : Int32)) (hp9 : ¬ ((122 : Int32) < (v1 ||| (32 : Int32)))) (hp10 : ¬ ((lcmpW ((v1.toInt64) - (48 : Int64)) (0 : Int64)) < (0 : Int32))) (hp11 : ¬ ((lcmpW ((v1.toInt64) - (48 : Int64)) (10 : Int64)) < (0 : Int32))) :
    MetFree l (⟨"com/example/credlib/credlib/policy/NameRuleIsPartPinLaw", "expected", "(I)Z"⟩ : MethodName) (head1 (Jvm.Cond.code (⟨"com/example/credlib/credlib/policy/NameRuleIsPartPinLaw", "expected", "(I)Z"⟩ : MethodName) method_2_code 7 (some .boolean) :: ws) ({ frames := 0, cells := 0, slots := 0, locals := 0 } : Room)) (fun a U => a = #[(.int v1)] ∧ Z.Warmed39 U.vm ∧ U.heap = h0) (fun _ _ _ _ _ => True) (fun _ U o U' => ∃ v L, o = .returned v ∧ OwnQ (some (.int (0 : Int32))) h0 n0 v U'.heap L ∧ FrameEnd U o U' L ({ frames := 0, cells := 0, slots := 0, locals := 0 } : Room).cells ({ frames := 0, cells := 0, slots := 0, locals := 0 } : Room).slots) := by
  refine MetFree.of_bodySF (plainFor_of_name own_pn_0) hisR ?_
  intro p e s m args below meth c s₁ Bd hml0 hP hK
  obtain ⟨rfl, hZ, hh⟩ := hP
  have hx := Bd.exec
  have hby := Bd.bytes
  have hml : c.maxLocals = 7 := hml0
  have hown : s.vm.findClass "com/example/credlib/credlib/policy/NameRuleIsPartPinLaw" = some m.cls := findClass_of_methodNamed Bd.named
  have hnm := (name_of_methodNamed Bd.named Bd.method).1
  have X0 : Stand p l e ({ frames := 0, cells := 0, slots := 0, locals := 0 } : Room) s m #[(.int v1)] below meth c s₁ [] 0 0 := Stand.of_body Bd
  have e0 : s₁.heap = h0 := by rw [← hh, Bd.state]; rfl
  have N0 := Fr.nil n0
  have pre0 : ∀ t, Steps p.tables e below (s₁.setTop (mkF m 0 #[.val (.int v1), .unset, .unset, .unset, .unset, .unset, .unset] [])) t → Steps p.tables e below (s₁.setTop (entryFrame m #[(.int v1)] 7)) t := fun t k => castTop (own_ef_2_I m v1) k
  obtain ⟨fs, hr, hrun, hended, hW, hsame⟩ := X0.leave (v := some (.int (0 : Int32))) (fun h => by rw [Bd.returns] at h; cases h)
  refine ⟨_, _, pre0 _ ?_, hrun, hended, _, _, rfl, ?_, ⟨_, rfl⟩, hW, hsame.mono (by decide) (by decide)⟩
  · show Steps p.tables e below (s₁.setTop (mkF m 0 #[.val (.int v1), .unset, .unset, .unset, .unset, .unset, .unset] [])) _
    refine XS.iloadN X0.here hx rfl (hb hby own_d2_0) rfl ?_
    show Steps p.tables e below (s₁.setTop (mkF m 1 #[.val (.int v1), .unset, .unset, .unset, .unset, .unset, .unset] [(.int v1)])) _
    refine XS.bipush X0.here hx rfl (hb hby own_d2_1) ?_
    show Steps p.tables e below (s₁.setTop (mkF m 3 #[.val (.int v1), .unset, .unset, .unset, .unset, .unset, .unset] [(.int (32 : Int32)), (.int v1)])) _
    refine XS.ior X0.here hx rfl (hb hby own_d2_3) rfl ?_
    show Steps p.tables e below (s₁.setTop (mkF m 4 #[.val (.int v1), .unset, .unset, .unset, .unset, .unset, .unset] [(.int (v1 ||| (32 : Int32)))])) _
    refine XS.istoreN X0.here hx rfl (hb hby own_d2_4) rfl (l' := #[.val (.int v1), .val (.int (v1 ||| (32 : Int32))), .unset, .unset, .unset, .unset, .unset]) rfl ?_
    show Steps p.tables e below (s₁.setTop (mkF m 5 #[.val (.int v1), .val (.int (v1 ||| (32 : Int32))), .unset, .unset, .unset, .unset, .unset] [])) _
    refine XS.iloadN X0.here hx rfl (hb hby own_d2_5) rfl ?_
    show Steps p.tables e below (s₁.setTop (mkF m 6 #[.val (.int v1), .val (.int (v1 ||| (32 : Int32))), .unset, .unset, .unset, .unset, .unset] [(.int (v1 ||| (32 : Int32)))])) _
    refine XS.bipush X0.here hx rfl (hb hby own_d2_6) ?_
    show Steps p.tables e below (s₁.setTop (mkF m 8 #[.val (.int v1), .val (.int (v1 ||| (32 : Int32))), .unset, .unset, .unset, .unset, .unset] [(.int (97 : Int32)), (.int (v1 ||| (32 : Int32)))])) _
    refine XS.icmpYes X0.here hx rfl (pc0 := 8) (pc' := 21) rfl (hb hby own_d2_8) rfl (tlt (hp8 : (v1 ||| (32 : Int32)) < (97 : Int32))).1 (by decide) (by decide) ?_
    show Steps p.tables e below (s₁.setTop (mkF m 21 #[.val (.int v1), .val (.int (v1 ||| (32 : Int32))), .unset, .unset, .unset, .unset, .unset] [])) _
    refine XS.iconst X0.here hx rfl (hb hby own_d2_21) ?_
    show Steps p.tables e below (s₁.setTop (mkF m 22 #[.val (.int v1), .val (.int (v1 ||| (32 : Int32))), .unset, .unset, .unset, .unset, .unset] [(.int (0 : Int32))])) _
    refine XS.istoreN X0.here hx rfl (hb hby own_d2_22) rfl (l' := #[.val (.int v1), .val (.int (v1 ||| (32 : Int32))), .val (.int (0 : Int32)), .unset, .unset, .unset, .unset]) rfl ?_
    show Steps p.tables e below (s₁.setTop (mkF m 23 #[.val (.int v1), .val (.int (v1 ||| (32 : Int32))), .val (.int (0 : Int32)), .unset, .unset, .unset, .unset] [])) _
    refine XS.iloadN X0.here hx rfl (hb hby own_d2_23) rfl ?_
    show Steps p.tables e below (s₁.setTop (mkF m 24 #[.val (.int v1), .val (.int (v1 ||| (32 : Int32))), .val (.int (0 : Int32)), .unset, .unset, .unset, .unset] [(.int v1)])) _
    refine XS.i2l X0.here hx rfl (hb hby own_d2_24) rfl ?_
    show Steps p.tables e below (s₁.setTop (mkF m 25 #[.val (.int v1), .val (.int (v1 ||| (32 : Int32))), .val (.int (0 : Int32)), .unset, .unset, .unset, .unset] [(.long (v1.toInt64))])) _
    refine Jvm.Stand.ldc2J X0 hx hown (mvT hZ (hw _ (List.mem_of_getElem? (i := 8) rfl))) rfl (hb hby own_d2_25) ?_
    show Steps p.tables e below (s₁.setTop (mkF m 28 #[.val (.int v1), .val (.int (v1 ||| (32 : Int32))), .val (.int (0 : Int32)), .unset, .unset, .unset, .unset] [(.long (48 : Int64)), (.long (v1.toInt64))])) _
    refine XS.lsub X0.here hx rfl (hb hby own_d2_28) rfl ?_
    show Steps p.tables e below (s₁.setTop (mkF m 29 #[.val (.int v1), .val (.int (v1 ||| (32 : Int32))), .val (.int (0 : Int32)), .unset, .unset, .unset, .unset] [(.long ((v1.toInt64) - (48 : Int64)))])) _
    refine XS.lstoreN X0.here hx rfl (hb hby own_d2_29) rfl (l' := #[.val (.int v1), .val (.int (v1 ||| (32 : Int32))), .val (.int (0 : Int32)), .val (.long ((v1.toInt64) - (48 : Int64))), .second, .unset, .unset]) rfl ?_
    show Steps p.tables e below (s₁.setTop (mkF m 30 #[.val (.int v1), .val (.int (v1 ||| (32 : Int32))), .val (.int (0 : Int32)), .val (.long ((v1.toInt64) - (48 : Int64))), .second, .unset, .unset] [])) _
    refine XS.lloadN X0.here hx rfl (hb hby own_d2_30) rfl ?_
    show Steps p.tables e below (s₁.setTop (mkF m 31 #[.val (.int v1), .val (.int (v1 ||| (32 : Int32))), .val (.int (0 : Int32)), .val (.long ((v1.toInt64) - (48 : Int64))), .second, .unset, .unset] [(.long ((v1.toInt64) - (48 : Int64)))])) _
    refine XS.lconst X0.here hx rfl (hb hby own_d2_31) ?_
    show Steps p.tables e below (s₁.setTop (mkF m 32 #[.val (.int v1), .val (.int (v1 ||| (32 : Int32))), .val (.int (0 : Int32)), .val (.long ((v1.toInt64) - (48 : Int64))), .second, .unset, .unset] [(.long (0 : Int64)), (.long ((v1.toInt64) - (48 : Int64)))])) _
    refine XS.lcmp X0.here hx rfl (hb hby own_d2_32) rfl ?_
    show Steps p.tables e below (s₁.setTop (mkF m 33 #[.val (.int v1), .val (.int (v1 ||| (32 : Int32))), .val (.int (0 : Int32)), .val (.long ((v1.toInt64) - (48 : Int64))), .second, .unset, .unset] [(.int (lcmpW ((v1.toInt64) - (48 : Int64)) (0 : Int64)))])) _
    refine XS.ifNo X0.here hx rfl (hb hby own_d2_33) rfl ((if0 _ _).trans (flt (hp10 : ¬ ((lcmpW ((v1.toInt64) - (48 : Int64)) (0 : Int64)) < (0 : Int32)))).1) ?_
    show Steps p.tables e below (s₁.setTop (mkF m 36 #[.val (.int v1), .val (.int (v1 ||| (32 : Int32))), .val (.int (0 : Int32)), .val (.long ((v1.toInt64) - (48 : Int64))), .second, .unset, .unset] [])) _
    refine XS.lloadN X0.here hx rfl (hb hby own_d2_36) rfl ?_
    show Steps p.tables e below (s₁.setTop (mkF m 37 #[.val (.int v1), .val (.int (v1 ||| (32 : Int32))), .val (.int (0 : Int32)), .val (.long ((v1.toInt64) - (48 : Int64))), .second, .unset, .unset] [(.long ((v1.toInt64) - (48 : Int64)))])) _
    refine Jvm.Stand.ldc2J X0 hx hown (mvT hZ (hw _ (List.mem_of_getElem? (i := 20) rfl))) rfl (hb hby own_d2_37) ?_
    show Steps p.tables e below (s₁.setTop (mkF m 40 #[.val (.int v1), .val (.int (v1 ||| (32 : Int32))), .val (.int (0 : Int32)), .val (.long ((v1.toInt64) - (48 : Int64))), .second, .unset, .unset] [(.long (10 : Int64)), (.long ((v1.toInt64) - (48 : Int64)))])) _
    refine XS.lcmp X0.here hx rfl (hb hby own_d2_40) rfl ?_
    show Steps p.tables e below (s₁.setTop (mkF m 41 #[.val (.int v1), .val (.int (v1 ||| (32 : Int32))), .val (.int (0 : Int32)), .val (.long ((v1.toInt64) - (48 : Int64))), .second, .unset, .unset] [(.int (lcmpW ((v1.toInt64) - (48 : Int64)) (10 : Int64)))])) _
    refine XS.ifYes X0.here hx rfl (pc0 := 41) (pc' := 48) rfl (hb hby own_d2_41) rfl ((if0 _ _).trans (flt (hp11 : ¬ ((lcmpW ((v1.toInt64) - (48 : Int64)) (10 : Int64)) < (0 : Int32)))).2.1) (by decide) (by decide) ?_
    show Steps p.tables e below (s₁.setTop (mkF m 48 #[.val (.int v1), .val (.int (v1 ||| (32 : Int32))), .val (.int (0 : Int32)), .val (.long ((v1.toInt64) - (48 : Int64))), .second, .unset, .unset] [])) _
    refine XS.iconst X0.here hx rfl (hb hby own_d2_48) ?_
    show Steps p.tables e below (s₁.setTop (mkF m 49 #[.val (.int v1), .val (.int (v1 ||| (32 : Int32))), .val (.int (0 : Int32)), .val (.long ((v1.toInt64) - (48 : Int64))), .second, .unset, .unset] [(.int (0 : Int32))])) _
    refine XS.istore X0.here hx rfl (hb hby own_d2_49) rfl (l' := #[.val (.int v1), .val (.int (v1 ||| (32 : Int32))), .val (.int (0 : Int32)), .val (.long ((v1.toInt64) - (48 : Int64))), .second, .val (.int (0 : Int32)), .unset]) rfl ?_
    show Steps p.tables e below (s₁.setTop (mkF m 51 #[.val (.int v1), .val (.int (v1 ||| (32 : Int32))), .val (.int (0 : Int32)), .val (.long ((v1.toInt64) - (48 : Int64))), .second, .val (.int (0 : Int32)), .unset] [])) _
    refine XS.iloadN X0.here hx rfl (hb hby own_d2_51) rfl ?_
    show Steps p.tables e below (s₁.setTop (mkF m 52 #[.val (.int v1), .val (.int (v1 ||| (32 : Int32))), .val (.int (0 : Int32)), .val (.long ((v1.toInt64) - (48 : Int64))), .second, .val (.int (0 : Int32)), .unset] [(.int v1)])) _
    refine XS.bipush X0.here hx rfl (hb hby own_d2_52) ?_
    show Steps p.tables e below (s₁.setTop (mkF m 54 #[.val (.int v1), .val (.int (v1 ||| (32 : Int32))), .val (.int (0 : Int32)), .val (.long ((v1.toInt64) - (48 : Int64))), .second, .val (.int (0 : Int32)), .unset] [(.int (95 : Int32)), (.int v1)])) _
    refine XS.icmpYes X0.here hx rfl (pc0 := 54) (pc' := 61) rfl (hb hby own_d2_54) rfl (feq (hp7 : ¬ (v1 = (95 : Int32)))).2 (by decide) (by decide) ?_
    show Steps p.tables e below (s₁.setTop (mkF m 61 #[.val (.int v1), .val (.int (v1 ||| (32 : Int32))), .val (.int (0 : Int32)), .val (.long ((v1.toInt64) - (48 : Int64))), .second, .val (.int (0 : Int32)), .unset] [])) _
    refine XS.iconst X0.here hx rfl (hb hby own_d2_61) ?_
    show Steps p.tables e below (s₁.setTop (mkF m 62 #[.val (.int v1), .val (.int (v1 ||| (32 : Int32))), .val (.int (0 : Int32)), .val (.long ((v1.toInt64) - (48 : Int64))), .second, .val (.int (0 : Int32)), .unset] [(.int (0 : Int32))])) _
    refine XS.istore X0.here hx rfl (hb hby own_d2_62) rfl (l' := #[.val (.int v1), .val (.int (v1 ||| (32 : Int32))), .val (.int (0 : Int32)), .val (.long ((v1.toInt64) - (48 : Int64))), .second, .val (.int (0 : Int32)), .val (.int (0 : Int32))]) rfl ?_
    show Steps p.tables e below (s₁.setTop (mkF m 64 #[.val (.int v1), .val (.int (v1 ||| (32 : Int32))), .val (.int (0 : Int32)), .val (.long ((v1.toInt64) - (48 : Int64))), .second, .val (.int (0 : Int32)), .val (.int (0 : Int32))] [])) _
    refine XS.iloadN X0.here hx rfl (hb hby own_d2_64) rfl ?_
    show Steps p.tables e below (s₁.setTop (mkF m 65 #[.val (.int v1), .val (.int (v1 ||| (32 : Int32))), .val (.int (0 : Int32)), .val (.long ((v1.toInt64) - (48 : Int64))), .second, .val (.int (0 : Int32)), .val (.int (0 : Int32))] [(.int (0 : Int32))])) _
    refine XS.ifNo X0.here hx rfl (hb hby own_d2_65) rfl (by decide) ?_
    show Steps p.tables e below (s₁.setTop (mkF m 68 #[.val (.int v1), .val (.int (v1 ||| (32 : Int32))), .val (.int (0 : Int32)), .val (.long ((v1.toInt64) - (48 : Int64))), .second, .val (.int (0 : Int32)), .val (.int (0 : Int32))] [])) _
    refine XS.iload X0.here hx rfl (hb hby own_d2_68) rfl ?_
    show Steps p.tables e below (s₁.setTop (mkF m 70 #[.val (.int v1), .val (.int (v1 ||| (32 : Int32))), .val (.int (0 : Int32)), .val (.long ((v1.toInt64) - (48 : Int64))), .second, .val (.int (0 : Int32)), .val (.int (0 : Int32))] [(.int (0 : Int32))])) _
    refine XS.ifNo X0.here hx rfl (hb hby own_d2_70) rfl (by decide) ?_
    show Steps p.tables e below (s₁.setTop (mkF m 73 #[.val (.int v1), .val (.int (v1 ||| (32 : Int32))), .val (.int (0 : Int32)), .val (.long ((v1.toInt64) - (48 : Int64))), .second, .val (.int (0 : Int32)), .val (.int (0 : Int32))] [])) _
    refine XS.iload X0.here hx rfl (hb hby own_d2_73) rfl ?_
    show Steps p.tables e below (s₁.setTop (mkF m 75 #[.val (.int v1), .val (.int (v1 ||| (32 : Int32))), .val (.int (0 : Int32)), .val (.long ((v1.toInt64) - (48 : Int64))), .second, .val (.int (0 : Int32)), .val (.int (0 : Int32))] [(.int (0 : Int32))])) _
    refine XS.ifYes X0.here hx rfl (pc0 := 75) (pc' := 82) rfl (hb hby own_d2_75) rfl (by decide) (by decide) (by decide) ?_
    show Steps p.tables e below (s₁.setTop (mkF m 82 #[.val (.int v1), .val (.int (v1 ||| (32 : Int32))), .val (.int (0 : Int32)), .val (.long ((v1.toInt64) - (48 : Int64))), .second, .val (.int (0 : Int32)), .val (.int (0 : Int32))] [])) _
    refine XS.iconst X0.here hx rfl (hb hby own_d2_82) ?_
    show Steps p.tables e below (s₁.setTop (mkF m 83 #[.val (.int v1), .val (.int (v1 ||| (32 : Int32))), .val (.int (0 : Int32)), .val (.long ((v1.toInt64) - (48 : Int64))), .second, .val (.int (0 : Int32)), .val (.int (0 : Int32))] [(.int (0 : Int32))])) _
    exact retN X0 hx (t := .boolean) Bd.returns (by simp) (hb hby own_d2_83) hr
  · show OwnQ _ h0 n0 _ s₁.heap _
    exact ⟨rfl, N0, e0⟩
set_option maxRecDepth 65536 in
set_option maxHeartbeats 40000000 in
theorem own_isStart_26 (l : Launch) (Z : State) (a0 : Array Value) (hw : ∀ d ∈ tables_1, d.before a0 Z = true) (ws : List Jvm.Cond) (wENTITY : Addr) (wROLE_NAME : Addr) (G : OwnG Z wENTITY wROLE_NAME) (h0 : Heap) (n0 : Nat) (O0 : Old Z n0 h0) (v1 : Int32) (hp1 : ¬ (v1 < (65 : Int32))) (hp2 : (90 : Int32) < v1) (hp3 : v1 < (97 : Int32)) (hp4 : ¬ ((122 : Int32) < v1)) (hp5 : ¬ (v1 < (48 : Int32))) (hp6 : (57 : Int32) < v1) (hp7 : ¬ (v1 = (95 : Int32))) (hp8 : (v1 ||| (32 : Int32)) < (97 : Int32)) (hp9 : ¬ ((122 : Int32) < (v1 ||| (32 : Int32)))) (hp10 : ¬ ((lcmpW ((v1.toInt64) - (48 : Int64)) (0 : Int64)) < (0 : Int32))) (hp11 : ¬ ((lcmpW ((v1.toInt64) - (48 : Int64)) (10 : Int64)) < (0 : Int32))) :
    MetFree l (⟨"com/example/credlib/credlib/policy/NameRule", "isStart", "(I)Z"⟩ : MethodName) (head1 (Jvm.Cond.code (⟨"com/example/credlib/credlib/policy/NameRule", "isStart", "(I)Z"⟩ : MethodName) prog_30_method_6_code 2 (some .boolean) :: ws) ({ frames := 0, cells := 0, slots := 0, locals := 0 } : Room)) (fun a U => a = #[(.ref wENTITY), (.int v1)] ∧ Z.Warmed39 U.vm ∧ U.heap = h0) (fun _ _ _ _ _ => True) (fun _ U o U' => ∃ v L, o = .returned v ∧ OwnQ (some (.int (0 : Int32))) h0 n0 v U'.heap L ∧ FrameEnd U o U' L ({ frames := 0, cells := 0, slots := 0, locals := 0 } : Room).cells ({ frames := 0, cells := 0, slots := 0, locals := 0 } : Room).slots) := by
  refine MetFree.of_bodySF (plainFor_of_name own_pn_1) hisR ?_
  intro p e s m args below meth c s₁ Bd hml0 hP hK
  obtain ⟨rfl, hZ, hh⟩ := hP
  have hx := Bd.exec
  have hby := Bd.bytes
  have hml : c.maxLocals = 2 := hml0
  have hown : s.vm.findClass "com/example/credlib/credlib/policy/NameRule" = some m.cls := findClass_of_methodNamed Bd.named
  have hnm := (name_of_methodNamed Bd.named Bd.method).1
  have X0 : Stand p l e ({ frames := 0, cells := 0, slots := 0, locals := 0 } : Room) s m #[(.ref wENTITY), (.int v1)] below meth c s₁ [] 0 0 := Stand.of_body Bd
  have e0 : s₁.heap = h0 := by rw [← hh, Bd.state]; rfl
  have N0 := Fr.nil n0
  have pre0 : ∀ t, Steps p.tables e below (s₁.setTop (mkF m 0 #[.val (.ref wENTITY), .val (.int v1)] [])) t → Steps p.tables e below (s₁.setTop (entryFrame m #[(.ref wENTITY), (.int v1)] 2)) t := fun t k => castTop (own_ef_3_RI m wENTITY v1) k
  obtain ⟨T1, X1, e1, st1⟩ := getF X0 hx hZ hown (host := "") (Or.inl (hw _ (List.mem_of_getElem? (i := 16) rfl))) Via.refl e0 (G.2.2.2.2.1.ext O0.2) (g := (mkF m 2 #[.val (.ref wENTITY), .val (.int v1)] [(.ref wENTITY), (.int v1)])) rfl rfl (hb hby own_d3_2)
  obtain ⟨T2, X2, e2, st2⟩ := getF X1 hx hZ hown (host := "") (Or.inl (hw _ (List.mem_of_getElem? (i := 21) rfl))) Via.refl e1 (G.2.2.2.2.2.2.1.ext O0.2) (g := (mkF m 10 #[.val (.ref wENTITY), .val (.int v1)] [(.ref wENTITY), (.int v1)])) rfl rfl (hb hby own_d3_10)
  obtain ⟨fs, hr, hrun, hended, hW, hsame⟩ := X2.leave (v := some (.int (0 : Int32))) (fun h => by rw [Bd.returns] at h; cases h)
  refine ⟨_, _, pre0 _ ?_, hrun, hended, _, _, rfl, ?_, ⟨_, rfl⟩, hW, hsame.mono (by decide) (by decide)⟩
  · show Steps p.tables e below (s₁.setTop (mkF m 0 #[.val (.ref wENTITY), .val (.int v1)] [])) _
    refine XS.iloadN X0.here hx rfl (hb hby own_d3_0) rfl ?_
    show Steps p.tables e below (s₁.setTop (mkF m 1 #[.val (.ref wENTITY), .val (.int v1)] [(.int v1)])) _
    refine XS.aloadN X0.here hx rfl (hb hby own_d3_1) rfl rfl ?_
    show Steps p.tables e below (s₁.setTop (mkF m 2 #[.val (.ref wENTITY), .val (.int v1)] [(.ref wENTITY), (.int v1)])) _
    refine st1 _ ?_
    show Steps p.tables e below (T1.setTop (mkF m 5 #[.val (.ref wENTITY), .val (.int v1)] [(.int (65 : Int32)), (.int v1)])) _
    refine XS.icmpNo X1.here hx rfl (hb hby own_d3_5) rfl (flt (hp1 : ¬ (v1 < (65 : Int32)))).1 ?_
    show Steps p.tables e below (T1.setTop (mkF m 8 #[.val (.ref wENTITY), .val (.int v1)] [])) _
    refine XS.iloadN X1.here hx rfl (hb hby own_d3_8) rfl ?_
    show Steps p.tables e below (T1.setTop (mkF m 9 #[.val (.ref wENTITY), .val (.int v1)] [(.int v1)])) _
    refine XS.aloadN X1.here hx rfl (hb hby own_d3_9) rfl rfl ?_
    show Steps p.tables e below (T1.setTop (mkF m 10 #[.val (.ref wENTITY), .val (.int v1)] [(.ref wENTITY), (.int v1)])) _
    refine st2 _ ?_
    show Steps p.tables e below (T2.setTop (mkF m 13 #[.val (.ref wENTITY), .val (.int v1)] [(.int (90 : Int32)), (.int v1)])) _
    refine XS.icmpYes X2.here hx rfl (pc0 := 13) (pc' := 20) rfl (hb hby own_d3_13) rfl (tlt (hp2 : (90 : Int32) < v1)).2.2.1 (by decide) (by decide) ?_
    show Steps p.tables e below (T2.setTop (mkF m 20 #[.val (.ref wENTITY), .val (.int v1)] [])) _
    refine XS.iconst X2.here hx rfl (hb hby own_d3_20) ?_
    show Steps p.tables e below (T2.setTop (mkF m 21 #[.val (.ref wENTITY), .val (.int v1)] [(.int (0 : Int32))])) _
    exact retN X2 hx (t := .boolean) Bd.returns (by simp) (hb hby own_d3_21) hr
  · show OwnQ _ h0 n0 _ T2.heap _
    exact ⟨rfl, N0, e2⟩
set_option maxRecDepth 65536 in
set_option maxHeartbeats 40000000 in
theorem own_isStart_27 (l : Launch) (Z : State) (a0 : Array Value) (hw : ∀ d ∈ tables_1, d.before a0 Z = true) (ws : List Jvm.Cond) (wENTITY : Addr) (wROLE_NAME : Addr) (G : OwnG Z wENTITY wROLE_NAME) (h0 : Heap) (n0 : Nat) (O0 : Old Z n0 h0) (v1 : Int32) (hp1 : ¬ (v1 < (65 : Int32))) (hp2 : (90 : Int32) < v1) (hp3 : v1 < (97 : Int32)) (hp4 : ¬ ((122 : Int32) < v1)) (hp5 : ¬ (v1 < (48 : Int32))) (hp6 : (57 : Int32) < v1) (hp7 : ¬ (v1 = (95 : Int32))) (hp8 : (v1 ||| (32 : Int32)) < (97 : Int32)) (hp9 : ¬ ((122 : Int32) < (v1 ||| (32 : Int32)))) (hp10 : ¬ ((lcmpW ((v1.toInt64) - (48 : Int64)) (0 : Int64)) < (0 : Int32))) (hp11 : ¬ ((lcmpW ((v1.toInt64) - (48 : Int64)) (10 : Int64)) < (0 : Int32))) :
    MetFree l (⟨"com/example/credlib/credlib/policy/NameRule", "isStart", "(I)Z"⟩ : MethodName) (head1 (Jvm.Cond.code (⟨"com/example/credlib/credlib/policy/NameRule", "isStart", "(I)Z"⟩ : MethodName) prog_30_method_6_code 2 (some .boolean) :: ws) ({ frames := 0, cells := 0, slots := 0, locals := 0 } : Room)) (fun a U => a = #[(.ref wROLE_NAME), (.int v1)] ∧ Z.Warmed39 U.vm ∧ U.heap = h0) (fun _ _ _ _ _ => True) (fun _ U o U' => ∃ v L, o = .returned v ∧ OwnQ (some (.int (0 : Int32))) h0 n0 v U'.heap L ∧ FrameEnd U o U' L ({ frames := 0, cells := 0, slots := 0, locals := 0 } : Room).cells ({ frames := 0, cells := 0, slots := 0, locals := 0 } : Room).slots) := by
  refine MetFree.of_bodySF (plainFor_of_name own_pn_1) hisR ?_
  intro p e s m args below meth c s₁ Bd hml0 hP hK
  obtain ⟨rfl, hZ, hh⟩ := hP
  have hx := Bd.exec
  have hby := Bd.bytes
  have hml : c.maxLocals = 2 := hml0
  have hown : s.vm.findClass "com/example/credlib/credlib/policy/NameRule" = some m.cls := findClass_of_methodNamed Bd.named
  have hnm := (name_of_methodNamed Bd.named Bd.method).1
  have X0 : Stand p l e ({ frames := 0, cells := 0, slots := 0, locals := 0 } : Room) s m #[(.ref wROLE_NAME), (.int v1)] below meth c s₁ [] 0 0 := Stand.of_body Bd
  have e0 : s₁.heap = h0 := by rw [← hh, Bd.state]; rfl
  have N0 := Fr.nil n0
  have pre0 : ∀ t, Steps p.tables e below (s₁.setTop (mkF m 0 #[.val (.ref wROLE_NAME), .val (.int v1)] [])) t → Steps p.tables e below (s₁.setTop (entryFrame m #[(.ref wROLE_NAME), (.int v1)] 2)) t := fun t k => castTop (own_ef_3_RI m wROLE_NAME v1) k
  obtain ⟨T1, X1, e1, st1⟩ := getF X0 hx hZ hown (host := "") (Or.inl (hw _ (List.mem_of_getElem? (i := 16) rfl))) Via.refl e0 (G.2.2.2.2.2.1.ext O0.2) (g := (mkF m 2 #[.val (.ref wROLE_NAME), .val (.int v1)] [(.ref wROLE_NAME), (.int v1)])) rfl rfl (hb hby own_d3_2)
  obtain ⟨fs, hr, hrun, hended, hW, hsame⟩ := X1.leave (v := some (.int (0 : Int32))) (fun h => by rw [Bd.returns] at h; cases h)
  refine ⟨_, _, pre0 _ ?_, hrun, hended, _, _, rfl, ?_, ⟨_, rfl⟩, hW, hsame.mono (by decide) (by decide)⟩
  · show Steps p.tables e below (s₁.setTop (mkF m 0 #[.val (.ref wROLE_NAME), .val (.int v1)] [])) _
    refine XS.iloadN X0.here hx rfl (hb hby own_d3_0) rfl ?_
    show Steps p.tables e below (s₁.setTop (mkF m 1 #[.val (.ref wROLE_NAME), .val (.int v1)] [(.int v1)])) _
    refine XS.aloadN X0.here hx rfl (hb hby own_d3_1) rfl rfl ?_
    show Steps p.tables e below (s₁.setTop (mkF m 2 #[.val (.ref wROLE_NAME), .val (.int v1)] [(.ref wROLE_NAME), (.int v1)])) _
    refine st1 _ ?_
    show Steps p.tables e below (T1.setTop (mkF m 5 #[.val (.ref wROLE_NAME), .val (.int v1)] [(.int (97 : Int32)), (.int v1)])) _
    refine XS.icmpYes X1.here hx rfl (pc0 := 5) (pc' := 20) rfl (hb hby own_d3_5) rfl (tlt (hp3 : v1 < (97 : Int32))).1 (by decide) (by decide) ?_
    show Steps p.tables e below (T1.setTop (mkF m 20 #[.val (.ref wROLE_NAME), .val (.int v1)] [])) _
    refine XS.iconst X1.here hx rfl (hb hby own_d3_20) ?_
    show Steps p.tables e below (T1.setTop (mkF m 21 #[.val (.ref wROLE_NAME), .val (.int v1)] [(.int (0 : Int32))])) _
    exact retN X1 hx (t := .boolean) Bd.returns (by simp) (hb hby own_d3_21) hr
  · show OwnQ _ h0 n0 _ T1.heap _
    exact ⟨rfl, N0, e1⟩
set_option maxRecDepth 65536 in
set_option maxHeartbeats 40000000 in
theorem own_law_06 (l : Launch) (Z : State) (a0 : Array Value) (hw : ∀ d ∈ tables_1, d.before a0 Z = true) (ws : List Jvm.Cond) (wENTITY : Addr) (wROLE_NAME : Addr) (G : OwnG Z wENTITY wROLE_NAME) (h0 : Heap) (n0 : Nat) (O0 : Old Z n0 h0) (p1 : Int32) (p2 : Int32) (he : (p2 &&& (1 : Int32)) = (0 : Int32)) (aa0 : ¬ ((p1 &&& (255 : Int32)) < (65 : Int32))) (aa1 : (90 : Int32) < (p1 &&& (255 : Int32))) (aa2 : (p1 &&& (255 : Int32)) < (97 : Int32)) (aa3 : ¬ ((122 : Int32) < (p1 &&& (255 : Int32)))) (aa4 : ¬ ((p1 &&& (255 : Int32)) < (48 : Int32))) (aa5 : (57 : Int32) < (p1 &&& (255 : Int32))) (aa6 : ¬ ((p1 &&& (255 : Int32)) = (95 : Int32))) (aa7 : ((p1 &&& (255 : Int32)) ||| (32 : Int32)) < (97 : Int32)) (aa8 : ¬ ((122 : Int32) < ((p1 &&& (255 : Int32)) ||| (32 : Int32)))) (aa9 : ¬ ((lcmpW (((p1 &&& (255 : Int32)).toInt64) - (48 : Int64)) (0 : Int64)) < (0 : Int32))) (aa10 : ¬ ((lcmpW (((p1 &&& (255 : Int32)).toInt64) - (48 : Int64)) (10 : Int64)) < (0 : Int32))) :
    MetFree l x (head1 (Jvm.Cond.code x code maxLocals ret :: ws) room_1) (fun a U => a = #[(.int p1), (.int p2)] ∧ Z.Warmed39 U.vm ∧ U.heap = h0) (fun _ _ _ _ _ => True) (fun _ U o U' => ∃ v L, o = .returned v ∧ (v = some (.int 1) ∧ Fr n0 L) ∧ FrameEnd U o U' L room_1.cells room_1.slots) := by
  refine MetFree.of_bodySF (plainFor_of_name own_pn_0) hisR ?_
  intro p e s m args below meth c s₁ Bd hml0 hP hK
  obtain ⟨rfl, hZ, hh⟩ := hP
  have hx := Bd.exec
  have hby := Bd.bytes
  have hml : c.maxLocals = 4 := hml0
  have hown : s.vm.findClass "com/example/credlib/credlib/policy/NameRuleIsPartPinLaw" = some m.cls := findClass_of_methodNamed Bd.named
  have hnm := (name_of_methodNamed Bd.named Bd.method).1
  have X0 : Stand p l e room_1 s m #[(.int p1), (.int p2)] below meth c s₁ [] 0 0 := Stand.of_body Bd
  have e0 : s₁.heap = h0 := by rw [← hh, Bd.state]; rfl
  have N0 := Fr.nil n0
  have pre0 : ∀ t, Steps p.tables e below (s₁.setTop (mkF m 0 #[.val (.int p1), .val (.int p2), .unset, .unset] [])) t → Steps p.tables e below (s₁.setTop (entryFrame m #[(.int p1), (.int p2)] maxLocals)) t := fun t k => castTop (own_ef_0_II m p1 p2) k
  obtain ⟨_, _, ⟨T1, L1, k1, n1⟩, -, X1, ⟨Lc1, hQ1, l1, y1, z1⟩, st1⟩ := Jvm.LawKit.callS X0 hx (y := (⟨"com/example/credlib/credlib/policy/NameRule", "isPart", "(I)Z"⟩ : MethodName)) hown (mvT hZ (hw _ (List.mem_of_getElem? (i := 0) rfl))) (mvT hZ (hw _ (List.mem_of_getElem? (i := 1) rfl))) (mvT hZ (hw _ (List.mem_of_getElem? (i := 2) rfl))) (mvT hZ (hw _ (List.mem_of_getElem? (i := 3) rfl))) (by decide) (backOf (W := 0) (own_isPart_24 l Z a0 hw [] wENTITY wROLE_NAME G h0 n0 O0 (p1 &&& (255 : Int32)) aa0 aa1 aa2 aa3 aa4 aa5 aa6 aa7 aa8 aa9 aa10) hZ (hw _ (List.mem_of_getElem? (i := 3) rfl)) (hw _ (List.mem_of_getElem? (i := 2) rfl)) (by decide) (by decide)) (g := (mkF m 17 #[.val (.int p1), .val (.int p2), .val (.int (p1 &&& (255 : Int32))), .unset] [(.int (p1 &&& (255 : Int32)))])) rfl (by rw [hml]; rfl) (argsL := [(.int (p1 &&& (255 : Int32)))]) (rest := []) (lenOf own_pd_0 rfl) rfl (by show 2 * 0 + _ ≤ _; exact Nat.le_of_eq rfl) (hb hby at_17) (fun _ _ => ⟨rfl, e0, (by decide : 0 + 0 ≤ _), (by decide : 0 + 0 ≤ _)⟩)
  dsimp only [Pt.U, Pt.locs, Pt.cells, Pt.slots] at X1 l1 y1 z1 st1 hQ1
  subst l1 y1 z1
  obtain ⟨rfl, N1q, e1⟩ := hQ1
  have N1 := Fr.app N0 N1q
  obtain ⟨_, _, ⟨T2, L2, k2, n2⟩, -, X2, ⟨Lc2, hQ2, l2, y2, z2⟩, st2⟩ := Jvm.LawKit.callS X1 hx (y := (⟨"com/example/credlib/credlib/policy/NameRuleIsPartPinLaw", "expected", "(I)Z"⟩ : MethodName)) hown (mvT hZ (hw _ (List.mem_of_getElem? (i := 4) rfl))) (mvT hZ (hw _ (List.mem_of_getElem? (i := 5) rfl))) (mvT hZ (hw _ (List.mem_of_getElem? (i := 6) rfl))) (mvT hZ (hw _ (List.mem_of_getElem? (i := 7) rfl))) (by decide) (backOf (W := 1) (own_expected_25 l Z a0 hw [] wENTITY wROLE_NAME G h0 n0 O0 (p1 &&& (255 : Int32)) aa0 aa1 aa2 aa3 aa4 aa5 aa6 aa7 aa8 aa9 aa10) hZ (hw _ (List.mem_of_getElem? (i := 7) rfl)) (hw _ (List.mem_of_getElem? (i := 6) rfl)) (by decide) (by decide)) (g := (mkF m 23 #[.val (.int p1), .val (.int p2), .val (.int (p1 &&& (255 : Int32))), .val (.int (0 : Int32))] [(.int (p1 &&& (255 : Int32))), (.int (0 : Int32))])) rfl (by rw [hml]; rfl) (argsL := [(.int (p1 &&& (255 : Int32)))]) (rest := [(.int (0 : Int32))]) (lenOf own_pd_0 rfl) rfl (by show 2 * 0 + _ ≤ _; exact Nat.le_of_eq rfl) (hb hby at_23) (fun _ _ => ⟨rfl, e1, (by decide : 0 + 0 ≤ _), (by decide : 0 + 0 ≤ _)⟩)
  dsimp only [Pt.U, Pt.locs, Pt.cells, Pt.slots] at X2 l2 y2 z2 st2 hQ2
  subst l2 y2 z2
  obtain ⟨rfl, N2q, e2⟩ := hQ2
  have N2 := Fr.app N1 N2q
  obtain ⟨T3, X3, e3, st3⟩ := getS2 X2 hx hZ hown (host := "") (Or.inl (hw _ (List.mem_of_getElem? (i := 9) rfl))) Via.refl e2 (G.1.ext O0.2) (g := (mkF m 31 #[.val (.int p1), .val (.int p2), .val (.int (p1 &&& (255 : Int32))), .val (.int (0 : Int32))] [])) rfl (hb hby at_31)
  obtain ⟨cq4, kq4, q4a, q4b, q4c⟩ := isOf hZ e3 (G.2.1.ext O0.2)
  obtain ⟨_, _, ⟨T4, L4, k4, n4⟩, -, X4, ⟨Lc4, hQ4, l4, y4, z4⟩, st4⟩ := X3.virtualBack hx (y := (⟨"com/example/credlib/credlib/policy/NameRule", "isStart", "(I)Z"⟩ : MethodName)) (z := (⟨"com/example/credlib/credlib/policy/NameRule", "isStart", "(I)Z"⟩ : MethodName)) hown (mvT hZ (hw _ (List.mem_of_getElem? (i := 11) rfl))) (mvT hZ (hw _ (List.mem_of_getElem? (i := 12) rfl))) (notFace_of_selects (args := #[]) (mvT hZ (hw _ (List.mem_of_getElem? (i := 14) rfl)))) (mvT hZ (hw _ (List.mem_of_getElem? (i := 14) rfl))) (mvT hZ (hw _ (List.mem_of_getElem? (i := 13) rfl))) (by decide) (backOf (W := 0) (own_isStart_26 l Z a0 hw [] wENTITY wROLE_NAME G h0 n0 O0 (p1 &&& (255 : Int32)) aa0 aa1 aa2 aa3 aa4 aa5 aa6 aa7 aa8 aa9 aa10) hZ (hw _ (List.mem_of_getElem? (i := 15) rfl)) (hw _ (List.mem_of_getElem? (i := 2) rfl)) (by decide) (by decide)) q4a q4c (g := (mkF m 35 #[.val (.int p1), .val (.int p2), .val (.int (p1 &&& (255 : Int32))), .val (.int (0 : Int32))] [(.int (p1 &&& (255 : Int32))), (.ref wENTITY)])) rfl (by rw [hml]; rfl) (Steps.refl _) (argsL := [(.int (p1 &&& (255 : Int32)))]) (rest := []) (lenOf own_pd_0 rfl) rfl (by show 2 * 0 + _ ≤ _; exact Nat.le_of_eq rfl) (hb hby at_35) (fun _ _ => ⟨rfl, e3, (by decide : 0 + 0 ≤ _), (by decide : 0 + 0 ≤ _)⟩)
  dsimp only [Pt.U, Pt.locs, Pt.cells, Pt.slots] at X4 l4 y4 z4 st4 hQ4
  subst l4 y4 z4
  obtain ⟨rfl, N4q, e4⟩ := hQ4
  have N4 := Fr.app N2 N4q
  obtain ⟨T5, X5, e5, st5⟩ := getS2 X4 hx hZ hown (host := "") (Or.inl (hw _ (List.mem_of_getElem? (i := 18) rfl))) Via.refl e4 (G.2.2.1.ext O0.2) (g := (mkF m 47 #[.val (.int p1), .val (.int p2), .val (.int (p1 &&& (255 : Int32))), .val (.int (0 : Int32))] [])) rfl (hb hby at_47)
  obtain ⟨cq6, kq6, q6a, q6b, q6c⟩ := isOf hZ e5 (G.2.2.2.1.ext O0.2)
  obtain ⟨_, _, ⟨T6, L6, k6, n6⟩, -, X6, ⟨Lc6, hQ6, l6, y6, z6⟩, st6⟩ := X5.virtualBack hx (y := (⟨"com/example/credlib/credlib/policy/NameRule", "isStart", "(I)Z"⟩ : MethodName)) (z := (⟨"com/example/credlib/credlib/policy/NameRule", "isStart", "(I)Z"⟩ : MethodName)) hown (mvT hZ (hw _ (List.mem_of_getElem? (i := 11) rfl))) (mvT hZ (hw _ (List.mem_of_getElem? (i := 12) rfl))) (notFace_of_selects (args := #[]) (mvT hZ (hw _ (List.mem_of_getElem? (i := 14) rfl)))) (mvT hZ (hw _ (List.mem_of_getElem? (i := 14) rfl))) (mvT hZ (hw _ (List.mem_of_getElem? (i := 13) rfl))) (by decide) (backOf (W := 0) (own_isStart_27 l Z a0 hw [] wENTITY wROLE_NAME G h0 n0 O0 (p1 &&& (255 : Int32)) aa0 aa1 aa2 aa3 aa4 aa5 aa6 aa7 aa8 aa9 aa10) hZ (hw _ (List.mem_of_getElem? (i := 15) rfl)) (hw _ (List.mem_of_getElem? (i := 2) rfl)) (by decide) (by decide)) q6a q6c (g := (mkF m 51 #[.val (.int p1), .val (.int p2), .val (.int (p1 &&& (255 : Int32))), .val (.int (0 : Int32))] [(.int (p1 &&& (255 : Int32))), (.ref wROLE_NAME)])) rfl (by rw [hml]; rfl) (Steps.refl _) (argsL := [(.int (p1 &&& (255 : Int32)))]) (rest := []) (lenOf own_pd_0 rfl) rfl (by show 2 * 0 + _ ≤ _; exact Nat.le_of_eq rfl) (hb hby at_51) (fun _ _ => ⟨rfl, e5, (by decide : 0 + 0 ≤ _), (by decide : 0 + 0 ≤ _)⟩)
  dsimp only [Pt.U, Pt.locs, Pt.cells, Pt.slots] at X6 l6 y6 z6 st6 hQ6
  subst l6 y6 z6
  obtain ⟨rfl, N6q, e6⟩ := hQ6
  have N6 := Fr.app N4 N6q
  obtain ⟨fs, hr, hrun, hended, hW, hsame⟩ := X6.leave (v := some (.int (1 : Int32))) (fun h => by rw [Bd.returns] at h; cases h)
  refine ⟨_, _, pre0 _ ?_, hrun, hended, _, _, rfl, ?_, ⟨_, rfl⟩, hW, hsame.mono (by decide) (by decide)⟩
  · show Steps p.tables e below (s₁.setTop (mkF m 0 #[.val (.int p1), .val (.int p2), .unset, .unset] [])) _
    refine XS.iloadN X0.here hx rfl (hb hby at_0) rfl ?_
    show Steps p.tables e below (s₁.setTop (mkF m 1 #[.val (.int p1), .val (.int p2), .unset, .unset] [(.int p2)])) _
    refine XS.iconst X0.here hx rfl (hb hby at_1) ?_
    show Steps p.tables e below (s₁.setTop (mkF m 2 #[.val (.int p1), .val (.int p2), .unset, .unset] [(.int (1 : Int32)), (.int p2)])) _
    refine XS.iand X0.here hx rfl (hb hby at_2) rfl ?_
    show Steps p.tables e below (s₁.setTop (mkF m 3 #[.val (.int p1), .val (.int p2), .unset, .unset] [(.int (p2 &&& (1 : Int32)))])) _
    refine XS.ifYes X0.here hx rfl (pc0 := 3) (pc' := 10) rfl (hb hby at_3) rfl ((if0 _ _).trans (teq (he : (p2 &&& (1 : Int32)) = (0 : Int32))).1) (by decide) (by decide) ?_
    show Steps p.tables e below (s₁.setTop (mkF m 10 #[.val (.int p1), .val (.int p2), .unset, .unset] [])) _
    refine XS.iloadN X0.here hx rfl (hb hby at_10) rfl ?_
    show Steps p.tables e below (s₁.setTop (mkF m 11 #[.val (.int p1), .val (.int p2), .unset, .unset] [(.int p1)])) _
    refine XS.sipush X0.here hx rfl (hb hby at_11) ?_
    show Steps p.tables e below (s₁.setTop (mkF m 14 #[.val (.int p1), .val (.int p2), .unset, .unset] [(.int (255 : Int32)), (.int p1)])) _
    refine XS.iand X0.here hx rfl (hb hby at_14) rfl ?_
    show Steps p.tables e below (s₁.setTop (mkF m 15 #[.val (.int p1), .val (.int p2), .unset, .unset] [(.int (p1 &&& (255 : Int32)))])) _
    refine XS.istoreN X0.here hx rfl (hb hby at_15) rfl (l' := #[.val (.int p1), .val (.int p2), .val (.int (p1 &&& (255 : Int32))), .unset]) rfl ?_
    show Steps p.tables e below (s₁.setTop (mkF m 16 #[.val (.int p1), .val (.int p2), .val (.int (p1 &&& (255 : Int32))), .unset] [])) _
    refine XS.iloadN X0.here hx rfl (hb hby at_16) rfl ?_
    show Steps p.tables e below (s₁.setTop (mkF m 17 #[.val (.int p1), .val (.int p2), .val (.int (p1 &&& (255 : Int32))), .unset] [(.int (p1 &&& (255 : Int32)))])) _
    refine st1 _ ?_
    show Steps p.tables e below (T1.setTop (mkF m 20 #[.val (.int p1), .val (.int p2), .val (.int (p1 &&& (255 : Int32))), .unset] [(.int (0 : Int32))])) _
    refine XS.istoreN X1.here hx rfl (hb hby at_20) rfl (l' := #[.val (.int p1), .val (.int p2), .val (.int (p1 &&& (255 : Int32))), .val (.int (0 : Int32))]) rfl ?_
    show Steps p.tables e below (T1.setTop (mkF m 21 #[.val (.int p1), .val (.int p2), .val (.int (p1 &&& (255 : Int32))), .val (.int (0 : Int32))] [])) _
    refine XS.iloadN X1.here hx rfl (hb hby at_21) rfl ?_
    show Steps p.tables e below (T1.setTop (mkF m 22 #[.val (.int p1), .val (.int p2), .val (.int (p1 &&& (255 : Int32))), .val (.int (0 : Int32))] [(.int (0 : Int32))])) _
    refine XS.iloadN X1.here hx rfl (hb hby at_22) rfl ?_
    show Steps p.tables e below (T1.setTop (mkF m 23 #[.val (.int p1), .val (.int p2), .val (.int (p1 &&& (255 : Int32))), .val (.int (0 : Int32))] [(.int (p1 &&& (255 : Int32))), (.int (0 : Int32))])) _
    refine st2 _ ?_
    show Steps p.tables e below (T2.setTop (mkF m 26 #[.val (.int p1), .val (.int p2), .val (.int (p1 &&& (255 : Int32))), .val (.int (0 : Int32))] [(.int (0 : Int32)), (.int (0 : Int32))])) _
    refine XS.icmpYes X2.here hx rfl (pc0 := 26) (pc' := 31) rfl (hb hby at_26) rfl (by decide) (by decide) (by decide) ?_
    show Steps p.tables e below (T2.setTop (mkF m 31 #[.val (.int p1), .val (.int p2), .val (.int (p1 &&& (255 : Int32))), .val (.int (0 : Int32))] [])) _
    refine st3 _ ?_
    show Steps p.tables e below (T3.setTop (mkF m 34 #[.val (.int p1), .val (.int p2), .val (.int (p1 &&& (255 : Int32))), .val (.int (0 : Int32))] [(.ref wENTITY)])) _
    refine XS.iloadN X3.here hx rfl (hb hby at_34) rfl ?_
    show Steps p.tables e below (T3.setTop (mkF m 35 #[.val (.int p1), .val (.int p2), .val (.int (p1 &&& (255 : Int32))), .val (.int (0 : Int32))] [(.int (p1 &&& (255 : Int32))), (.ref wENTITY)])) _
    refine st4.trans ?_
    show Steps p.tables e below (T4.setTop (mkF m 38 #[.val (.int p1), .val (.int p2), .val (.int (p1 &&& (255 : Int32))), .val (.int (0 : Int32))] [(.int (0 : Int32))])) _
    refine XS.ifYes X4.here hx rfl (pc0 := 38) (pc' := 47) rfl (hb hby at_38) rfl (by decide) (by decide) (by decide) ?_
    show Steps p.tables e below (T4.setTop (mkF m 47 #[.val (.int p1), .val (.int p2), .val (.int (p1 &&& (255 : Int32))), .val (.int (0 : Int32))] [])) _
    refine st5 _ ?_
    show Steps p.tables e below (T5.setTop (mkF m 50 #[.val (.int p1), .val (.int p2), .val (.int (p1 &&& (255 : Int32))), .val (.int (0 : Int32))] [(.ref wROLE_NAME)])) _
    refine XS.iloadN X5.here hx rfl (hb hby at_50) rfl ?_
    show Steps p.tables e below (T5.setTop (mkF m 51 #[.val (.int p1), .val (.int p2), .val (.int (p1 &&& (255 : Int32))), .val (.int (0 : Int32))] [(.int (p1 &&& (255 : Int32))), (.ref wROLE_NAME)])) _
    refine st6.trans ?_
    show Steps p.tables e below (T6.setTop (mkF m 54 #[.val (.int p1), .val (.int p2), .val (.int (p1 &&& (255 : Int32))), .val (.int (0 : Int32))] [(.int (0 : Int32))])) _
    refine XS.ifYes X6.here hx rfl (pc0 := 54) (pc' := 63) rfl (hb hby at_54) rfl (by decide) (by decide) (by decide) ?_
    show Steps p.tables e below (T6.setTop (mkF m 63 #[.val (.int p1), .val (.int p2), .val (.int (p1 &&& (255 : Int32))), .val (.int (0 : Int32))] [])) _
    refine XS.iconst X6.here hx rfl (hb hby at_63) ?_
    show Steps p.tables e below (T6.setTop (mkF m 64 #[.val (.int p1), .val (.int p2), .val (.int (p1 &&& (255 : Int32))), .val (.int (0 : Int32))] [(.int (1 : Int32))])) _
    exact retN X6 hx (t := .boolean) Bd.returns (by simp) (hb hby at_64) hr
  · exact ⟨rfl, N6⟩
theorem own_d1_18 : decode prog_30_method_7_code 18 = .ok (.iload_n 0, 1) := by decide +kernel
theorem own_d1_19 : decode prog_30_method_7_code 19 = .ok (.bipush 122, 2) := by decide +kernel
theorem own_d1_21 : decode prog_30_method_7_code 21 = .ok (.if_icmp .le 21, 3) := by decide +kernel
set_option maxRecDepth 65536 in
set_option maxHeartbeats 40000000 in
theorem own_isPart_28 (l : Launch) (Z : State) (a0 : Array Value) (hw : ∀ d ∈ tables_1, d.before a0 Z = true) (ws : List Jvm.Cond) (wENTITY : Addr) (wROLE_NAME : Addr) (G : OwnG Z wENTITY wROLE_NAME) (h0 : Heap) (n0 : Nat) (O0 : Old Z n0 h0) (v1 : Int32) (hp1 : ¬ (v1 < (65 : Int32))) (hp2 : (90 : Int32) < v1) (hp3 : ¬ (v1 < (97 : Int32))) (hp4 : ¬ ((122 : Int32) < v1)) (hp5 : ¬ (v1 < (48 : Int32))) (hp6 : (57 : Int32) < v1) (hp7 : ¬ (v1 = (95 : Int32))) (hp8 : ¬ ((v1 ||| (32 : Int32)) < (97 : Int32))) (hp9 : ¬ ((122 : Int32) < (v1 ||| (32 : Int32)))) (hp10 : ¬ ((lcmpW ((v1.toInt64) - (48 : Int64)) (0 : Int64)) < (0 : Int32))) (hp11 : ¬ ((lcmpW ((v1.toInt64) - (48 : Int64)) (10 : Int64)) < (0 : Int32))) :
    MetFree l (⟨"com/example/credlib/credlib/policy/NameRule", "isPart", "(I)Z"⟩ : MethodName) (head1 (Jvm.Cond.code (⟨"com/example/credlib/credlib/policy/NameRule", "isPart", "(I)Z"⟩ : MethodName) prog_30_method_7_code 1 (some .boolean) :: ws) ({ frames := 0, cells := 0, slots := 0, locals := 0 } : Room)) (fun a U => a = #[(.int v1)] ∧ Z.Warmed39 U.vm ∧ U.heap = h0) (fun _ _ _ _ _ => True) (fun _ U o U' => ∃ v L, o = .returned v ∧ OwnQ (some (.int (1 : Int32))) h0 n0 v U'.heap L ∧ FrameEnd U o U' L ({ frames := 0, cells := 0, slots := 0, locals := 0 } : Room).cells ({ frames := 0, cells := 0, slots := 0, locals := 0 } : Room).slots) := by
  refine MetFree.of_bodySF (plainFor_of_name own_pn_1) hisR ?_
  intro p e s m args below meth c s₁ Bd hml0 hP hK
  obtain ⟨rfl, hZ, hh⟩ := hP
  have hx := Bd.exec
  have hby := Bd.bytes
  have hml : c.maxLocals = 1 := hml0
  have hown : s.vm.findClass "com/example/credlib/credlib/policy/NameRule" = some m.cls := findClass_of_methodNamed Bd.named
  have hnm := (name_of_methodNamed Bd.named Bd.method).1
  have X0 : Stand p l e ({ frames := 0, cells := 0, slots := 0, locals := 0 } : Room) s m #[(.int v1)] below meth c s₁ [] 0 0 := Stand.of_body Bd
  have e0 : s₁.heap = h0 := by rw [← hh, Bd.state]; rfl
  have N0 := Fr.nil n0
  have pre0 : ∀ t, Steps p.tables e below (s₁.setTop (mkF m 0 #[.val (.int v1)] [])) t → Steps p.tables e below (s₁.setTop (entryFrame m #[(.int v1)] 1)) t := fun t k => castTop (own_ef_1_I m v1) k
  obtain ⟨fs, hr, hrun, hended, hW, hsame⟩ := X0.leave (v := some (.int (1 : Int32))) (fun h => by rw [Bd.returns] at h; cases h)
  refine ⟨_, _, pre0 _ ?_, hrun, hended, _, _, rfl, ?_, ⟨_, rfl⟩, hW, hsame.mono (by decide) (by decide)⟩
  · show Steps p.tables e below (s₁.setTop (mkF m 0 #[.val (.int v1)] [])) _
    refine XS.iloadN X0.here hx rfl (hb hby own_d1_0) rfl ?_
    show Steps p.tables e below (s₁.setTop (mkF m 1 #[.val (.int v1)] [(.int v1)])) _
    refine XS.bipush X0.here hx rfl (hb hby own_d1_1) ?_
    show Steps p.tables e below (s₁.setTop (mkF m 3 #[.val (.int v1)] [(.int (65 : Int32)), (.int v1)])) _
    refine XS.icmpNo X0.here hx rfl (hb hby own_d1_3) rfl (flt (hp1 : ¬ (v1 < (65 : Int32)))).1 ?_
    show Steps p.tables e below (s₁.setTop (mkF m 6 #[.val (.int v1)] [])) _
    refine XS.iloadN X0.here hx rfl (hb hby own_d1_6) rfl ?_
    show Steps p.tables e below (s₁.setTop (mkF m 7 #[.val (.int v1)] [(.int v1)])) _
    refine XS.bipush X0.here hx rfl (hb hby own_d1_7) ?_
    show Steps p.tables e below (s₁.setTop (mkF m 9 #[.val (.int v1)] [(.int (90 : Int32)), (.int v1)])) _
    refine XS.icmpNo X0.here hx rfl (hb hby own_d1_9) rfl (tlt (hp2 : (90 : Int32) < v1)).2.2.2 ?_
    show Steps p.tables e below (s₁.setTop (mkF m 12 #[.val (.int v1)] [])) _
    refine XS.iloadN X0.here hx rfl (hb hby own_d1_12) rfl ?_
    show Steps p.tables e below (s₁.setTop (mkF m 13 #[.val (.int v1)] [(.int v1)])) _
    refine XS.bipush X0.here hx rfl (hb hby own_d1_13) ?_
    show Steps p.tables e below (s₁.setTop (mkF m 15 #[.val (.int v1)] [(.int (97 : Int32)), (.int v1)])) _
    refine XS.icmpNo X0.here hx rfl (hb hby own_d1_15) rfl (flt (hp3 : ¬ (v1 < (97 : Int32)))).1 ?_
    show Steps p.tables e below (s₁.setTop (mkF m 18 #[.val (.int v1)] [])) _
    refine XS.iloadN X0.here hx rfl (hb hby own_d1_18) rfl ?_
    show Steps p.tables e below (s₁.setTop (mkF m 19 #[.val (.int v1)] [(.int v1)])) _
    refine XS.bipush X0.here hx rfl (hb hby own_d1_19) ?_
    show Steps p.tables e below (s₁.setTop (mkF m 21 #[.val (.int v1)] [(.int (122 : Int32)), (.int v1)])) _
    refine XS.icmpYes X0.here hx rfl (pc0 := 21) (pc' := 42) rfl (hb hby own_d1_21) rfl (flt (hp4 : ¬ ((122 : Int32) < v1))).2.2.2 (by decide) (by decide) ?_
    show Steps p.tables e below (s₁.setTop (mkF m 42 #[.val (.int v1)] [])) _
    refine XS.iconst X0.here hx rfl (hb hby own_d1_42) ?_
    show Steps p.tables e below (s₁.setTop (mkF m 43 #[.val (.int v1)] [(.int (1 : Int32))])) _
    refine XS.goto X0.here hx rfl (pc0 := 43) (pc' := 47) rfl (hb hby own_d1_43) (by decide) (by decide) ?_
    show Steps p.tables e below (s₁.setTop (mkF m 47 #[.val (.int v1)] [(.int (1 : Int32))])) _
    exact retN X0 hx (t := .boolean) Bd.returns (by simp) (hb hby own_d1_47) hr
  · show OwnQ _ h0 n0 _ s₁.heap _
    exact ⟨rfl, N0, e0⟩
set_option maxRecDepth 65536 in
set_option maxHeartbeats 40000000 in
theorem own_expected_29 (l : Launch) (Z : State) (a0 : Array Value) (hw : ∀ d ∈ tables_1, d.before a0 Z = true) (ws : List Jvm.Cond) (wENTITY : Addr) (wROLE_NAME : Addr) (G : OwnG Z wENTITY wROLE_NAME) (h0 : Heap) (n0 : Nat) (O0 : Old Z n0 h0) (v1 : Int32) (hp1 : ¬ (v1 < (65 : Int32))) (hp2 : (90 : Int32) < v1) (hp3 : ¬ (v1 < (97 : Int32))) (hp4 : ¬ ((122 : Int32) < v1)) (hp5 : ¬ (v1 < (48 : Int32))) (hp6 : (57 : Int32) < v1) (hp7 : ¬ (v1 = (95 : Int32))) (hp8 : ¬ ((v1 ||| (32 : Int32)) < (97 : Int32))) (hp9 : ¬ ((122 : Int32) < (v1 ||| (32 : Int32)))) (hp10 : ¬ ((lcmpW ((v1.toInt64) - (48 : Int64)) (0 : Int64)) < (0 : Int32))) (hp11 : ¬ ((lcmpW ((v1.toInt64) - (48 : Int64)) (10 : Int64)) < (0 : Int32))) :
    MetFree l (⟨"com/example/credlib/credlib/policy/NameRuleIsPartPinLaw", "expected", "(I)Z"⟩ : MethodName) (head1 (Jvm.Cond.code (⟨"com/example/credlib/credlib/policy/NameRuleIsPartPinLaw", "expected", "(I)Z"⟩ : MethodName) method_2_code 7 (some .boolean) :: ws) ({ frames := 0, cells := 0, slots := 0, locals := 0 } : Room)) (fun a U => a = #[(.int v1)] ∧ Z.Warmed39 U.vm ∧ U.heap = h0) (fun _ _ _ _ _ => True) (fun _ U o U' => ∃ v L, o = .returned v ∧ OwnQ (some (.int (1 : Int32))) h0 n0 v U'.heap L ∧ FrameEnd U o U' L ({ frames := 0, cells := 0, slots := 0, locals := 0 } : Room).cells ({ frames := 0, cells := 0, slots := 0, locals := 0 } : Room).slots) := by
  refine MetFree.of_bodySF (plainFor_of_name own_pn_0) hisR ?_
  intro p e s m args below meth c s₁ Bd hml0 hP hK
  obtain ⟨rfl, hZ, hh⟩ := hP
  have hx := Bd.exec
  have hby := Bd.bytes
  have hml : c.maxLocals = 7 := hml0
  have hown : s.vm.findClass "com/example/credlib/credlib/policy/NameRuleIsPartPinLaw" = some m.cls := findClass_of_methodNamed Bd.named
  have hnm := (name_of_methodNamed Bd.named Bd.method).1
  have X0 : Stand p l e ({ frames := 0, cells := 0, slots := 0, locals := 0 } : Room) s m #[(.int v1)] below meth c s₁ [] 0 0 := Stand.of_body Bd
  have e0 : s₁.heap = h0 := by rw [← hh, Bd.state]; rfl
  have N0 := Fr.nil n0
  have pre0 : ∀ t, Steps p.tables e below (s₁.setTop (mkF m 0 #[.val (.int v1), .unset, .unset, .unset, .unset, .unset, .unset] [])) t → Steps p.tables e below (s₁.setTop (entryFrame m #[(.int v1)] 7)) t := fun t k => castTop (own_ef_2_I m v1) k
  obtain ⟨fs, hr, hrun, hended, hW, hsame⟩ := X0.leave (v := some (.int (1 : Int32))) (fun h => by rw [Bd.returns] at h; cases h)
  refine ⟨_, _, pre0 _ ?_, hrun, hended, _, _, rfl, ?_, ⟨_, rfl⟩, hW, hsame.mono (by decide) (by decide)⟩
  · show Steps p.tables e below (s₁.setTop (mkF m 0 #[.val (.int v1), .unset, .unset, .unset, .unset, .unset, .unset] [])) _
    refine XS.iloadN X0.here hx rfl (hb hby own_d2_0) rfl ?_
    show Steps p.tables e below (s₁.setTop (mkF m 1 #[.val (.int v1), .unset, .unset, .unset, .unset, .unset, .unset] [(.int v1)])) _
    refine XS.bipush X0.here hx rfl (hb hby own_d2_1) ?_
    show Steps p.tables e below (s₁.setTop (mkF m 3 #[.val (.int v1), .unset, .unset, .unset, .unset, .unset, .unset] [(.int (32 : Int32)), (.int v1)])) _
    refine XS.ior X0.here hx rfl (hb hby own_d2_3) rfl ?_
    show Steps p.tables e below (s₁.setTop (mkF m 4 #[.val (.int v1), .unset, .unset, .unset, .unset, .unset, .unset] [(.int (v1 ||| (32 : Int32)))])) _
    refine XS.istoreN X0.here hx rfl (hb hby own_d2_4) rfl (l' := #[.val (.int v1), .val (.int (v1 ||| (32 : Int32))), .unset, .unset, .unset, .unset, .unset]) rfl ?_
    show Steps p.tables e below (s₁.setTop (mkF m 5 #[.val (.int v1), .val (.int (v1 ||| (32 : Int32))), .unset, .unset, .unset, .unset, .unset] [])) _
    refine XS.iloadN X0.here hx rfl (hb hby own_d2_5) rfl ?_
    show Steps p.tables e below (s₁.setTop (mkF m 6 #[.val (.int v1), .val (.int (v1 ||| (32 : Int32))), .unset, .unset, .unset, .unset, .unset] [(.int (v1 ||| (32 : Int32)))])) _
    refine XS.bipush X0.here hx rfl (hb hby own_d2_6) ?_
    show Steps p.tables e below (s₁.setTop (mkF m 8 #[.val (.int v1), .val (.int (v1 ||| (32 : Int32))), .unset, .unset, .unset, .unset, .unset] [(.int (97 : Int32)), (.int (v1 ||| (32 : Int32)))])) _
    refine XS.icmpNo X0.here hx rfl (hb hby own_d2_8) rfl (flt (hp8 : ¬ ((v1 ||| (32 : Int32)) < (97 : Int32)))).1 ?_
    show Steps p.tables e below (s₁.setTop (mkF m 11 #[.val (.int v1), .val (.int (v1 ||| (32 : Int32))), .unset, .unset, .unset, .unset, .unset] [])) _
    refine XS.iloadN X0.here hx rfl (hb hby own_d2_11) rfl ?_
    show Steps p.tables e below (s₁.setTop (mkF m 12 #[.val (.int v1), .val (.int (v1 ||| (32 : Int32))), .unset, .unset, .unset, .unset, .unset] [(.int (v1 ||| (32 : Int32)))])) _
    refine XS.bipush X0.here hx rfl (hb hby own_d2_12) ?_
    show Steps p.tables e below (s₁.setTop (mkF m 14 #[.val (.int v1), .val (.int (v1 ||| (32 : Int32))), .unset, .unset, .unset, .unset, .unset] [(.int (122 : Int32)), (.int (v1 ||| (32 : Int32)))])) _
    refine XS.icmpNo X0.here hx rfl (hb hby own_d2_14) rfl (flt (hp9 : ¬ ((122 : Int32) < (v1 ||| (32 : Int32))))).2.2.1 ?_
    show Steps p.tables e below (s₁.setTop (mkF m 17 #[.val (.int v1), .val (.int (v1 ||| (32 : Int32))), .unset, .unset, .unset, .unset, .unset] [])) _
    refine XS.iconst X0.here hx rfl (hb hby own_d2_17) ?_
    show Steps p.tables e below (s₁.setTop (mkF m 18 #[.val (.int v1), .val (.int (v1 ||| (32 : Int32))), .unset, .unset, .unset, .unset, .unset] [(.int (1 : Int32))])) _
    refine XS.goto X0.here hx rfl (pc0 := 18) (pc' := 22) rfl (hb hby own_d2_18) (by decide) (by decide) ?_
    show Steps p.tables e below (s₁.setTop (mkF m 22 #[.val (.int v1), .val (.int (v1 ||| (32 : Int32))), .unset, .unset, .unset, .unset, .unset] [(.int (1 : Int32))])) _
    refine XS.istoreN X0.here hx rfl (hb hby own_d2_22) rfl (l' := #[.val (.int v1), .val (.int (v1 ||| (32 : Int32))), .val (.int (1 : Int32)), .unset, .unset, .unset, .unset]) rfl ?_
    show Steps p.tables e below (s₁.setTop (mkF m 23 #[.val (.int v1), .val (.int (v1 ||| (32 : Int32))), .val (.int (1 : Int32)), .unset, .unset, .unset, .unset] [])) _
    refine XS.iloadN X0.here hx rfl (hb hby own_d2_23) rfl ?_
    show Steps p.tables e below (s₁.setTop (mkF m 24 #[.val (.int v1), .val (.int (v1 ||| (32 : Int32))), .val (.int (1 : Int32)), .unset, .unset, .unset, .unset] [(.int v1)])) _
    refine XS.i2l X0.here hx rfl (hb hby own_d2_24) rfl ?_
    show Steps p.tables e below (s₁.setTop (mkF m 25 #[.val (.int v1), .val (.int (v1 ||| (32 : Int32))), .val (.int (1 : Int32)), .unset, .unset, .unset, .unset] [(.long (v1.toInt64))])) _
    refine Jvm.Stand.ldc2J X0 hx hown (mvT hZ (hw _ (List.mem_of_getElem? (i := 8) rfl))) rfl (hb hby own_d2_25) ?_
    show Steps p.tables e below (s₁.setTop (mkF m 28 #[.val (.int v1), .val (.int (v1 ||| (32 : Int32))), .val (.int (1 : Int32)), .unset, .unset, .unset, .unset] [(.long (48 : Int64)), (.long (v1.toInt64))])) _
    refine XS.lsub X0.here hx rfl (hb hby own_d2_28) rfl ?_
    show Steps p.tables e below (s₁.setTop (mkF m 29 #[.val (.int v1), .val (.int (v1 ||| (32 : Int32))), .val (.int (1 : Int32)), .unset, .unset, .unset, .unset] [(.long ((v1.toInt64) - (48 : Int64)))])) _
    refine XS.lstoreN X0.here hx rfl (hb hby own_d2_29) rfl (l' := #[.val (.int v1), .val (.int (v1 ||| (32 : Int32))), .val (.int (1 : Int32)), .val (.long ((v1.toInt64) - (48 : Int64))), .second, .unset, .unset]) rfl ?_
    show Steps p.tables e below (s₁.setTop (mkF m 30 #[.val (.int v1), .val (.int (v1 ||| (32 : Int32))), .val (.int (1 : Int32)), .val (.long ((v1.toInt64) - (48 : Int64))), .second, .unset, .unset] [])) _
    refine XS.lloadN X0.here hx rfl (hb hby own_d2_30) rfl ?_
    show Steps p.tables e below (s₁.setTop (mkF m 31 #[.val (.int v1), .val (.int (v1 ||| (32 : Int32))), .val (.int (1 : Int32)), .val (.long ((v1.toInt64) - (48 : Int64))), .second, .unset, .unset] [(.long ((v1.toInt64) - (48 : Int64)))])) _
    refine XS.lconst X0.here hx rfl (hb hby own_d2_31) ?_
    show Steps p.tables e below (s₁.setTop (mkF m 32 #[.val (.int v1), .val (.int (v1 ||| (32 : Int32))), .val (.int (1 : Int32)), .val (.long ((v1.toInt64) - (48 : Int64))), .second, .unset, .unset] [(.long (0 : Int64)), (.long ((v1.toInt64) - (48 : Int64)))])) _
    refine XS.lcmp X0.here hx rfl (hb hby own_d2_32) rfl ?_
    show Steps p.tables e below (s₁.setTop (mkF m 33 #[.val (.int v1), .val (.int (v1 ||| (32 : Int32))), .val (.int (1 : Int32)), .val (.long ((v1.toInt64) - (48 : Int64))), .second, .unset, .unset] [(.int (lcmpW ((v1.toInt64) - (48 : Int64)) (0 : Int64)))])) _
    refine XS.ifNo X0.here hx rfl (hb hby own_d2_33) rfl ((if0 _ _).trans (flt (hp10 : ¬ ((lcmpW ((v1.toInt64) - (48 : Int64)) (0 : Int64)) < (0 : Int32)))).1) ?_
    show Steps p.tables e below (s₁.setTop (mkF m 36 #[.val (.int v1), .val (.int (v1 ||| (32 : Int32))), .val (.int (1 : Int32)), .val (.long ((v1.toInt64) - (48 : Int64))), .second, .unset, .unset] [])) _
    refine XS.lloadN X0.here hx rfl (hb hby own_d2_36) rfl ?_
    show Steps p.tables e below (s₁.setTop (mkF m 37 #[.val (.int v1), .val (.int (v1 ||| (32 : Int32))), .val (.int (1 : Int32)), .val (.long ((v1.toInt64) - (48 : Int64))), .second, .unset, .unset] [(.long ((v1.toInt64) - (48 : Int64)))])) _
    refine Jvm.Stand.ldc2J X0 hx hown (mvT hZ (hw _ (List.mem_of_getElem? (i := 20) rfl))) rfl (hb hby own_d2_37) ?_
    show Steps p.tables e below (s₁.setTop (mkF m 40 #[.val (.int v1), .val (.int (v1 ||| (32 : Int32))), .val (.int (1 : Int32)), .val (.long ((v1.toInt64) - (48 : Int64))), .second, .unset, .unset] [(.long (10 : Int64)), (.long ((v1.toInt64) - (48 : Int64)))])) _
    refine XS.lcmp X0.here hx rfl (hb hby own_d2_40) rfl ?_
    show Steps p.tables e below (s₁.setTop (mkF m 41 #[.val (.int v1), .val (.int (v1 ||| (32 : Int32))), .val (.int (1 : Int32)), .val (.long ((v1.toInt64) - (48 : Int64))), .second, .unset, .unset] [(.int (lcmpW ((v1.toInt64) - (48 : Int64)) (10 : Int64)))])) _
    refine XS.ifYes X0.here hx rfl (pc0 := 41) (pc' := 48) rfl (hb hby own_d2_41) rfl ((if0 _ _).trans (flt (hp11 : ¬ ((lcmpW ((v1.toInt64) - (48 : Int64)) (10 : Int64)) < (0 : Int32)))).2.1) (by decide) (by decide) ?_
    show Steps p.tables e below (s₁.setTop (mkF m 48 #[.val (.int v1), .val (.int (v1 ||| (32 : Int32))), .val (.int (1 : Int32)), .val (.long ((v1.toInt64) - (48 : Int64))), .second, .unset, .unset] [])) _
    refine XS.iconst X0.here hx rfl (hb hby own_d2_48) ?_
    show Steps p.tables e below (s₁.setTop (mkF m 49 #[.val (.int v1), .val (.int (v1 ||| (32 : Int32))), .val (.int (1 : Int32)), .val (.long ((v1.toInt64) - (48 : Int64))), .second, .unset, .unset] [(.int (0 : Int32))])) _
    refine XS.istore X0.here hx rfl (hb hby own_d2_49) rfl (l' := #[.val (.int v1), .val (.int (v1 ||| (32 : Int32))), .val (.int (1 : Int32)), .val (.long ((v1.toInt64) - (48 : Int64))), .second, .val (.int (0 : Int32)), .unset]) rfl ?_
    show Steps p.tables e below (s₁.setTop (mkF m 51 #[.val (.int v1), .val (.int (v1 ||| (32 : Int32))), .val (.int (1 : Int32)), .val (.long ((v1.toInt64) - (48 : Int64))), .second, .val (.int (0 : Int32)), .unset] [])) _
    refine XS.iloadN X0.here hx rfl (hb hby own_d2_51) rfl ?_
    show Steps p.tables e below (s₁.setTop (mkF m 52 #[.val (.int v1), .val (.int (v1 ||| (32 : Int32))), .val (.int (1 : Int32)), .val (.long ((v1.toInt64) - (48 : Int64))), .second, .val (.int (0 : Int32)), .unset] [(.int v1)])) _
    refine XS.bipush X0.here hx rfl (hb hby own_d2_52) ?_
    show Steps p.tables e below (s₁.setTop (mkF m 54 #[.val (.int v1), .val (.int (v1 ||| (32 : Int32))), .val (.int (1 : Int32)), .val (.long ((v1.toInt64) - (48 : Int64))), .second, .val (.int (0 : Int32)), .unset] [(.int (95 : Int32)), (.int v1)])) _
    refine XS.icmpYes X0.here hx rfl (pc0 := 54) (pc' := 61) rfl (hb hby own_d2_54) rfl (feq (hp7 : ¬ (v1 = (95 : Int32)))).2 (by decide) (by decide) ?_
    show Steps p.tables e below (s₁.setTop (mkF m 61 #[.val (.int v1), .val (.int (v1 ||| (32 : Int32))), .val (.int (1 : Int32)), .val (.long ((v1.toInt64) - (48 : Int64))), .second, .val (.int (0 : Int32)), .unset] [])) _
    refine XS.iconst X0.here hx rfl (hb hby own_d2_61) ?_
    show Steps p.tables e below (s₁.setTop (mkF m 62 #[.val (.int v1), .val (.int (v1 ||| (32 : Int32))), .val (.int (1 : Int32)), .val (.long ((v1.toInt64) - (48 : Int64))), .second, .val (.int (0 : Int32)), .unset] [(.int (0 : Int32))])) _
    refine XS.istore X0.here hx rfl (hb hby own_d2_62) rfl (l' := #[.val (.int v1), .val (.int (v1 ||| (32 : Int32))), .val (.int (1 : Int32)), .val (.long ((v1.toInt64) - (48 : Int64))), .second, .val (.int (0 : Int32)), .val (.int (0 : Int32))]) rfl ?_
    show Steps p.tables e below (s₁.setTop (mkF m 64 #[.val (.int v1), .val (.int (v1 ||| (32 : Int32))), .val (.int (1 : Int32)), .val (.long ((v1.toInt64) - (48 : Int64))), .second, .val (.int (0 : Int32)), .val (.int (0 : Int32))] [])) _
    refine XS.iloadN X0.here hx rfl (hb hby own_d2_64) rfl ?_
    show Steps p.tables e below (s₁.setTop (mkF m 65 #[.val (.int v1), .val (.int (v1 ||| (32 : Int32))), .val (.int (1 : Int32)), .val (.long ((v1.toInt64) - (48 : Int64))), .second, .val (.int (0 : Int32)), .val (.int (0 : Int32))] [(.int (1 : Int32))])) _
    refine XS.ifYes X0.here hx rfl (pc0 := 65) (pc' := 78) rfl (hb hby own_d2_65) rfl (by decide) (by decide) (by decide) ?_
    show Steps p.tables e below (s₁.setTop (mkF m 78 #[.val (.int v1), .val (.int (v1 ||| (32 : Int32))), .val (.int (1 : Int32)), .val (.long ((v1.toInt64) - (48 : Int64))), .second, .val (.int (0 : Int32)), .val (.int (0 : Int32))] [])) _
    refine XS.iconst X0.here hx rfl (hb hby own_d2_78) ?_
    show Steps p.tables e below (s₁.setTop (mkF m 79 #[.val (.int v1), .val (.int (v1 ||| (32 : Int32))), .val (.int (1 : Int32)), .val (.long ((v1.toInt64) - (48 : Int64))), .second, .val (.int (0 : Int32)), .val (.int (0 : Int32))] [(.int (1 : Int32))])) _
    refine XS.goto X0.here hx rfl (pc0 := 79) (pc' := 83) rfl (hb hby own_d2_79) (by decide) (by decide) ?_
    show Steps p.tables e below (s₁.setTop (mkF m 83 #[.val (.int v1), .val (.int (v1 ||| (32 : Int32))), .val (.int (1 : Int32)), .val (.long ((v1.toInt64) - (48 : Int64))), .second, .val (.int (0 : Int32)), .val (.int (0 : Int32))] [(.int (1 : Int32))])) _
    exact retN X0 hx (t := .boolean) Bd.returns (by simp) (hb hby own_d2_83) hr
  · show OwnQ _ h0 n0 _ s₁.heap _
    exact ⟨rfl, N0, e0⟩
set_option maxRecDepth 65536 in
set_option maxHeartbeats 40000000 in
theorem own_isStart_30 (l : Launch) (Z : State) (a0 : Array Value) (hw : ∀ d ∈ tables_1, d.before a0 Z = true) (ws : List Jvm.Cond) (wENTITY : Addr) (wROLE_NAME : Addr) (G : OwnG Z wENTITY wROLE_NAME) (h0 : Heap) (n0 : Nat) (O0 : Old Z n0 h0) (v1 : Int32) (hp1 : ¬ (v1 < (65 : Int32))) (hp2 : (90 : Int32) < v1) (hp3 : ¬ (v1 < (97 : Int32))) (hp4 : ¬ ((122 : Int32) < v1)) (hp5 : ¬ (v1 < (48 : Int32))) (hp6 : (57 : Int32) < v1) (hp7 : ¬ (v1 = (95 : Int32))) (hp8 : ¬ ((v1 ||| (32 : Int32)) < (97 : Int32))) (hp9 : ¬ ((122 : Int32) < (v1 ||| (32 : Int32)))) (hp10 : ¬ ((lcmpW ((v1.toInt64) - (48 : Int64)) (0 : Int64)) < (0 : Int32))) (hp11 : ¬ ((lcmpW ((v1.toInt64) - (48 : Int64)) (10 : Int64)) < (0 : Int32))) :
    MetFree l (⟨"com/example/credlib/credlib/policy/NameRule", "isStart", "(I)Z"⟩ : MethodName) (head1 (Jvm.Cond.code (⟨"com/example/credlib/credlib/policy/NameRule", "isStart", "(I)Z"⟩ : MethodName) prog_30_method_6_code 2 (some .boolean) :: ws) ({ frames := 0, cells := 0, slots := 0, locals := 0 } : Room)) (fun a U => a = #[(.ref wENTITY), (.int v1)] ∧ Z.Warmed39 U.vm ∧ U.heap = h0) (fun _ _ _ _ _ => True) (fun _ U o U' => ∃ v L, o = .returned v ∧ OwnQ (some (.int (0 : Int32))) h0 n0 v U'.heap L ∧ FrameEnd U o U' L ({ frames := 0, cells := 0, slots := 0, locals := 0 } : Room).cells ({ frames := 0, cells := 0, slots := 0, locals := 0 } : Room).slots) := by
  refine MetFree.of_bodySF (plainFor_of_name own_pn_1) hisR ?_
  intro p e s m args below meth c s₁ Bd hml0 hP hK
  obtain ⟨rfl, hZ, hh⟩ := hP
  have hx := Bd.exec
  have hby := Bd.bytes
  have hml : c.maxLocals = 2 := hml0
  have hown : s.vm.findClass "com/example/credlib/credlib/policy/NameRule" = some m.cls := findClass_of_methodNamed Bd.named
  have hnm := (name_of_methodNamed Bd.named Bd.method).1
  have X0 : Stand p l e ({ frames := 0, cells := 0, slots := 0, locals := 0 } : Room) s m #[(.ref wENTITY), (.int v1)] below meth c s₁ [] 0 0 := Stand.of_body Bd
  have e0 : s₁.heap = h0 := by rw [← hh, Bd.state]; rfl
  have N0 := Fr.nil n0
  have pre0 : ∀ t, Steps p.tables e below (s₁.setTop (mkF m 0 #[.val (.ref wENTITY), .val (.int v1)] [])) t → Steps p.tables e below (s₁.setTop (entryFrame m #[(.ref wENTITY), (.int v1)] 2)) t := fun t k => castTop (own_ef_3_RI m wENTITY v1) k
  obtain ⟨T1, X1, e1, st1⟩ := getF X0 hx hZ hown (host := "") (Or.inl (hw _ (List.mem_of_getElem? (i := 16) rfl))) Via.refl e0 (G.2.2.2.2.1.ext O0.2) (g := (mkF m 2 #[.val (.ref wENTITY), .val (.int v1)] [(.ref wENTITY), (.int v1)])) rfl rfl (hb hby own_d3_2)
  obtain ⟨T2, X2, e2, st2⟩ := getF X1 hx hZ hown (host := "") (Or.inl (hw _ (List.mem_of_getElem? (i := 21) rfl))) Via.refl e1 (G.2.2.2.2.2.2.1.ext O0.2) (g := (mkF m 10 #[.val (.ref wENTITY), .val (.int v1)] [(.ref wENTITY), (.int v1)])) rfl rfl (hb hby own_d3_10)
  obtain ⟨fs, hr, hrun, hended, hW, hsame⟩ := X2.leave (v := some (.int (0 : Int32))) (fun h => by rw [Bd.returns] at h; cases h)
  refine ⟨_, _, pre0 _ ?_, hrun, hended, _, _, rfl, ?_, ⟨_, rfl⟩, hW, hsame.mono (by decide) (by decide)⟩
  · show Steps p.tables e below (s₁.setTop (mkF m 0 #[.val (.ref wENTITY), .val (.int v1)] [])) _
    refine XS.iloadN X0.here hx rfl (hb hby own_d3_0) rfl ?_
    show Steps p.tables e below (s₁.setTop (mkF m 1 #[.val (.ref wENTITY), .val (.int v1)] [(.int v1)])) _
    refine XS.aloadN X0.here hx rfl (hb hby own_d3_1) rfl rfl ?_
    show Steps p.tables e below (s₁.setTop (mkF m 2 #[.val (.ref wENTITY), .val (.int v1)] [(.ref wENTITY), (.int v1)])) _
    refine st1 _ ?_
    show Steps p.tables e below (T1.setTop (mkF m 5 #[.val (.ref wENTITY), .val (.int v1)] [(.int (65 : Int32)), (.int v1)])) _
    refine XS.icmpNo X1.here hx rfl (hb hby own_d3_5) rfl (flt (hp1 : ¬ (v1 < (65 : Int32)))).1 ?_
    show Steps p.tables e below (T1.setTop (mkF m 8 #[.val (.ref wENTITY), .val (.int v1)] [])) _
    refine XS.iloadN X1.here hx rfl (hb hby own_d3_8) rfl ?_
    show Steps p.tables e below (T1.setTop (mkF m 9 #[.val (.ref wENTITY), .val (.int v1)] [(.int v1)])) _
    refine XS.aloadN X1.here hx rfl (hb hby own_d3_9) rfl rfl ?_
    show Steps p.tables e below (T1.setTop (mkF m 10 #[.val (.ref wENTITY), .val (.int v1)] [(.ref wENTITY), (.int v1)])) _
    refine st2 _ ?_
    show Steps p.tables e below (T2.setTop (mkF m 13 #[.val (.ref wENTITY), .val (.int v1)] [(.int (90 : Int32)), (.int v1)])) _
    refine XS.icmpYes X2.here hx rfl (pc0 := 13) (pc' := 20) rfl (hb hby own_d3_13) rfl (tlt (hp2 : (90 : Int32) < v1)).2.2.1 (by decide) (by decide) ?_
    show Steps p.tables e below (T2.setTop (mkF m 20 #[.val (.ref wENTITY), .val (.int v1)] [])) _
    refine XS.iconst X2.here hx rfl (hb hby own_d3_20) ?_
    show Steps p.tables e below (T2.setTop (mkF m 21 #[.val (.ref wENTITY), .val (.int v1)] [(.int (0 : Int32))])) _
    exact retN X2 hx (t := .boolean) Bd.returns (by simp) (hb hby own_d3_21) hr
  · show OwnQ _ h0 n0 _ T2.heap _
    exact ⟨rfl, N0, e2⟩
set_option maxRecDepth 65536 in
set_option maxHeartbeats 40000000 in
theorem own_isStart_31 (l : Launch) (Z : State) (a0 : Array Value) (hw : ∀ d ∈ tables_1, d.before a0 Z = true) (ws : List Jvm.Cond) (wENTITY : Addr) (wROLE_NAME : Addr) (G : OwnG Z wENTITY wROLE_NAME) (h0 : Heap) (n0 : Nat) (O0 : Old Z n0 h0) (v1 : Int32) (hp1 : ¬ (v1 < (65 : Int32))) (hp2 : (90 : Int32) < v1) (hp3 : ¬ (v1 < (97 : Int32))) (hp4 : ¬ ((122 : Int32) < v1)) (hp5 : ¬ (v1 < (48 : Int32))) (hp6 : (57 : Int32) < v1) (hp7 : ¬ (v1 = (95 : Int32))) (hp8 : ¬ ((v1 ||| (32 : Int32)) < (97 : Int32))) (hp9 : ¬ ((122 : Int32) < (v1 ||| (32 : Int32)))) (hp10 : ¬ ((lcmpW ((v1.toInt64) - (48 : Int64)) (0 : Int64)) < (0 : Int32))) (hp11 : ¬ ((lcmpW ((v1.toInt64) - (48 : Int64)) (10 : Int64)) < (0 : Int32))) :
    MetFree l (⟨"com/example/credlib/credlib/policy/NameRule", "isStart", "(I)Z"⟩ : MethodName) (head1 (Jvm.Cond.code (⟨"com/example/credlib/credlib/policy/NameRule", "isStart", "(I)Z"⟩ : MethodName) prog_30_method_6_code 2 (some .boolean) :: ws) ({ frames := 0, cells := 0, slots := 0, locals := 0 } : Room)) (fun a U => a = #[(.ref wROLE_NAME), (.int v1)] ∧ Z.Warmed39 U.vm ∧ U.heap = h0) (fun _ _ _ _ _ => True) (fun _ U o U' => ∃ v L, o = .returned v ∧ OwnQ (some (.int (1 : Int32))) h0 n0 v U'.heap L ∧ FrameEnd U o U' L ({ frames := 0, cells := 0, slots := 0, locals := 0 } : Room).cells ({ frames := 0, cells := 0, slots := 0, locals := 0 } : Room).slots) := by
  refine MetFree.of_bodySF (plainFor_of_name own_pn_1) hisR ?_
  intro p e s m args below meth c s₁ Bd hml0 hP hK
  obtain ⟨rfl, hZ, hh⟩ := hP
  have hx := Bd.exec
  have hby := Bd.bytes
  have hml : c.maxLocals = 2 := hml0
  have hown : s.vm.findClass "com/example/credlib/credlib/policy/NameRule" = some m.cls := findClass_of_methodNamed Bd.named
  have hnm := (name_of_methodNamed Bd.named Bd.method).1
  have X0 : Stand p l e ({ frames := 0, cells := 0, slots := 0, locals := 0 } : Room) s m #[(.ref wROLE_NAME), (.int v1)] below meth c s₁ [] 0 0 := Stand.of_body Bd
  have e0 : s₁.heap = h0 := by rw [← hh, Bd.state]; rfl
  have N0 := Fr.nil n0
  have pre0 : ∀ t, Steps p.tables e below (s₁.setTop (mkF m 0 #[.val (.ref wROLE_NAME), .val (.int v1)] [])) t → Steps p.tables e below (s₁.setTop (entryFrame m #[(.ref wROLE_NAME), (.int v1)] 2)) t := fun t k => castTop (own_ef_3_RI m wROLE_NAME v1) k
  obtain ⟨T1, X1, e1, st1⟩ := getF X0 hx hZ hown (host := "") (Or.inl (hw _ (List.mem_of_getElem? (i := 16) rfl))) Via.refl e0 (G.2.2.2.2.2.1.ext O0.2) (g := (mkF m 2 #[.val (.ref wROLE_NAME), .val (.int v1)] [(.ref wROLE_NAME), (.int v1)])) rfl rfl (hb hby own_d3_2)
  obtain ⟨T2, X2, e2, st2⟩ := getF X1 hx hZ hown (host := "") (Or.inl (hw _ (List.mem_of_getElem? (i := 21) rfl))) Via.refl e1 (G.2.2.2.2.2.2.2.1.ext O0.2) (g := (mkF m 10 #[.val (.ref wROLE_NAME), .val (.int v1)] [(.ref wROLE_NAME), (.int v1)])) rfl rfl (hb hby own_d3_10)
  obtain ⟨fs, hr, hrun, hended, hW, hsame⟩ := X2.leave (v := some (.int (1 : Int32))) (fun h => by rw [Bd.returns] at h; cases h)
  refine ⟨_, _, pre0 _ ?_, hrun, hended, _, _, rfl, ?_, ⟨_, rfl⟩, hW, hsame.mono (by decide) (by decide)⟩
  · show Steps p.tables e below (s₁.setTop (mkF m 0 #[.val (.ref wROLE_NAME), .val (.int v1)] [])) _
    refine XS.iloadN X0.here hx rfl (hb hby own_d3_0) rfl ?_
    show Steps p.tables e below (s₁.setTop (mkF m 1 #[.val (.ref wROLE_NAME), .val (.int v1)] [(.int v1)])) _
    refine XS.aloadN X0.here hx rfl (hb hby own_d3_1) rfl rfl ?_
    show Steps p.tables e below (s₁.setTop (mkF m 2 #[.val (.ref wROLE_NAME), .val (.int v1)] [(.ref wROLE_NAME), (.int v1)])) _
    refine st1 _ ?_
    show Steps p.tables e below (T1.setTop (mkF m 5 #[.val (.ref wROLE_NAME), .val (.int v1)] [(.int (97 : Int32)), (.int v1)])) _
    refine XS.icmpNo X1.here hx rfl (hb hby own_d3_5) rfl (flt (hp3 : ¬ (v1 < (97 : Int32)))).1 ?_
    show Steps p.tables e below (T1.setTop (mkF m 8 #[.val (.ref wROLE_NAME), .val (.int v1)] [])) _
    refine XS.iloadN X1.here hx rfl (hb hby own_d3_8) rfl ?_
    show Steps p.tables e below (T1.setTop (mkF m 9 #[.val (.ref wROLE_NAME), .val (.int v1)] [(.int v1)])) _
    refine XS.aloadN X1.here hx rfl (hb hby own_d3_9) rfl rfl ?_
    show Steps p.tables e below (T1.setTop (mkF m 10 #[.val (.ref wROLE_NAME), .val (.int v1)] [(.ref wROLE_NAME), (.int v1)])) _
    refine st2 _ ?_
    show Steps p.tables e below (T2.setTop (mkF m 13 #[.val (.ref wROLE_NAME), .val (.int v1)] [(.int (122 : Int32)), (.int v1)])) _
    refine XS.icmpNo X2.here hx rfl (hb hby own_d3_13) rfl (flt (hp4 : ¬ ((122 : Int32) < v1))).2.2.1 ?_
    show Steps p.tables e below (T2.setTop (mkF m 16 #[.val (.ref wROLE_NAME), .val (.int v1)] [])) _
    refine XS.iconst X2.here hx rfl (hb hby own_d3_16) ?_
    show Steps p.tables e below (T2.setTop (mkF m 17 #[.val (.ref wROLE_NAME), .val (.int v1)] [(.int (1 : Int32))])) _
    refine XS.goto X2.here hx rfl (pc0 := 17) (pc' := 21) rfl (hb hby own_d3_17) (by decide) (by decide) ?_
    show Steps p.tables e below (T2.setTop (mkF m 21 #[.val (.ref wROLE_NAME), .val (.int v1)] [(.int (1 : Int32))])) _
    exact retN X2 hx (t := .boolean) Bd.returns (by simp) (hb hby own_d3_21) hr
  · show OwnQ _ h0 n0 _ T2.heap _
    exact ⟨rfl, N0, e2⟩
set_option maxRecDepth 65536 in
set_option maxHeartbeats 40000000 in
theorem own_law_07 (l : Launch) (Z : State) (a0 : Array Value) (hw : ∀ d ∈ tables_1, d.before a0 Z = true) (ws : List Jvm.Cond) (wENTITY : Addr) (wROLE_NAME : Addr) (G : OwnG Z wENTITY wROLE_NAME) (h0 : Heap) (n0 : Nat) (O0 : Old Z n0 h0) (p1 : Int32) (p2 : Int32) (he : (p2 &&& (1 : Int32)) = (0 : Int32)) (aa0 : ¬ ((p1 &&& (255 : Int32)) < (65 : Int32))) (aa1 : (90 : Int32) < (p1 &&& (255 : Int32))) (aa2 : ¬ ((p1 &&& (255 : Int32)) < (97 : Int32))) (aa3 : ¬ ((122 : Int32) < (p1 &&& (255 : Int32)))) (aa4 : ¬ ((p1 &&& (255 : Int32)) < (48 : Int32))) (aa5 : (57 : Int32) < (p1 &&& (255 : Int32))) (aa6 : ¬ ((p1 &&& (255 : Int32)) = (95 : Int32))) (aa7 : ¬ (((p1 &&& (255 : Int32)) ||| (32 : Int32)) < (97 : Int32))) (aa8 : ¬ ((122 : Int32) < ((p1 &&& (255 : Int32)) ||| (32 : Int32)))) (aa9 : ¬ ((lcmpW (((p1 &&& (255 : Int32)).toInt64) - (48 : Int64)) (0 : Int64)) < (0 : Int32))) (aa10 : ¬ ((lcmpW (((p1 &&& (255 : Int32)).toInt64) - (48 : Int64)) (10 : Int64)) < (0 : Int32))) :
    MetFree l x (head1 (Jvm.Cond.code x code maxLocals ret :: ws) room_1) (fun a U => a = #[(.int p1), (.int p2)] ∧ Z.Warmed39 U.vm ∧ U.heap = h0) (fun _ _ _ _ _ => True) (fun _ U o U' => ∃ v L, o = .returned v ∧ (v = some (.int 1) ∧ Fr n0 L) ∧ FrameEnd U o U' L room_1.cells room_1.slots) := by
  refine MetFree.of_bodySF (plainFor_of_name own_pn_0) hisR ?_
  intro p e s m args below meth c s₁ Bd hml0 hP hK
  obtain ⟨rfl, hZ, hh⟩ := hP
  have hx := Bd.exec
  have hby := Bd.bytes
  have hml : c.maxLocals = 4 := hml0
  have hown : s.vm.findClass "com/example/credlib/credlib/policy/NameRuleIsPartPinLaw" = some m.cls := findClass_of_methodNamed Bd.named
  have hnm := (name_of_methodNamed Bd.named Bd.method).1
  have X0 : Stand p l e room_1 s m #[(.int p1), (.int p2)] below meth c s₁ [] 0 0 := Stand.of_body Bd
  have e0 : s₁.heap = h0 := by rw [← hh, Bd.state]; rfl
  have N0 := Fr.nil n0
  have pre0 : ∀ t, Steps p.tables e below (s₁.setTop (mkF m 0 #[.val (.int p1), .val (.int p2), .unset, .unset] [])) t → Steps p.tables e below (s₁.setTop (entryFrame m #[(.int p1), (.int p2)] maxLocals)) t := fun t k => castTop (own_ef_0_II m p1 p2) k
  obtain ⟨_, _, ⟨T1, L1, k1, n1⟩, -, X1, ⟨Lc1, hQ1, l1, y1, z1⟩, st1⟩ := Jvm.LawKit.callS X0 hx (y := (⟨"com/example/credlib/credlib/policy/NameRule", "isPart", "(I)Z"⟩ : MethodName)) hown (mvT hZ (hw _ (List.mem_of_getElem? (i := 0) rfl))) (mvT hZ (hw _ (List.mem_of_getElem? (i := 1) rfl))) (mvT hZ (hw _ (List.mem_of_getElem? (i := 2) rfl))) (mvT hZ (hw _ (List.mem_of_getElem? (i := 3) rfl))) (by decide) (backOf (W := 0) (own_isPart_28 l Z a0 hw [] wENTITY wROLE_NAME G h0 n0 O0 (p1 &&& (255 : Int32)) aa0 aa1 aa2 aa3 aa4 aa5 aa6 aa7 aa8 aa9 aa10) hZ (hw _ (List.mem_of_getElem? (i := 3) rfl)) (hw _ (List.mem_of_getElem? (i := 2) rfl)) (by decide) (by decide)) (g := (mkF m 17 #[.val (.int p1), .val (.int p2), .val (.int (p1 &&& (255 : Int32))), .unset] [(.int (p1 &&& (255 : Int32)))])) rfl (by rw [hml]; rfl) (argsL := [(.int (p1 &&& (255 : Int32)))]) (rest := []) (lenOf own_pd_0 rfl) rfl (by show 2 * 0 + _ ≤ _; exact Nat.le_of_eq rfl) (hb hby at_17) (fun _ _ => ⟨rfl, e0, (by decide : 0 + 0 ≤ _), (by decide : 0 + 0 ≤ _)⟩)
  dsimp only [Pt.U, Pt.locs, Pt.cells, Pt.slots] at X1 l1 y1 z1 st1 hQ1
  subst l1 y1 z1
  obtain ⟨rfl, N1q, e1⟩ := hQ1
  have N1 := Fr.app N0 N1q
  obtain ⟨_, _, ⟨T2, L2, k2, n2⟩, -, X2, ⟨Lc2, hQ2, l2, y2, z2⟩, st2⟩ := Jvm.LawKit.callS X1 hx (y := (⟨"com/example/credlib/credlib/policy/NameRuleIsPartPinLaw", "expected", "(I)Z"⟩ : MethodName)) hown (mvT hZ (hw _ (List.mem_of_getElem? (i := 4) rfl))) (mvT hZ (hw _ (List.mem_of_getElem? (i := 5) rfl))) (mvT hZ (hw _ (List.mem_of_getElem? (i := 6) rfl))) (mvT hZ (hw _ (List.mem_of_getElem? (i := 7) rfl))) (by decide) (backOf (W := 1) (own_expected_29 l Z a0 hw [] wENTITY wROLE_NAME G h0 n0 O0 (p1 &&& (255 : Int32)) aa0 aa1 aa2 aa3 aa4 aa5 aa6 aa7 aa8 aa9 aa10) hZ (hw _ (List.mem_of_getElem? (i := 7) rfl)) (hw _ (List.mem_of_getElem? (i := 6) rfl)) (by decide) (by decide)) (g := (mkF m 23 #[.val (.int p1), .val (.int p2), .val (.int (p1 &&& (255 : Int32))), .val (.int (1 : Int32))] [(.int (p1 &&& (255 : Int32))), (.int (1 : Int32))])) rfl (by rw [hml]; rfl) (argsL := [(.int (p1 &&& (255 : Int32)))]) (rest := [(.int (1 : Int32))]) (lenOf own_pd_0 rfl) rfl (by show 2 * 0 + _ ≤ _; exact Nat.le_of_eq rfl) (hb hby at_23) (fun _ _ => ⟨rfl, e1, (by decide : 0 + 0 ≤ _), (by decide : 0 + 0 ≤ _)⟩)
  dsimp only [Pt.U, Pt.locs, Pt.cells, Pt.slots] at X2 l2 y2 z2 st2 hQ2
  subst l2 y2 z2
  obtain ⟨rfl, N2q, e2⟩ := hQ2
  have N2 := Fr.app N1 N2q
  obtain ⟨T3, X3, e3, st3⟩ := getS2 X2 hx hZ hown (host := "") (Or.inl (hw _ (List.mem_of_getElem? (i := 9) rfl))) Via.refl e2 (G.1.ext O0.2) (g := (mkF m 31 #[.val (.int p1), .val (.int p2), .val (.int (p1 &&& (255 : Int32))), .val (.int (1 : Int32))] [])) rfl (hb hby at_31)
  obtain ⟨cq4, kq4, q4a, q4b, q4c⟩ := isOf hZ e3 (G.2.1.ext O0.2)
  obtain ⟨_, _, ⟨T4, L4, k4, n4⟩, -, X4, ⟨Lc4, hQ4, l4, y4, z4⟩, st4⟩ := X3.virtualBack hx (y := (⟨"com/example/credlib/credlib/policy/NameRule", "isStart", "(I)Z"⟩ : MethodName)) (z := (⟨"com/example/credlib/credlib/policy/NameRule", "isStart", "(I)Z"⟩ : MethodName)) hown (mvT hZ (hw _ (List.mem_of_getElem? (i := 11) rfl))) (mvT hZ (hw _ (List.mem_of_getElem? (i := 12) rfl))) (notFace_of_selects (args := #[]) (mvT hZ (hw _ (List.mem_of_getElem? (i := 14) rfl)))) (mvT hZ (hw _ (List.mem_of_getElem? (i := 14) rfl))) (mvT hZ (hw _ (List.mem_of_getElem? (i := 13) rfl))) (by decide) (backOf (W := 0) (own_isStart_30 l Z a0 hw [] wENTITY wROLE_NAME G h0 n0 O0 (p1 &&& (255 : Int32)) aa0 aa1 aa2 aa3 aa4 aa5 aa6 aa7 aa8 aa9 aa10) hZ (hw _ (List.mem_of_getElem? (i := 15) rfl)) (hw _ (List.mem_of_getElem? (i := 2) rfl)) (by decide) (by decide)) q4a q4c (g := (mkF m 35 #[.val (.int p1), .val (.int p2), .val (.int (p1 &&& (255 : Int32))), .val (.int (1 : Int32))] [(.int (p1 &&& (255 : Int32))), (.ref wENTITY)])) rfl (by rw [hml]; rfl) (Steps.refl _) (argsL := [(.int (p1 &&& (255 : Int32)))]) (rest := []) (lenOf own_pd_0 rfl) rfl (by show 2 * 0 + _ ≤ _; exact Nat.le_of_eq rfl) (hb hby at_35) (fun _ _ => ⟨rfl, e3, (by decide : 0 + 0 ≤ _), (by decide : 0 + 0 ≤ _)⟩)
  dsimp only [Pt.U, Pt.locs, Pt.cells, Pt.slots] at X4 l4 y4 z4 st4 hQ4
  subst l4 y4 z4
  obtain ⟨rfl, N4q, e4⟩ := hQ4
  have N4 := Fr.app N2 N4q
  obtain ⟨T5, X5, e5, st5⟩ := getS2 X4 hx hZ hown (host := "") (Or.inl (hw _ (List.mem_of_getElem? (i := 18) rfl))) Via.refl e4 (G.2.2.1.ext O0.2) (g := (mkF m 47 #[.val (.int p1), .val (.int p2), .val (.int (p1 &&& (255 : Int32))), .val (.int (1 : Int32))] [])) rfl (hb hby at_47)
  obtain ⟨cq6, kq6, q6a, q6b, q6c⟩ := isOf hZ e5 (G.2.2.2.1.ext O0.2)
  obtain ⟨_, _, ⟨T6, L6, k6, n6⟩, -, X6, ⟨Lc6, hQ6, l6, y6, z6⟩, st6⟩ := X5.virtualBack hx (y := (⟨"com/example/credlib/credlib/policy/NameRule", "isStart", "(I)Z"⟩ : MethodName)) (z := (⟨"com/example/credlib/credlib/policy/NameRule", "isStart", "(I)Z"⟩ : MethodName)) hown (mvT hZ (hw _ (List.mem_of_getElem? (i := 11) rfl))) (mvT hZ (hw _ (List.mem_of_getElem? (i := 12) rfl))) (notFace_of_selects (args := #[]) (mvT hZ (hw _ (List.mem_of_getElem? (i := 14) rfl)))) (mvT hZ (hw _ (List.mem_of_getElem? (i := 14) rfl))) (mvT hZ (hw _ (List.mem_of_getElem? (i := 13) rfl))) (by decide) (backOf (W := 0) (own_isStart_31 l Z a0 hw [] wENTITY wROLE_NAME G h0 n0 O0 (p1 &&& (255 : Int32)) aa0 aa1 aa2 aa3 aa4 aa5 aa6 aa7 aa8 aa9 aa10) hZ (hw _ (List.mem_of_getElem? (i := 15) rfl)) (hw _ (List.mem_of_getElem? (i := 2) rfl)) (by decide) (by decide)) q6a q6c (g := (mkF m 51 #[.val (.int p1), .val (.int p2), .val (.int (p1 &&& (255 : Int32))), .val (.int (1 : Int32))] [(.int (p1 &&& (255 : Int32))), (.ref wROLE_NAME)])) rfl (by rw [hml]; rfl) (Steps.refl _) (argsL := [(.int (p1 &&& (255 : Int32)))]) (rest := []) (lenOf own_pd_0 rfl) rfl (by show 2 * 0 + _ ≤ _; exact Nat.le_of_eq rfl) (hb hby at_51) (fun _ _ => ⟨rfl, e5, (by decide : 0 + 0 ≤ _), (by decide : 0 + 0 ≤ _)⟩)
  dsimp only [Pt.U, Pt.locs, Pt.cells, Pt.slots] at X6 l6 y6 z6 st6 hQ6
  subst l6 y6 z6
  obtain ⟨rfl, N6q, e6⟩ := hQ6
  have N6 := Fr.app N4 N6q
  obtain ⟨fs, hr, hrun, hended, hW, hsame⟩ := X6.leave (v := some (.int (1 : Int32))) (fun h => by rw [Bd.returns] at h; cases h)
  refine ⟨_, _, pre0 _ ?_, hrun, hended, _, _, rfl, ?_, ⟨_, rfl⟩, hW, hsame.mono (by decide) (by decide)⟩
  · show Steps p.tables e below (s₁.setTop (mkF m 0 #[.val (.int p1), .val (.int p2), .unset, .unset] [])) _
    refine XS.iloadN X0.here hx rfl (hb hby at_0) rfl ?_
    show Steps p.tables e below (s₁.setTop (mkF m 1 #[.val (.int p1), .val (.int p2), .unset, .unset] [(.int p2)])) _
    refine XS.iconst X0.here hx rfl (hb hby at_1) ?_
    show Steps p.tables e below (s₁.setTop (mkF m 2 #[.val (.int p1), .val (.int p2), .unset, .unset] [(.int (1 : Int32)), (.int p2)])) _
    refine XS.iand X0.here hx rfl (hb hby at_2) rfl ?_
    show Steps p.tables e below (s₁.setTop (mkF m 3 #[.val (.int p1), .val (.int p2), .unset, .unset] [(.int (p2 &&& (1 : Int32)))])) _
    refine XS.ifYes X0.here hx rfl (pc0 := 3) (pc' := 10) rfl (hb hby at_3) rfl ((if0 _ _).trans (teq (he : (p2 &&& (1 : Int32)) = (0 : Int32))).1) (by decide) (by decide) ?_
    show Steps p.tables e below (s₁.setTop (mkF m 10 #[.val (.int p1), .val (.int p2), .unset, .unset] [])) _
    refine XS.iloadN X0.here hx rfl (hb hby at_10) rfl ?_
    show Steps p.tables e below (s₁.setTop (mkF m 11 #[.val (.int p1), .val (.int p2), .unset, .unset] [(.int p1)])) _
    refine XS.sipush X0.here hx rfl (hb hby at_11) ?_
    show Steps p.tables e below (s₁.setTop (mkF m 14 #[.val (.int p1), .val (.int p2), .unset, .unset] [(.int (255 : Int32)), (.int p1)])) _
    refine XS.iand X0.here hx rfl (hb hby at_14) rfl ?_
    show Steps p.tables e below (s₁.setTop (mkF m 15 #[.val (.int p1), .val (.int p2), .unset, .unset] [(.int (p1 &&& (255 : Int32)))])) _
    refine XS.istoreN X0.here hx rfl (hb hby at_15) rfl (l' := #[.val (.int p1), .val (.int p2), .val (.int (p1 &&& (255 : Int32))), .unset]) rfl ?_
    show Steps p.tables e below (s₁.setTop (mkF m 16 #[.val (.int p1), .val (.int p2), .val (.int (p1 &&& (255 : Int32))), .unset] [])) _
    refine XS.iloadN X0.here hx rfl (hb hby at_16) rfl ?_
    show Steps p.tables e below (s₁.setTop (mkF m 17 #[.val (.int p1), .val (.int p2), .val (.int (p1 &&& (255 : Int32))), .unset] [(.int (p1 &&& (255 : Int32)))])) _
    refine st1 _ ?_
    show Steps p.tables e below (T1.setTop (mkF m 20 #[.val (.int p1), .val (.int p2), .val (.int (p1 &&& (255 : Int32))), .unset] [(.int (1 : Int32))])) _
    refine XS.istoreN X1.here hx rfl (hb hby at_20) rfl (l' := #[.val (.int p1), .val (.int p2), .val (.int (p1 &&& (255 : Int32))), .val (.int (1 : Int32))]) rfl ?_
    show Steps p.tables e below (T1.setTop (mkF m 21 #[.val (.int p1), .val (.int p2), .val (.int (p1 &&& (255 : Int32))), .val (.int (1 : Int32))] [])) _
    refine XS.iloadN X1.here hx rfl (hb hby at_21) rfl ?_
    show Steps p.tables e below (T1.setTop (mkF m 22 #[.val (.int p1), .val (.int p2), .val (.int (p1 &&& (255 : Int32))), .val (.int (1 : Int32))] [(.int (1 : Int32))])) _
    refine XS.iloadN X1.here hx rfl (hb hby at_22) rfl ?_
    show Steps p.tables e below (T1.setTop (mkF m 23 #[.val (.int p1), .val (.int p2), .val (.int (p1 &&& (255 : Int32))), .val (.int (1 : Int32))] [(.int (p1 &&& (255 : Int32))), (.int (1 : Int32))])) _
    refine st2 _ ?_
    show Steps p.tables e below (T2.setTop (mkF m 26 #[.val (.int p1), .val (.int p2), .val (.int (p1 &&& (255 : Int32))), .val (.int (1 : Int32))] [(.int (1 : Int32)), (.int (1 : Int32))])) _
    refine XS.icmpYes X2.here hx rfl (pc0 := 26) (pc' := 31) rfl (hb hby at_26) rfl (by decide) (by decide) (by decide) ?_
    show Steps p.tables e below (T2.setTop (mkF m 31 #[.val (.int p1), .val (.int p2), .val (.int (p1 &&& (255 : Int32))), .val (.int (1 : Int32))] [])) _
    refine st3 _ ?_
    show Steps p.tables e below (T3.setTop (mkF m 34 #[.val (.int p1), .val (.int p2), .val (.int (p1 &&& (255 : Int32))), .val (.int (1 : Int32))] [(.ref wENTITY)])) _
    refine XS.iloadN X3.here hx rfl (hb hby at_34) rfl ?_
    show Steps p.tables e below (T3.setTop (mkF m 35 #[.val (.int p1), .val (.int p2), .val (.int (p1 &&& (255 : Int32))), .val (.int (1 : Int32))] [(.int (p1 &&& (255 : Int32))), (.ref wENTITY)])) _
    refine st4.trans ?_
    show Steps p.tables e below (T4.setTop (mkF m 38 #[.val (.int p1), .val (.int p2), .val (.int (p1 &&& (255 : Int32))), .val (.int (1 : Int32))] [(.int (0 : Int32))])) _
    refine XS.ifYes X4.here hx rfl (pc0 := 38) (pc' := 47) rfl (hb hby at_38) rfl (by decide) (by decide) (by decide) ?_
    show Steps p.tables e below (T4.setTop (mkF m 47 #[.val (.int p1), .val (.int p2), .val (.int (p1 &&& (255 : Int32))), .val (.int (1 : Int32))] [])) _
    refine st5 _ ?_
    show Steps p.tables e below (T5.setTop (mkF m 50 #[.val (.int p1), .val (.int p2), .val (.int (p1 &&& (255 : Int32))), .val (.int (1 : Int32))] [(.ref wROLE_NAME)])) _
    refine XS.iloadN X5.here hx rfl (hb hby at_50) rfl ?_
    show Steps p.tables e below (T5.setTop (mkF m 51 #[.val (.int p1), .val (.int p2), .val (.int (p1 &&& (255 : Int32))), .val (.int (1 : Int32))] [(.int (p1 &&& (255 : Int32))), (.ref wROLE_NAME)])) _
    refine st6.trans ?_
    show Steps p.tables e below (T6.setTop (mkF m 54 #[.val (.int p1), .val (.int p2), .val (.int (p1 &&& (255 : Int32))), .val (.int (1 : Int32))] [(.int (1 : Int32))])) _
    refine XS.ifNo X6.here hx rfl (hb hby at_54) rfl (by decide) ?_
    show Steps p.tables e below (T6.setTop (mkF m 57 #[.val (.int p1), .val (.int p2), .val (.int (p1 &&& (255 : Int32))), .val (.int (1 : Int32))] [])) _
    refine XS.iloadN X6.here hx rfl (hb hby at_57) rfl ?_
    show Steps p.tables e below (T6.setTop (mkF m 58 #[.val (.int p1), .val (.int p2), .val (.int (p1 &&& (255 : Int32))), .val (.int (1 : Int32))] [(.int (1 : Int32))])) _
    refine XS.ifYes X6.here hx rfl (pc0 := 58) (pc' := 63) rfl (hb hby at_58) rfl (by decide) (by decide) (by decide) ?_
    show Steps p.tables e below (T6.setTop (mkF m 63 #[.val (.int p1), .val (.int p2), .val (.int (p1 &&& (255 : Int32))), .val (.int (1 : Int32))] [])) _
    refine XS.iconst X6.here hx rfl (hb hby at_63) ?_
    show Steps p.tables e below (T6.setTop (mkF m 64 #[.val (.int p1), .val (.int p2), .val (.int (p1 &&& (255 : Int32))), .val (.int (1 : Int32))] [(.int (1 : Int32))])) _
    exact retN X6 hx (t := .boolean) Bd.returns (by simp) (hb hby at_64) hr
  · exact ⟨rfl, N6⟩
set_option maxRecDepth 65536 in
set_option maxHeartbeats 40000000 in
theorem own_isPart_32 (l : Launch) (Z : State) (a0 : Array Value) (hw : ∀ d ∈ tables_1, d.before a0 Z = true) (ws : List Jvm.Cond) (wENTITY : Addr) (wROLE_NAME : Addr) (G : OwnG Z wENTITY wROLE_NAME) (h0 : Heap) (n0 : Nat) (O0 : Old Z n0 h0) (v1 : Int32) (hp1 : ¬ (v1 < (65 : Int32))) (hp2 : (90 : Int32) < v1) (hp3 : ¬ (v1 < (97 : Int32))) (hp4 : (122 : Int32) < v1) (hp5 : ¬ (v1 < (48 : Int32))) (hp6 : (57 : Int32) < v1) (hp7 : ¬ (v1 = (95 : Int32))) (hp8 : ¬ ((v1 ||| (32 : Int32)) < (97 : Int32))) (hp9 : (122 : Int32) < (v1 ||| (32 : Int32))) (hp10 : ¬ ((lcmpW ((v1.toInt64) - (48 : Int64)) (0 : Int64)) < (0 : Int32))) (hp11 : ¬ ((lcmpW ((v1.toInt64) - (48 : Int64)) (10 : Int64)) < (0 : Int32))) :
    MetFree l (⟨"com/example/credlib/credlib/policy/NameRule", "isPart", "(I)Z"⟩ : MethodName) (head1 (Jvm.Cond.code (⟨"com/example/credlib/credlib/policy/NameRule", "isPart", "(I)Z"⟩ : MethodName) prog_30_method_7_code 1 (some .boolean) :: ws) ({ frames := 0, cells := 0, slots := 0, locals := 0 } : Room)) (fun a U => a = #[(.int v1)] ∧ Z.Warmed39 U.vm ∧ U.heap = h0) (fun _ _ _ _ _ => True) (fun _ U o U' => ∃ v L, o = .returned v ∧ OwnQ (some (.int (0 : Int32))) h0 n0 v U'.heap L ∧ FrameEnd U o U' L ({ frames := 0, cells := 0, slots := 0, locals := 0 } : Room).cells ({ frames := 0, cells := 0, slots := 0, locals := 0 } : Room).slots) := by
  refine MetFree.of_bodySF (plainFor_of_name own_pn_1) hisR ?_
  intro p e s m args below meth c s₁ Bd hml0 hP hK
  obtain ⟨rfl, hZ, hh⟩ := hP
  have hx := Bd.exec
  have hby := Bd.bytes
  have hml : c.maxLocals = 1 := hml0
  have hown : s.vm.findClass "com/example/credlib/credlib/policy/NameRule" = some m.cls := findClass_of_methodNamed Bd.named
  have hnm := (name_of_methodNamed Bd.named Bd.method).1
  have X0 : Stand p l e ({ frames := 0, cells := 0, slots := 0, locals := 0 } : Room) s m #[(.int v1)] below meth c s₁ [] 0 0 := Stand.of_body Bd
  have e0 : s₁.heap = h0 := by rw [← hh, Bd.state]; rfl
  have N0 := Fr.nil n0
  have pre0 : ∀ t, Steps p.tables e below (s₁.setTop (mkF m 0 #[.val (.int v1)] [])) t → Steps p.tables e below (s₁.setTop (entryFrame m #[(.int v1)] 1)) t := fun t k => castTop (own_ef_1_I m v1) k
  obtain ⟨fs, hr, hrun, hended, hW, hsame⟩ := X0.leave (v := some (.int (0 : Int32))) (fun h => by rw [Bd.returns] at h; cases h)
  refine ⟨_, _, pre0 _ ?_, hrun, hended, _, _, rfl, ?_, ⟨_, rfl⟩, hW, hsame.mono (by decide) (by decide)⟩
  · show Steps p.tables e below (s₁.setTop (mkF m 0 #[.val (.int v1)] [])) _
    refine XS.iloadN X0.here hx rfl (hb hby own_d1_0) rfl ?_
    show Steps p.tables e below (s₁.setTop (mkF m 1 #[.val (.int v1)] [(.int v1)])) _
    refine XS.bipush X0.here hx rfl (hb hby own_d1_1) ?_
    show Steps p.tables e below (s₁.setTop (mkF m 3 #[.val (.int v1)] [(.int (65 : Int32)), (.int v1)])) _
    refine XS.icmpNo X0.here hx rfl (hb hby own_d1_3) rfl (flt (hp1 : ¬ (v1 < (65 : Int32)))).1 ?_
    show Steps p.tables e below (s₁.setTop (mkF m 6 #[.val (.int v1)] [])) _
    refine XS.iloadN X0.here hx rfl (hb hby own_d1_6) rfl ?_
    show Steps p.tables e below (s₁.setTop (mkF m 7 #[.val (.int v1)] [(.int v1)])) _
    refine XS.bipush X0.here hx rfl (hb hby own_d1_7) ?_
    show Steps p.tables e below (s₁.setTop (mkF m 9 #[.val (.int v1)] [(.int (90 : Int32)), (.int v1)])) _
    refine XS.icmpNo X0.here hx rfl (hb hby own_d1_9) rfl (tlt (hp2 : (90 : Int32) < v1)).2.2.2 ?_
    show Steps p.tables e below (s₁.setTop (mkF m 12 #[.val (.int v1)] [])) _
    refine XS.iloadN X0.here hx rfl (hb hby own_d1_12) rfl ?_
    show Steps p.tables e below (s₁.setTop (mkF m 13 #[.val (.int v1)] [(.int v1)])) _
    refine XS.bipush X0.here hx rfl (hb hby own_d1_13) ?_
    show Steps p.tables e below (s₁.setTop (mkF m 15 #[.val (.int v1)] [(.int (97 : Int32)), (.int v1)])) _
    refine XS.icmpNo X0.here hx rfl (hb hby own_d1_15) rfl (flt (hp3 : ¬ (v1 < (97 : Int32)))).1 ?_
    show Steps p.tables e below (s₁.setTop (mkF m 18 #[.val (.int v1)] [])) _
    refine XS.iloadN X0.here hx rfl (hb hby own_d1_18) rfl ?_
    show Steps p.tables e below (s₁.setTop (mkF m 19 #[.val (.int v1)] [(.int v1)])) _
    refine XS.bipush X0.here hx rfl (hb hby own_d1_19) ?_
    show Steps p.tables e below (s₁.setTop (mkF m 21 #[.val (.int v1)] [(.int (122 : Int32)), (.int v1)])) _
    refine XS.icmpNo X0.here hx rfl (hb hby own_d1_21) rfl (tlt (hp4 : (122 : Int32) < v1)).2.2.2 ?_
    show Steps p.tables e below (s₁.setTop (mkF m 24 #[.val (.int v1)] [])) _
    refine XS.iloadN X0.here hx rfl (hb hby own_d1_24) rfl ?_
    show Steps p.tables e below (s₁.setTop (mkF m 25 #[.val (.int v1)] [(.int v1)])) _
    refine XS.bipush X0.here hx rfl (hb hby own_d1_25) ?_
    show Steps p.tables e below (s₁.setTop (mkF m 27 #[.val (.int v1)] [(.int (48 : Int32)), (.int v1)])) _
    refine XS.icmpNo X0.here hx rfl (hb hby own_d1_27) rfl (flt (hp5 : ¬ (v1 < (48 : Int32)))).1 ?_
    show Steps p.tables e below (s₁.setTop (mkF m 30 #[.val (.int v1)] [])) _
    refine XS.iloadN X0.here hx rfl (hb hby own_d1_30) rfl ?_
    show Steps p.tables e below (s₁.setTop (mkF m 31 #[.val (.int v1)] [(.int v1)])) _
    refine XS.bipush X0.here hx rfl (hb hby own_d1_31) ?_
    show Steps p.tables e below (s₁.setTop (mkF m 33 #[.val (.int v1)] [(.int (57 : Int32)), (.int v1)])) _
    refine XS.icmpNo X0.here hx rfl (hb hby own_d1_33) rfl (tlt (hp6 : (57 : Int32) < v1)).2.2.2 ?_
    show Steps p.tables e below (s₁.setTop (mkF m 36 #[.val (.int v1)] [])) _
    refine XS.iloadN X0.here hx rfl (hb hby own_d1_36) rfl ?_
    show Steps p.tables e below (s₁.setTop (mkF m 37 #[.val (.int v1)] [(.int v1)])) _
    refine XS.bipush X0.here hx rfl (hb hby own_d1_37) ?_
    show Steps p.tables e below (s₁.setTop (mkF m 39 #[.val (.int v1)] [(.int (95 : Int32)), (.int v1)])) _
    refine XS.icmpYes X0.here hx rfl (pc0 := 39) (pc' := 46) rfl (hb hby own_d1_39) rfl (feq (hp7 : ¬ (v1 = (95 : Int32)))).2 (by decide) (by decide) ?_
    show Steps p.tables e below (s₁.setTop (mkF m 46 #[.val (.int v1)] [])) _
    refine XS.iconst X0.here hx rfl (hb hby own_d1_46) ?_
    show Steps p.tables e below (s₁.setTop (mkF m 47 #[.val (.int v1)] [(.int (0 : Int32))])) _
    exact retN X0 hx (t := .boolean) Bd.returns (by simp) (hb hby own_d1_47) hr
  · show OwnQ _ h0 n0 _ s₁.heap _
    exact ⟨rfl, N0, e0⟩
set_option maxRecDepth 65536 in
set_option maxHeartbeats 40000000 in
theorem own_expected_33 (l : Launch) (Z : State) (a0 : Array Value) (hw : ∀ d ∈ tables_1, d.before a0 Z = true) (ws : List Jvm.Cond) (wENTITY : Addr) (wROLE_NAME : Addr) (G : OwnG Z wENTITY wROLE_NAME) (h0 : Heap) (n0 : Nat) (O0 : Old Z n0 h0) (v1 : Int32) (hp1 : ¬ (v1 < (65 : Int32))) (hp2 : (90 : Int32) < v1) (hp3 : ¬ (v1 < (97 : Int32))) (hp4 : (122 : Int32) < v1) (hp5 : ¬ (v1 < (48 : Int32))) (hp6 : (57 : Int32) < v1) (hp7 : ¬ (v1 = (95 : Int32))) (hp8 : ¬ ((v1 ||| (32 : Int32)) < (97 : Int32))) (hp9 : (122 : Int32) < (v1 ||| (32 : Int32))) (hp10 : ¬ ((lcmpW ((v1.toInt64) - (48 : Int64)) (0 : Int64)) < (0 : Int32))) (hp11 : ¬ ((lcmpW ((v1.toInt64) - (48 : Int64)) (10 : Int64)) < (0 : Int32))) :
    MetFree l (⟨"com/example/credlib/credlib/policy/NameRuleIsPartPinLaw", "expected", "(I)Z"⟩ : MethodName) (head1 (Jvm.Cond.code (⟨"com/example/credlib/credlib/policy/NameRuleIsPartPinLaw", "expected", "(I)Z"⟩ : MethodName) method_2_code 7 (some .boolean) :: ws) ({ frames := 0, cells := 0, slots := 0, locals := 0 } : Room)) (fun a U => a = #[(.int v1)] ∧ Z.Warmed39 U.vm ∧ U.heap = h0) (fun _ _ _ _ _ => True) (fun _ U o U' => ∃ v L, o = .returned v ∧ OwnQ (some (.int (0 : Int32))) h0 n0 v U'.heap L ∧ FrameEnd U o U' L ({ frames := 0, cells := 0, slots := 0, locals := 0 } : Room).cells ({ frames := 0, cells := 0, slots := 0, locals := 0 } : Room).slots) := by
  refine MetFree.of_bodySF (plainFor_of_name own_pn_0) hisR ?_
  intro p e s m args below meth c s₁ Bd hml0 hP hK
  obtain ⟨rfl, hZ, hh⟩ := hP
  have hx := Bd.exec
  have hby := Bd.bytes
  have hml : c.maxLocals = 7 := hml0
  have hown : s.vm.findClass "com/example/credlib/credlib/policy/NameRuleIsPartPinLaw" = some m.cls := findClass_of_methodNamed Bd.named
  have hnm := (name_of_methodNamed Bd.named Bd.method).1
  have X0 : Stand p l e ({ frames := 0, cells := 0, slots := 0, locals := 0 } : Room) s m #[(.int v1)] below meth c s₁ [] 0 0 := Stand.of_body Bd
  have e0 : s₁.heap = h0 := by rw [← hh, Bd.state]; rfl
  have N0 := Fr.nil n0
  have pre0 : ∀ t, Steps p.tables e below (s₁.setTop (mkF m 0 #[.val (.int v1), .unset, .unset, .unset, .unset, .unset, .unset] [])) t → Steps p.tables e below (s₁.setTop (entryFrame m #[(.int v1)] 7)) t := fun t k => castTop (own_ef_2_I m v1) k
  obtain ⟨fs, hr, hrun, hended, hW, hsame⟩ := X0.leave (v := some (.int (0 : Int32))) (fun h => by rw [Bd.returns] at h; cases h)
  refine ⟨_, _, pre0 _ ?_, hrun, hended, _, _, rfl, ?_, ⟨_, rfl⟩, hW, hsame.mono (by decide) (by decide)⟩
  · show Steps p.tables e below (s₁.setTop (mkF m 0 #[.val (.int v1), .unset, .unset, .unset, .unset, .unset, .unset] [])) _
    refine XS.iloadN X0.here hx rfl (hb hby own_d2_0) rfl ?_
    show Steps p.tables e below (s₁.setTop (mkF m 1 #[.val (.int v1), .unset, .unset, .unset, .unset, .unset, .unset] [(.int v1)])) _
    refine XS.bipush X0.here hx rfl (hb hby own_d2_1) ?_
    show Steps p.tables e below (s₁.setTop (mkF m 3 #[.val (.int v1), .unset, .unset, .unset, .unset, .unset, .unset] [(.int (32 : Int32)), (.int v1)])) _
    refine XS.ior X0.here hx rfl (hb hby own_d2_3) rfl ?_
    show Steps p.tables e below (s₁.setTop (mkF m 4 #[.val (.int v1), .unset, .unset, .unset, .unset, .unset, .unset] [(.int (v1 ||| (32 : Int32)))])) _
    refine XS.istoreN X0.here hx rfl (hb hby own_d2_4) rfl (l' := #[.val (.int v1), .val (.int (v1 ||| (32 : Int32))), .unset, .unset, .unset, .unset, .unset]) rfl ?_
    show Steps p.tables e below (s₁.setTop (mkF m 5 #[.val (.int v1), .val (.int (v1 ||| (32 : Int32))), .unset, .unset, .unset, .unset, .unset] [])) _
    refine XS.iloadN X0.here hx rfl (hb hby own_d2_5) rfl ?_
    show Steps p.tables e below (s₁.setTop (mkF m 6 #[.val (.int v1), .val (.int (v1 ||| (32 : Int32))), .unset, .unset, .unset, .unset, .unset] [(.int (v1 ||| (32 : Int32)))])) _
    refine XS.bipush X0.here hx rfl (hb hby own_d2_6) ?_
    show Steps p.tables e below (s₁.setTop (mkF m 8 #[.val (.int v1), .val (.int (v1 ||| (32 : Int32))), .unset, .unset, .unset, .unset, .unset] [(.int (97 : Int32)), (.int (v1 ||| (32 : Int32)))])) _
    refine XS.icmpNo X0.here hx rfl (hb hby own_d2_8) rfl (flt (hp8 : ¬ ((v1 ||| (32 : Int32)) < (97 : Int32)))).1 ?_
    show Steps p.tables e below (s₁.setTop (mkF m 11 #[.val (.int v1), .val (.int (v1 ||| (32 : Int32))), .unset, .unset, .unset, .unset, .unset] [])) _
    refine XS.iloadN X0.here hx rfl (hb hby own_d2_11) rfl ?_
    show Steps p.tables e below (s₁.setTop (mkF m 12 #[.val (.int v1), .val (.int (v1 ||| (32 : Int32))), .unset, .unset, .unset, .unset, .unset] [(.int (v1 ||| (32 : Int32)))])) _
    refine XS.bipush X0.here hx rfl (hb hby own_d2_12) ?_
    show Steps p.tables e below (s₁.setTop (mkF m 14 #[.val (.int v1), .val (.int (v1 ||| (32 : Int32))), .unset, .unset, .unset, .unset, .unset] [(.int (122 : Int32)), (.int (v1 ||| (32 : Int32)))])) _
    refine XS.icmpYes X0.here hx rfl (pc0 := 14) (pc' := 21) rfl (hb hby own_d2_14) rfl (tlt (hp9 : (122 : Int32) < (v1 ||| (32 : Int32)))).2.2.1 (by decide) (by decide) ?_
    show Steps p.tables e below (s₁.setTop (mkF m 21 #[.val (.int v1), .val (.int (v1 ||| (32 : Int32))), .unset, .unset, .unset, .unset, .unset] [])) _
    refine XS.iconst X0.here hx rfl (hb hby own_d2_21) ?_
    show Steps p.tables e below (s₁.setTop (mkF m 22 #[.val (.int v1), .val (.int (v1 ||| (32 : Int32))), .unset, .unset, .unset, .unset, .unset] [(.int (0 : Int32))])) _
    refine XS.istoreN X0.here hx rfl (hb hby own_d2_22) rfl (l' := #[.val (.int v1), .val (.int (v1 ||| (32 : Int32))), .val (.int (0 : Int32)), .unset, .unset, .unset, .unset]) rfl ?_
    show Steps p.tables e below (s₁.setTop (mkF m 23 #[.val (.int v1), .val (.int (v1 ||| (32 : Int32))), .val (.int (0 : Int32)), .unset, .unset, .unset, .unset] [])) _
    refine XS.iloadN X0.here hx rfl (hb hby own_d2_23) rfl ?_
    show Steps p.tables e below (s₁.setTop (mkF m 24 #[.val (.int v1), .val (.int (v1 ||| (32 : Int32))), .val (.int (0 : Int32)), .unset, .unset, .unset, .unset] [(.int v1)])) _
    refine XS.i2l X0.here hx rfl (hb hby own_d2_24) rfl ?_
    show Steps p.tables e below (s₁.setTop (mkF m 25 #[.val (.int v1), .val (.int (v1 ||| (32 : Int32))), .val (.int (0 : Int32)), .unset, .unset, .unset, .unset] [(.long (v1.toInt64))])) _
    refine Jvm.Stand.ldc2J X0 hx hown (mvT hZ (hw _ (List.mem_of_getElem? (i := 8) rfl))) rfl (hb hby own_d2_25) ?_
    show Steps p.tables e below (s₁.setTop (mkF m 28 #[.val (.int v1), .val (.int (v1 ||| (32 : Int32))), .val (.int (0 : Int32)), .unset, .unset, .unset, .unset] [(.long (48 : Int64)), (.long (v1.toInt64))])) _
    refine XS.lsub X0.here hx rfl (hb hby own_d2_28) rfl ?_
    show Steps p.tables e below (s₁.setTop (mkF m 29 #[.val (.int v1), .val (.int (v1 ||| (32 : Int32))), .val (.int (0 : Int32)), .unset, .unset, .unset, .unset] [(.long ((v1.toInt64) - (48 : Int64)))])) _
    refine XS.lstoreN X0.here hx rfl (hb hby own_d2_29) rfl (l' := #[.val (.int v1), .val (.int (v1 ||| (32 : Int32))), .val (.int (0 : Int32)), .val (.long ((v1.toInt64) - (48 : Int64))), .second, .unset, .unset]) rfl ?_
    show Steps p.tables e below (s₁.setTop (mkF m 30 #[.val (.int v1), .val (.int (v1 ||| (32 : Int32))), .val (.int (0 : Int32)), .val (.long ((v1.toInt64) - (48 : Int64))), .second, .unset, .unset] [])) _
    refine XS.lloadN X0.here hx rfl (hb hby own_d2_30) rfl ?_
    show Steps p.tables e below (s₁.setTop (mkF m 31 #[.val (.int v1), .val (.int (v1 ||| (32 : Int32))), .val (.int (0 : Int32)), .val (.long ((v1.toInt64) - (48 : Int64))), .second, .unset, .unset] [(.long ((v1.toInt64) - (48 : Int64)))])) _
    refine XS.lconst X0.here hx rfl (hb hby own_d2_31) ?_
    show Steps p.tables e below (s₁.setTop (mkF m 32 #[.val (.int v1), .val (.int (v1 ||| (32 : Int32))), .val (.int (0 : Int32)), .val (.long ((v1.toInt64) - (48 : Int64))), .second, .unset, .unset] [(.long (0 : Int64)), (.long ((v1.toInt64) - (48 : Int64)))])) _
    refine XS.lcmp X0.here hx rfl (hb hby own_d2_32) rfl ?_
    show Steps p.tables e below (s₁.setTop (mkF m 33 #[.val (.int v1), .val (.int (v1 ||| (32 : Int32))), .val (.int (0 : Int32)), .val (.long ((v1.toInt64) - (48 : Int64))), .second, .unset, .unset] [(.int (lcmpW ((v1.toInt64) - (48 : Int64)) (0 : Int64)))])) _
    refine XS.ifNo X0.here hx rfl (hb hby own_d2_33) rfl ((if0 _ _).trans (flt (hp10 : ¬ ((lcmpW ((v1.toInt64) - (48 : Int64)) (0 : Int64)) < (0 : Int32)))).1) ?_
    show Steps p.tables e below (s₁.setTop (mkF m 36 #[.val (.int v1), .val (.int (v1 ||| (32 : Int32))), .val (.int (0 : Int32)), .val (.long ((v1.toInt64) - (48 : Int64))), .second, .unset, .unset] [])) _
    refine XS.lloadN X0.here hx rfl (hb hby own_d2_36) rfl ?_
    show Steps p.tables e below (s₁.setTop (mkF m 37 #[.val (.int v1), .val (.int (v1 ||| (32 : Int32))), .val (.int (0 : Int32)), .val (.long ((v1.toInt64) - (48 : Int64))), .second, .unset, .unset] [(.long ((v1.toInt64) - (48 : Int64)))])) _
    refine Jvm.Stand.ldc2J X0 hx hown (mvT hZ (hw _ (List.mem_of_getElem? (i := 20) rfl))) rfl (hb hby own_d2_37) ?_
    show Steps p.tables e below (s₁.setTop (mkF m 40 #[.val (.int v1), .val (.int (v1 ||| (32 : Int32))), .val (.int (0 : Int32)), .val (.long ((v1.toInt64) - (48 : Int64))), .second, .unset, .unset] [(.long (10 : Int64)), (.long ((v1.toInt64) - (48 : Int64)))])) _
    refine XS.lcmp X0.here hx rfl (hb hby own_d2_40) rfl ?_
    show Steps p.tables e below (s₁.setTop (mkF m 41 #[.val (.int v1), .val (.int (v1 ||| (32 : Int32))), .val (.int (0 : Int32)), .val (.long ((v1.toInt64) - (48 : Int64))), .second, .unset, .unset] [(.int (lcmpW ((v1.toInt64) - (48 : Int64)) (10 : Int64)))])) _
    refine XS.ifYes X0.here hx rfl (pc0 := 41) (pc' := 48) rfl (hb hby own_d2_41) rfl ((if0 _ _).trans (flt (hp11 : ¬ ((lcmpW ((v1.toInt64) - (48 : Int64)) (10 : Int64)) < (0 : Int32)))).2.1) (by decide) (by decide) ?_
    show Steps p.tables e below (s₁.setTop (mkF m 48 #[.val (.int v1), .val (.int (v1 ||| (32 : Int32))), .val (.int (0 : Int32)), .val (.long ((v1.toInt64) - (48 : Int64))), .second, .unset, .unset] [])) _
    refine XS.iconst X0.here hx rfl (hb hby own_d2_48) ?_
    show Steps p.tables e below (s₁.setTop (mkF m 49 #[.val (.int v1), .val (.int (v1 ||| (32 : Int32))), .val (.int (0 : Int32)), .val (.long ((v1.toInt64) - (48 : Int64))), .second, .unset, .unset] [(.int (0 : Int32))])) _
    refine XS.istore X0.here hx rfl (hb hby own_d2_49) rfl (l' := #[.val (.int v1), .val (.int (v1 ||| (32 : Int32))), .val (.int (0 : Int32)), .val (.long ((v1.toInt64) - (48 : Int64))), .second, .val (.int (0 : Int32)), .unset]) rfl ?_
    show Steps p.tables e below (s₁.setTop (mkF m 51 #[.val (.int v1), .val (.int (v1 ||| (32 : Int32))), .val (.int (0 : Int32)), .val (.long ((v1.toInt64) - (48 : Int64))), .second, .val (.int (0 : Int32)), .unset] [])) _
    refine XS.iloadN X0.here hx rfl (hb hby own_d2_51) rfl ?_
    show Steps p.tables e below (s₁.setTop (mkF m 52 #[.val (.int v1), .val (.int (v1 ||| (32 : Int32))), .val (.int (0 : Int32)), .val (.long ((v1.toInt64) - (48 : Int64))), .second, .val (.int (0 : Int32)), .unset] [(.int v1)])) _
    refine XS.bipush X0.here hx rfl (hb hby own_d2_52) ?_
    show Steps p.tables e below (s₁.setTop (mkF m 54 #[.val (.int v1), .val (.int (v1 ||| (32 : Int32))), .val (.int (0 : Int32)), .val (.long ((v1.toInt64) - (48 : Int64))), .second, .val (.int (0 : Int32)), .unset] [(.int (95 : Int32)), (.int v1)])) _
    refine XS.icmpYes X0.here hx rfl (pc0 := 54) (pc' := 61) rfl (hb hby own_d2_54) rfl (feq (hp7 : ¬ (v1 = (95 : Int32)))).2 (by decide) (by decide) ?_
    show Steps p.tables e below (s₁.setTop (mkF m 61 #[.val (.int v1), .val (.int (v1 ||| (32 : Int32))), .val (.int (0 : Int32)), .val (.long ((v1.toInt64) - (48 : Int64))), .second, .val (.int (0 : Int32)), .unset] [])) _
    refine XS.iconst X0.here hx rfl (hb hby own_d2_61) ?_
    show Steps p.tables e below (s₁.setTop (mkF m 62 #[.val (.int v1), .val (.int (v1 ||| (32 : Int32))), .val (.int (0 : Int32)), .val (.long ((v1.toInt64) - (48 : Int64))), .second, .val (.int (0 : Int32)), .unset] [(.int (0 : Int32))])) _
    refine XS.istore X0.here hx rfl (hb hby own_d2_62) rfl (l' := #[.val (.int v1), .val (.int (v1 ||| (32 : Int32))), .val (.int (0 : Int32)), .val (.long ((v1.toInt64) - (48 : Int64))), .second, .val (.int (0 : Int32)), .val (.int (0 : Int32))]) rfl ?_
    show Steps p.tables e below (s₁.setTop (mkF m 64 #[.val (.int v1), .val (.int (v1 ||| (32 : Int32))), .val (.int (0 : Int32)), .val (.long ((v1.toInt64) - (48 : Int64))), .second, .val (.int (0 : Int32)), .val (.int (0 : Int32))] [])) _
    refine XS.iloadN X0.here hx rfl (hb hby own_d2_64) rfl ?_
    show Steps p.tables e below (s₁.setTop (mkF m 65 #[.val (.int v1), .val (.int (v1 ||| (32 : Int32))), .val (.int (0 : Int32)), .val (.long ((v1.toInt64) - (48 : Int64))), .second, .val (.int (0 : Int32)), .val (.int (0 : Int32))] [(.int (0 : Int32))])) _
    refine XS.ifNo X0.here hx rfl (hb hby own_d2_65) rfl (by decide) ?_
    show Steps p.tables e below (s₁.setTop (mkF m 68 #[.val (.int v1), .val (.int (v1 ||| (32 : Int32))), .val (.int (0 : Int32)), .val (.long ((v1.toInt64) - (48 : Int64))), .second, .val (.int (0 : Int32)), .val (.int (0 : Int32))] [])) _
    refine XS.iload X0.here hx rfl (hb hby own_d2_68) rfl ?_
    show Steps p.tables e below (s₁.setTop (mkF m 70 #[.val (.int v1), .val (.int (v1 ||| (32 : Int32))), .val (.int (0 : Int32)), .val (.long ((v1.toInt64) - (48 : Int64))), .second, .val (.int (0 : Int32)), .val (.int (0 : Int32))] [(.int (0 : Int32))])) _
    refine XS.ifNo X0.here hx rfl (hb hby own_d2_70) rfl (by decide) ?_
    show Steps p.tables e below (s₁.setTop (mkF m 73 #[.val (.int v1), .val (.int (v1 ||| (32 : Int32))), .val (.int (0 : Int32)), .val (.long ((v1.toInt64) - (48 : Int64))), .second, .val (.int (0 : Int32)), .val (.int (0 : Int32))] [])) _
    refine XS.iload X0.here hx rfl (hb hby own_d2_73) rfl ?_
    show Steps p.tables e below (s₁.setTop (mkF m 75 #[.val (.int v1), .val (.int (v1 ||| (32 : Int32))), .val (.int (0 : Int32)), .val (.long ((v1.toInt64) - (48 : Int64))), .second, .val (.int (0 : Int32)), .val (.int (0 : Int32))] [(.int (0 : Int32))])) _
    refine XS.ifYes X0.here hx rfl (pc0 := 75) (pc' := 82) rfl (hb hby own_d2_75) rfl (by decide) (by decide) (by decide) ?_
    show Steps p.tables e below (s₁.setTop (mkF m 82 #[.val (.int v1), .val (.int (v1 ||| (32 : Int32))), .val (.int (0 : Int32)), .val (.long ((v1.toInt64) - (48 : Int64))), .second, .val (.int (0 : Int32)), .val (.int (0 : Int32))] [])) _
    refine XS.iconst X0.here hx rfl (hb hby own_d2_82) ?_
    show Steps p.tables e below (s₁.setTop (mkF m 83 #[.val (.int v1), .val (.int (v1 ||| (32 : Int32))), .val (.int (0 : Int32)), .val (.long ((v1.toInt64) - (48 : Int64))), .second, .val (.int (0 : Int32)), .val (.int (0 : Int32))] [(.int (0 : Int32))])) _
    exact retN X0 hx (t := .boolean) Bd.returns (by simp) (hb hby own_d2_83) hr
  · show OwnQ _ h0 n0 _ s₁.heap _
    exact ⟨rfl, N0, e0⟩
set_option maxRecDepth 65536 in
set_option maxHeartbeats 40000000 in
theorem own_isStart_34 (l : Launch) (Z : State) (a0 : Array Value) (hw : ∀ d ∈ tables_1, d.before a0 Z = true) (ws : List Jvm.Cond) (wENTITY : Addr) (wROLE_NAME : Addr) (G : OwnG Z wENTITY wROLE_NAME) (h0 : Heap) (n0 : Nat) (O0 : Old Z n0 h0) (v1 : Int32) (hp1 : ¬ (v1 < (65 : Int32))) (hp2 : (90 : Int32) < v1) (hp3 : ¬ (v1 < (97 : Int32))) (hp4 : (122 : Int32) < v1) (hp5 : ¬ (v1 < (48 : Int32))) (hp6 : (57 : Int32) < v1) (hp7 : ¬ (v1 = (95 : Int32))) (hp8 : ¬ ((v1 ||| (32 : Int32)) < (97 : Int32))) (hp9 : (122 : Int32) < (v1 ||| (32 : Int32))) (hp10 : ¬ ((lcmpW ((v1.toInt64) - (48 : Int64)) (0 : Int64)) < (0 : Int32))) (hp11 : ¬ ((lcmpW ((v1.toInt64) - (48 : Int64)) (10 : Int64)) < (0 : Int32))) :
    MetFree l (⟨"com/example/credlib/credlib/policy/NameRule", "isStart", "(I)Z"⟩ : MethodName) (head1 (Jvm.Cond.code (⟨"com/example/credlib/credlib/policy/NameRule", "isStart", "(I)Z"⟩ : MethodName) prog_30_method_6_code 2 (some .boolean) :: ws) ({ frames := 0, cells := 0, slots := 0, locals := 0 } : Room)) (fun a U => a = #[(.ref wENTITY), (.int v1)] ∧ Z.Warmed39 U.vm ∧ U.heap = h0) (fun _ _ _ _ _ => True) (fun _ U o U' => ∃ v L, o = .returned v ∧ OwnQ (some (.int (0 : Int32))) h0 n0 v U'.heap L ∧ FrameEnd U o U' L ({ frames := 0, cells := 0, slots := 0, locals := 0 } : Room).cells ({ frames := 0, cells := 0, slots := 0, locals := 0 } : Room).slots) := by
  refine MetFree.of_bodySF (plainFor_of_name own_pn_1) hisR ?_
  intro p e s m args below meth c s₁ Bd hml0 hP hK
  obtain ⟨rfl, hZ, hh⟩ := hP
  have hx := Bd.exec
  have hby := Bd.bytes
  have hml : c.maxLocals = 2 := hml0
  have hown : s.vm.findClass "com/example/credlib/credlib/policy/NameRule" = some m.cls := findClass_of_methodNamed Bd.named
  have hnm := (name_of_methodNamed Bd.named Bd.method).1
  have X0 : Stand p l e ({ frames := 0, cells := 0, slots := 0, locals := 0 } : Room) s m #[(.ref wENTITY), (.int v1)] below meth c s₁ [] 0 0 := Stand.of_body Bd
  have e0 : s₁.heap = h0 := by rw [← hh, Bd.state]; rfl
  have N0 := Fr.nil n0
  have pre0 : ∀ t, Steps p.tables e below (s₁.setTop (mkF m 0 #[.val (.ref wENTITY), .val (.int v1)] [])) t → Steps p.tables e below (s₁.setTop (entryFrame m #[(.ref wENTITY), (.int v1)] 2)) t := fun t k => castTop (own_ef_3_RI m wENTITY v1) k
  obtain ⟨T1, X1, e1, st1⟩ := getF X0 hx hZ hown (host := "") (Or.inl (hw _ (List.mem_of_getElem? (i := 16) rfl))) Via.refl e0 (G.2.2.2.2.1.ext O0.2) (g := (mkF m 2 #[.val (.ref wENTITY), .val (.int v1)] [(.ref wENTITY), (.int v1)])) rfl rfl (hb hby own_d3_2)
  obtain ⟨T2, X2, e2, st2⟩ := getF X1 hx hZ hown (host := "") (Or.inl (hw _ (List.mem_of_getElem? (i := 21) rfl))) Via.refl e1 (G.2.2.2.2.2.2.1.ext O0.2) (g := (mkF m 10 #[.val (.ref wENTITY), .val (.int v1)] [(.ref wENTITY), (.int v1)])) rfl rfl (hb hby own_d3_10)
  obtain ⟨fs, hr, hrun, hended, hW, hsame⟩ := X2.leave (v := some (.int (0 : Int32))) (fun h => by rw [Bd.returns] at h; cases h)
  refine ⟨_, _, pre0 _ ?_, hrun, hended, _, _, rfl, ?_, ⟨_, rfl⟩, hW, hsame.mono (by decide) (by decide)⟩
  · show Steps p.tables e below (s₁.setTop (mkF m 0 #[.val (.ref wENTITY), .val (.int v1)] [])) _
    refine XS.iloadN X0.here hx rfl (hb hby own_d3_0) rfl ?_
    show Steps p.tables e below (s₁.setTop (mkF m 1 #[.val (.ref wENTITY), .val (.int v1)] [(.int v1)])) _
    refine XS.aloadN X0.here hx rfl (hb hby own_d3_1) rfl rfl ?_
    show Steps p.tables e below (s₁.setTop (mkF m 2 #[.val (.ref wENTITY), .val (.int v1)] [(.ref wENTITY), (.int v1)])) _
    refine st1 _ ?_
    show Steps p.tables e below (T1.setTop (mkF m 5 #[.val (.ref wENTITY), .val (.int v1)] [(.int (65 : Int32)), (.int v1)])) _
    refine XS.icmpNo X1.here hx rfl (hb hby own_d3_5) rfl (flt (hp1 : ¬ (v1 < (65 : Int32)))).1 ?_
    show Steps p.tables e below (T1.setTop (mkF m 8 #[.val (.ref wENTITY), .val (.int v1)] [])) _
    refine XS.iloadN X1.here hx rfl (hb hby own_d3_8) rfl ?_
    show Steps p.tables e below (T1.setTop (mkF m 9 #[.val (.ref wENTITY), .val (.int v1)] [(.int v1)])) _
    refine XS.aloadN X1.here hx rfl (hb hby own_d3_9) rfl rfl ?_
    show Steps p.tables e below (T1.setTop (mkF m 10 #[.val (.ref wENTITY), .val (.int v1)] [(.ref wENTITY), (.int v1)])) _
    refine st2 _ ?_
    show Steps p.tables e below (T2.setTop (mkF m 13 #[.val (.ref wENTITY), .val (.int v1)] [(.int (90 : Int32)), (.int v1)])) _
    refine XS.icmpYes X2.here hx rfl (pc0 := 13) (pc' := 20) rfl (hb hby own_d3_13) rfl (tlt (hp2 : (90 : Int32) < v1)).2.2.1 (by decide) (by decide) ?_
    show Steps p.tables e below (T2.setTop (mkF m 20 #[.val (.ref wENTITY), .val (.int v1)] [])) _
    refine XS.iconst X2.here hx rfl (hb hby own_d3_20) ?_
    show Steps p.tables e below (T2.setTop (mkF m 21 #[.val (.ref wENTITY), .val (.int v1)] [(.int (0 : Int32))])) _
    exact retN X2 hx (t := .boolean) Bd.returns (by simp) (hb hby own_d3_21) hr
  · show OwnQ _ h0 n0 _ T2.heap _
    exact ⟨rfl, N0, e2⟩
set_option maxRecDepth 65536 in
set_option maxHeartbeats 40000000 in
theorem own_isStart_35 (l : Launch) (Z : State) (a0 : Array Value) (hw : ∀ d ∈ tables_1, d.before a0 Z = true) (ws : List Jvm.Cond) (wENTITY : Addr) (wROLE_NAME : Addr) (G : OwnG Z wENTITY wROLE_NAME) (h0 : Heap) (n0 : Nat) (O0 : Old Z n0 h0) (v1 : Int32) (hp1 : ¬ (v1 < (65 : Int32))) (hp2 : (90 : Int32) < v1) (hp3 : ¬ (v1 < (97 : Int32))) (hp4 : (122 : Int32) < v1) (hp5 : ¬ (v1 < (48 : Int32))) (hp6 : (57 : Int32) < v1) (hp7 : ¬ (v1 = (95 : Int32))) (hp8 : ¬ ((v1 ||| (32 : Int32)) < (97 : Int32))) (hp9 : (122 : Int32) < (v1 ||| (32 : Int32))) (hp10 : ¬ ((lcmpW ((v1.toInt64) - (48 : Int64)) (0 : Int64)) < (0 : Int32))) (hp11 : ¬ ((lcmpW ((v1.toInt64) - (48 : Int64)) (10 : Int64)) < (0 : Int32))) :
    MetFree l (⟨"com/example/credlib/credlib/policy/NameRule", "isStart", "(I)Z"⟩ : MethodName) (head1 (Jvm.Cond.code (⟨"com/example/credlib/credlib/policy/NameRule", "isStart", "(I)Z"⟩ : MethodName) prog_30_method_6_code 2 (some .boolean) :: ws) ({ frames := 0, cells := 0, slots := 0, locals := 0 } : Room)) (fun a U => a = #[(.ref wROLE_NAME), (.int v1)] ∧ Z.Warmed39 U.vm ∧ U.heap = h0) (fun _ _ _ _ _ => True) (fun _ U o U' => ∃ v L, o = .returned v ∧ OwnQ (some (.int (0 : Int32))) h0 n0 v U'.heap L ∧ FrameEnd U o U' L ({ frames := 0, cells := 0, slots := 0, locals := 0 } : Room).cells ({ frames := 0, cells := 0, slots := 0, locals := 0 } : Room).slots) := by
  refine MetFree.of_bodySF (plainFor_of_name own_pn_1) hisR ?_
  intro p e s m args below meth c s₁ Bd hml0 hP hK
  obtain ⟨rfl, hZ, hh⟩ := hP
  have hx := Bd.exec
  have hby := Bd.bytes
  have hml : c.maxLocals = 2 := hml0
  have hown : s.vm.findClass "com/example/credlib/credlib/policy/NameRule" = some m.cls := findClass_of_methodNamed Bd.named
  have hnm := (name_of_methodNamed Bd.named Bd.method).1
  have X0 : Stand p l e ({ frames := 0, cells := 0, slots := 0, locals := 0 } : Room) s m #[(.ref wROLE_NAME), (.int v1)] below meth c s₁ [] 0 0 := Stand.of_body Bd
  have e0 : s₁.heap = h0 := by rw [← hh, Bd.state]; rfl
  have N0 := Fr.nil n0
  have pre0 : ∀ t, Steps p.tables e below (s₁.setTop (mkF m 0 #[.val (.ref wROLE_NAME), .val (.int v1)] [])) t → Steps p.tables e below (s₁.setTop (entryFrame m #[(.ref wROLE_NAME), (.int v1)] 2)) t := fun t k => castTop (own_ef_3_RI m wROLE_NAME v1) k
  obtain ⟨T1, X1, e1, st1⟩ := getF X0 hx hZ hown (host := "") (Or.inl (hw _ (List.mem_of_getElem? (i := 16) rfl))) Via.refl e0 (G.2.2.2.2.2.1.ext O0.2) (g := (mkF m 2 #[.val (.ref wROLE_NAME), .val (.int v1)] [(.ref wROLE_NAME), (.int v1)])) rfl rfl (hb hby own_d3_2)
  obtain ⟨T2, X2, e2, st2⟩ := getF X1 hx hZ hown (host := "") (Or.inl (hw _ (List.mem_of_getElem? (i := 21) rfl))) Via.refl e1 (G.2.2.2.2.2.2.2.1.ext O0.2) (g := (mkF m 10 #[.val (.ref wROLE_NAME), .val (.int v1)] [(.ref wROLE_NAME), (.int v1)])) rfl rfl (hb hby own_d3_10)
  obtain ⟨fs, hr, hrun, hended, hW, hsame⟩ := X2.leave (v := some (.int (0 : Int32))) (fun h => by rw [Bd.returns] at h; cases h)
  refine ⟨_, _, pre0 _ ?_, hrun, hended, _, _, rfl, ?_, ⟨_, rfl⟩, hW, hsame.mono (by decide) (by decide)⟩
  · show Steps p.tables e below (s₁.setTop (mkF m 0 #[.val (.ref wROLE_NAME), .val (.int v1)] [])) _
    refine XS.iloadN X0.here hx rfl (hb hby own_d3_0) rfl ?_
    show Steps p.tables e below (s₁.setTop (mkF m 1 #[.val (.ref wROLE_NAME), .val (.int v1)] [(.int v1)])) _
    refine XS.aloadN X0.here hx rfl (hb hby own_d3_1) rfl rfl ?_
    show Steps p.tables e below (s₁.setTop (mkF m 2 #[.val (.ref wROLE_NAME), .val (.int v1)] [(.ref wROLE_NAME), (.int v1)])) _
    refine st1 _ ?_
    show Steps p.tables e below (T1.setTop (mkF m 5 #[.val (.ref wROLE_NAME), .val (.int v1)] [(.int (97 : Int32)), (.int v1)])) _
    refine XS.icmpNo X1.here hx rfl (hb hby own_d3_5) rfl (flt (hp3 : ¬ (v1 < (97 : Int32)))).1 ?_
    show Steps p.tables e below (T1.setTop (mkF m 8 #[.val (.ref wROLE_NAME), .val (.int v1)] [])) _
    refine XS.iloadN X1.here hx rfl (hb hby own_d3_8) rfl ?_
    show Steps p.tables e below (T1.setTop (mkF m 9 #[.val (.ref wROLE_NAME), .val (.int v1)] [(.int v1)])) _
    refine XS.aloadN X1.here hx rfl (hb hby own_d3_9) rfl rfl ?_
    show Steps p.tables e below (T1.setTop (mkF m 10 #[.val (.ref wROLE_NAME), .val (.int v1)] [(.ref wROLE_NAME), (.int v1)])) _
    refine st2 _ ?_
    show Steps p.tables e below (T2.setTop (mkF m 13 #[.val (.ref wROLE_NAME), .val (.int v1)] [(.int (122 : Int32)), (.int v1)])) _
    refine XS.icmpYes X2.here hx rfl (pc0 := 13) (pc' := 20) rfl (hb hby own_d3_13) rfl (tlt (hp4 : (122 : Int32) < v1)).2.2.1 (by decide) (by decide) ?_
    show Steps p.tables e below (T2.setTop (mkF m 20 #[.val (.ref wROLE_NAME), .val (.int v1)] [])) _
    refine XS.iconst X2.here hx rfl (hb hby own_d3_20) ?_
    show Steps p.tables e below (T2.setTop (mkF m 21 #[.val (.ref wROLE_NAME), .val (.int v1)] [(.int (0 : Int32))])) _
    exact retN X2 hx (t := .boolean) Bd.returns (by simp) (hb hby own_d3_21) hr
  · show OwnQ _ h0 n0 _ T2.heap _
    exact ⟨rfl, N0, e2⟩
set_option maxRecDepth 65536 in
set_option maxHeartbeats 40000000 in
theorem own_law_08 (l : Launch) (Z : State) (a0 : Array Value) (hw : ∀ d ∈ tables_1, d.before a0 Z = true) (ws : List Jvm.Cond) (wENTITY : Addr) (wROLE_NAME : Addr) (G : OwnG Z wENTITY wROLE_NAME) (h0 : Heap) (n0 : Nat) (O0 : Old Z n0 h0) (p1 : Int32) (p2 : Int32) (he : (p2 &&& (1 : Int32)) = (0 : Int32)) (aa0 : ¬ ((p1 &&& (255 : Int32)) < (65 : Int32))) (aa1 : (90 : Int32) < (p1 &&& (255 : Int32))) (aa2 : ¬ ((p1 &&& (255 : Int32)) < (97 : Int32))) (aa3 : (122 : Int32) < (p1 &&& (255 : Int32))) (aa4 : ¬ ((p1 &&& (255 : Int32)) < (48 : Int32))) (aa5 : (57 : Int32) < (p1 &&& (255 : Int32))) (aa6 : ¬ ((p1 &&& (255 : Int32)) = (95 : Int32))) (aa7 : ¬ (((p1 &&& (255 : Int32)) ||| (32 : Int32)) < (97 : Int32))) (aa8 : (122 : Int32) < ((p1 &&& (255 : Int32)) ||| (32 : Int32))) (aa9 : ¬ ((lcmpW (((p1 &&& (255 : Int32)).toInt64) - (48 : Int64)) (0 : Int64)) < (0 : Int32))) (aa10 : ¬ ((lcmpW (((p1 &&& (255 : Int32)).toInt64) - (48 : Int64)) (10 : Int64)) < (0 : Int32))) :
    MetFree l x (head1 (Jvm.Cond.code x code maxLocals ret :: ws) room_1) (fun a U => a = #[(.int p1), (.int p2)] ∧ Z.Warmed39 U.vm ∧ U.heap = h0) (fun _ _ _ _ _ => True) (fun _ U o U' => ∃ v L, o = .returned v ∧ (v = some (.int 1) ∧ Fr n0 L) ∧ FrameEnd U o U' L room_1.cells room_1.slots) := by
  refine MetFree.of_bodySF (plainFor_of_name own_pn_0) hisR ?_
  intro p e s m args below meth c s₁ Bd hml0 hP hK
  obtain ⟨rfl, hZ, hh⟩ := hP
  have hx := Bd.exec
  have hby := Bd.bytes
  have hml : c.maxLocals = 4 := hml0
  have hown : s.vm.findClass "com/example/credlib/credlib/policy/NameRuleIsPartPinLaw" = some m.cls := findClass_of_methodNamed Bd.named
  have hnm := (name_of_methodNamed Bd.named Bd.method).1
  have X0 : Stand p l e room_1 s m #[(.int p1), (.int p2)] below meth c s₁ [] 0 0 := Stand.of_body Bd
  have e0 : s₁.heap = h0 := by rw [← hh, Bd.state]; rfl
  have N0 := Fr.nil n0
  have pre0 : ∀ t, Steps p.tables e below (s₁.setTop (mkF m 0 #[.val (.int p1), .val (.int p2), .unset, .unset] [])) t → Steps p.tables e below (s₁.setTop (entryFrame m #[(.int p1), (.int p2)] maxLocals)) t := fun t k => castTop (own_ef_0_II m p1 p2) k
  obtain ⟨_, _, ⟨T1, L1, k1, n1⟩, -, X1, ⟨Lc1, hQ1, l1, y1, z1⟩, st1⟩ := Jvm.LawKit.callS X0 hx (y := (⟨"com/example/credlib/credlib/policy/NameRule", "isPart", "(I)Z"⟩ : MethodName)) hown (mvT hZ (hw _ (List.mem_of_getElem? (i := 0) rfl))) (mvT hZ (hw _ (List.mem_of_getElem? (i := 1) rfl))) (mvT hZ (hw _ (List.mem_of_getElem? (i := 2) rfl))) (mvT hZ (hw _ (List.mem_of_getElem? (i := 3) rfl))) (by decide) (backOf (W := 0) (own_isPart_32 l Z a0 hw [] wENTITY wROLE_NAME G h0 n0 O0 (p1 &&& (255 : Int32)) aa0 aa1 aa2 aa3 aa4 aa5 aa6 aa7 aa8 aa9 aa10) hZ (hw _ (List.mem_of_getElem? (i := 3) rfl)) (hw _ (List.mem_of_getElem? (i := 2) rfl)) (by decide) (by decide)) (g := (mkF m 17 #[.val (.int p1), .val (.int p2), .val (.int (p1 &&& (255 : Int32))), .unset] [(.int (p1 &&& (255 : Int32)))])) rfl (by rw [hml]; rfl) (argsL := [(.int (p1 &&& (255 : Int32)))]) (rest := []) (lenOf own_pd_0 rfl) rfl (by show 2 * 0 + _ ≤ _; exact Nat.le_of_eq rfl) (hb hby at_17) (fun _ _ => ⟨rfl, e0, (by decide : 0 + 0 ≤ _), (by decide : 0 + 0 ≤ _)⟩)
  dsimp only [Pt.U, Pt.locs, Pt.cells, Pt.slots] at X1 l1 y1 z1 st1 hQ1
  subst l1 y1 z1
  obtain ⟨rfl, N1q, e1⟩ := hQ1
  have N1 := Fr.app N0 N1q
  obtain ⟨_, _, ⟨T2, L2, k2, n2⟩, -, X2, ⟨Lc2, hQ2, l2, y2, z2⟩, st2⟩ := Jvm.LawKit.callS X1 hx (y := (⟨"com/example/credlib/credlib/policy/NameRuleIsPartPinLaw", "expected", "(I)Z"⟩ : MethodName)) hown (mvT hZ (hw _ (List.mem_of_getElem? (i := 4) rfl))) (mvT hZ (hw _ (List.mem_of_getElem? (i := 5) rfl))) (mvT hZ (hw _ (List.mem_of_getElem? (i := 6) rfl))) (mvT hZ (hw _ (List.mem_of_getElem? (i := 7) rfl))) (by decide) (backOf (W := 1) (own_expected_33 l Z a0 hw [] wENTITY wROLE_NAME G h0 n0 O0 (p1 &&& (255 : Int32)) aa0 aa1 aa2 aa3 aa4 aa5 aa6 aa7 aa8 aa9 aa10) hZ (hw _ (List.mem_of_getElem? (i := 7) rfl)) (hw _ (List.mem_of_getElem? (i := 6) rfl)) (by decide) (by decide)) (g := (mkF m 23 #[.val (.int p1), .val (.int p2), .val (.int (p1 &&& (255 : Int32))), .val (.int (0 : Int32))] [(.int (p1 &&& (255 : Int32))), (.int (0 : Int32))])) rfl (by rw [hml]; rfl) (argsL := [(.int (p1 &&& (255 : Int32)))]) (rest := [(.int (0 : Int32))]) (lenOf own_pd_0 rfl) rfl (by show 2 * 0 + _ ≤ _; exact Nat.le_of_eq rfl) (hb hby at_23) (fun _ _ => ⟨rfl, e1, (by decide : 0 + 0 ≤ _), (by decide : 0 + 0 ≤ _)⟩)
  dsimp only [Pt.U, Pt.locs, Pt.cells, Pt.slots] at X2 l2 y2 z2 st2 hQ2
  subst l2 y2 z2
  obtain ⟨rfl, N2q, e2⟩ := hQ2
  have N2 := Fr.app N1 N2q
  obtain ⟨T3, X3, e3, st3⟩ := getS2 X2 hx hZ hown (host := "") (Or.inl (hw _ (List.mem_of_getElem? (i := 9) rfl))) Via.refl e2 (G.1.ext O0.2) (g := (mkF m 31 #[.val (.int p1), .val (.int p2), .val (.int (p1 &&& (255 : Int32))), .val (.int (0 : Int32))] [])) rfl (hb hby at_31)
  obtain ⟨cq4, kq4, q4a, q4b, q4c⟩ := isOf hZ e3 (G.2.1.ext O0.2)
  obtain ⟨_, _, ⟨T4, L4, k4, n4⟩, -, X4, ⟨Lc4, hQ4, l4, y4, z4⟩, st4⟩ := X3.virtualBack hx (y := (⟨"com/example/credlib/credlib/policy/NameRule", "isStart", "(I)Z"⟩ : MethodName)) (z := (⟨"com/example/credlib/credlib/policy/NameRule", "isStart", "(I)Z"⟩ : MethodName)) hown (mvT hZ (hw _ (List.mem_of_getElem? (i := 11) rfl))) (mvT hZ (hw _ (List.mem_of_getElem? (i := 12) rfl))) (notFace_of_selects (args := #[]) (mvT hZ (hw _ (List.mem_of_getElem? (i := 14) rfl)))) (mvT hZ (hw _ (List.mem_of_getElem? (i := 14) rfl))) (mvT hZ (hw _ (List.mem_of_getElem? (i := 13) rfl))) (by decide) (backOf (W := 0) (own_isStart_34 l Z a0 hw [] wENTITY wROLE_NAME G h0 n0 O0 (p1 &&& (255 : Int32)) aa0 aa1 aa2 aa3 aa4 aa5 aa6 aa7 aa8 aa9 aa10) hZ (hw _ (List.mem_of_getElem? (i := 15) rfl)) (hw _ (List.mem_of_getElem? (i := 2) rfl)) (by decide) (by decide)) q4a q4c (g := (mkF m 35 #[.val (.int p1), .val (.int p2), .val (.int (p1 &&& (255 : Int32))), .val (.int (0 : Int32))] [(.int (p1 &&& (255 : Int32))), (.ref wENTITY)])) rfl (by rw [hml]; rfl) (Steps.refl _) (argsL := [(.int (p1 &&& (255 : Int32)))]) (rest := []) (lenOf own_pd_0 rfl) rfl (by show 2 * 0 + _ ≤ _; exact Nat.le_of_eq rfl) (hb hby at_35) (fun _ _ => ⟨rfl, e3, (by decide : 0 + 0 ≤ _), (by decide : 0 + 0 ≤ _)⟩)
  dsimp only [Pt.U, Pt.locs, Pt.cells, Pt.slots] at X4 l4 y4 z4 st4 hQ4
  subst l4 y4 z4
  obtain ⟨rfl, N4q, e4⟩ := hQ4
  have N4 := Fr.app N2 N4q
  obtain ⟨T5, X5, e5, st5⟩ := getS2 X4 hx hZ hown (host := "") (Or.inl (hw _ (List.mem_of_getElem? (i := 18) rfl))) Via.refl e4 (G.2.2.1.ext O0.2) (g := (mkF m 47 #[.val (.int p1), .val (.int p2), .val (.int (p1 &&& (255 : Int32))), .val (.int (0 : Int32))] [])) rfl (hb hby at_47)
  obtain ⟨cq6, kq6, q6a, q6b, q6c⟩ := isOf hZ e5 (G.2.2.2.1.ext O0.2)
  obtain ⟨_, _, ⟨T6, L6, k6, n6⟩, -, X6, ⟨Lc6, hQ6, l6, y6, z6⟩, st6⟩ := X5.virtualBack hx (y := (⟨"com/example/credlib/credlib/policy/NameRule", "isStart", "(I)Z"⟩ : MethodName)) (z := (⟨"com/example/credlib/credlib/policy/NameRule", "isStart", "(I)Z"⟩ : MethodName)) hown (mvT hZ (hw _ (List.mem_of_getElem? (i := 11) rfl))) (mvT hZ (hw _ (List.mem_of_getElem? (i := 12) rfl))) (notFace_of_selects (args := #[]) (mvT hZ (hw _ (List.mem_of_getElem? (i := 14) rfl)))) (mvT hZ (hw _ (List.mem_of_getElem? (i := 14) rfl))) (mvT hZ (hw _ (List.mem_of_getElem? (i := 13) rfl))) (by decide) (backOf (W := 0) (own_isStart_35 l Z a0 hw [] wENTITY wROLE_NAME G h0 n0 O0 (p1 &&& (255 : Int32)) aa0 aa1 aa2 aa3 aa4 aa5 aa6 aa7 aa8 aa9 aa10) hZ (hw _ (List.mem_of_getElem? (i := 15) rfl)) (hw _ (List.mem_of_getElem? (i := 2) rfl)) (by decide) (by decide)) q6a q6c (g := (mkF m 51 #[.val (.int p1), .val (.int p2), .val (.int (p1 &&& (255 : Int32))), .val (.int (0 : Int32))] [(.int (p1 &&& (255 : Int32))), (.ref wROLE_NAME)])) rfl (by rw [hml]; rfl) (Steps.refl _) (argsL := [(.int (p1 &&& (255 : Int32)))]) (rest := []) (lenOf own_pd_0 rfl) rfl (by show 2 * 0 + _ ≤ _; exact Nat.le_of_eq rfl) (hb hby at_51) (fun _ _ => ⟨rfl, e5, (by decide : 0 + 0 ≤ _), (by decide : 0 + 0 ≤ _)⟩)
  dsimp only [Pt.U, Pt.locs, Pt.cells, Pt.slots] at X6 l6 y6 z6 st6 hQ6
  subst l6 y6 z6
  obtain ⟨rfl, N6q, e6⟩ := hQ6
  have N6 := Fr.app N4 N6q
  obtain ⟨fs, hr, hrun, hended, hW, hsame⟩ := X6.leave (v := some (.int (1 : Int32))) (fun h => by rw [Bd.returns] at h; cases h)
  refine ⟨_, _, pre0 _ ?_, hrun, hended, _, _, rfl, ?_, ⟨_, rfl⟩, hW, hsame.mono (by decide) (by decide)⟩
  · show Steps p.tables e below (s₁.setTop (mkF m 0 #[.val (.int p1), .val (.int p2), .unset, .unset] [])) _
    refine XS.iloadN X0.here hx rfl (hb hby at_0) rfl ?_
    show Steps p.tables e below (s₁.setTop (mkF m 1 #[.val (.int p1), .val (.int p2), .unset, .unset] [(.int p2)])) _
    refine XS.iconst X0.here hx rfl (hb hby at_1) ?_
    show Steps p.tables e below (s₁.setTop (mkF m 2 #[.val (.int p1), .val (.int p2), .unset, .unset] [(.int (1 : Int32)), (.int p2)])) _
    refine XS.iand X0.here hx rfl (hb hby at_2) rfl ?_
    show Steps p.tables e below (s₁.setTop (mkF m 3 #[.val (.int p1), .val (.int p2), .unset, .unset] [(.int (p2 &&& (1 : Int32)))])) _
    refine XS.ifYes X0.here hx rfl (pc0 := 3) (pc' := 10) rfl (hb hby at_3) rfl ((if0 _ _).trans (teq (he : (p2 &&& (1 : Int32)) = (0 : Int32))).1) (by decide) (by decide) ?_
    show Steps p.tables e below (s₁.setTop (mkF m 10 #[.val (.int p1), .val (.int p2), .unset, .unset] [])) _
    refine XS.iloadN X0.here hx rfl (hb hby at_10) rfl ?_
    show Steps p.tables e below (s₁.setTop (mkF m 11 #[.val (.int p1), .val (.int p2), .unset, .unset] [(.int p1)])) _
    refine XS.sipush X0.here hx rfl (hb hby at_11) ?_
    show Steps p.tables e below (s₁.setTop (mkF m 14 #[.val (.int p1), .val (.int p2), .unset, .unset] [(.int (255 : Int32)), (.int p1)])) _
    refine XS.iand X0.here hx rfl (hb hby at_14) rfl ?_
    show Steps p.tables e below (s₁.setTop (mkF m 15 #[.val (.int p1), .val (.int p2), .unset, .unset] [(.int (p1 &&& (255 : Int32)))])) _
    refine XS.istoreN X0.here hx rfl (hb hby at_15) rfl (l' := #[.val (.int p1), .val (.int p2), .val (.int (p1 &&& (255 : Int32))), .unset]) rfl ?_
    show Steps p.tables e below (s₁.setTop (mkF m 16 #[.val (.int p1), .val (.int p2), .val (.int (p1 &&& (255 : Int32))), .unset] [])) _
    refine XS.iloadN X0.here hx rfl (hb hby at_16) rfl ?_
    show Steps p.tables e below (s₁.setTop (mkF m 17 #[.val (.int p1), .val (.int p2), .val (.int (p1 &&& (255 : Int32))), .unset] [(.int (p1 &&& (255 : Int32)))])) _
    refine st1 _ ?_
    show Steps p.tables e below (T1.setTop (mkF m 20 #[.val (.int p1), .val (.int p2), .val (.int (p1 &&& (255 : Int32))), .unset] [(.int (0 : Int32))])) _
    refine XS.istoreN X1.here hx rfl (hb hby at_20) rfl (l' := #[.val (.int p1), .val (.int p2), .val (.int (p1 &&& (255 : Int32))), .val (.int (0 : Int32))]) rfl ?_
    show Steps p.tables e below (T1.setTop (mkF m 21 #[.val (.int p1), .val (.int p2), .val (.int (p1 &&& (255 : Int32))), .val (.int (0 : Int32))] [])) _
    refine XS.iloadN X1.here hx rfl (hb hby at_21) rfl ?_
    show Steps p.tables e below (T1.setTop (mkF m 22 #[.val (.int p1), .val (.int p2), .val (.int (p1 &&& (255 : Int32))), .val (.int (0 : Int32))] [(.int (0 : Int32))])) _
    refine XS.iloadN X1.here hx rfl (hb hby at_22) rfl ?_
    show Steps p.tables e below (T1.setTop (mkF m 23 #[.val (.int p1), .val (.int p2), .val (.int (p1 &&& (255 : Int32))), .val (.int (0 : Int32))] [(.int (p1 &&& (255 : Int32))), (.int (0 : Int32))])) _
    refine st2 _ ?_
    show Steps p.tables e below (T2.setTop (mkF m 26 #[.val (.int p1), .val (.int p2), .val (.int (p1 &&& (255 : Int32))), .val (.int (0 : Int32))] [(.int (0 : Int32)), (.int (0 : Int32))])) _
    refine XS.icmpYes X2.here hx rfl (pc0 := 26) (pc' := 31) rfl (hb hby at_26) rfl (by decide) (by decide) (by decide) ?_
    show Steps p.tables e below (T2.setTop (mkF m 31 #[.val (.int p1), .val (.int p2), .val (.int (p1 &&& (255 : Int32))), .val (.int (0 : Int32))] [])) _
    refine st3 _ ?_
    show Steps p.tables e below (T3.setTop (mkF m 34 #[.val (.int p1), .val (.int p2), .val (.int (p1 &&& (255 : Int32))), .val (.int (0 : Int32))] [(.ref wENTITY)])) _
    refine XS.iloadN X3.here hx rfl (hb hby at_34) rfl ?_
    show Steps p.tables e below (T3.setTop (mkF m 35 #[.val (.int p1), .val (.int p2), .val (.int (p1 &&& (255 : Int32))), .val (.int (0 : Int32))] [(.int (p1 &&& (255 : Int32))), (.ref wENTITY)])) _
    refine st4.trans ?_
    show Steps p.tables e below (T4.setTop (mkF m 38 #[.val (.int p1), .val (.int p2), .val (.int (p1 &&& (255 : Int32))), .val (.int (0 : Int32))] [(.int (0 : Int32))])) _
    refine XS.ifYes X4.here hx rfl (pc0 := 38) (pc' := 47) rfl (hb hby at_38) rfl (by decide) (by decide) (by decide) ?_
    show Steps p.tables e below (T4.setTop (mkF m 47 #[.val (.int p1), .val (.int p2), .val (.int (p1 &&& (255 : Int32))), .val (.int (0 : Int32))] [])) _
    refine st5 _ ?_
    show Steps p.tables e below (T5.setTop (mkF m 50 #[.val (.int p1), .val (.int p2), .val (.int (p1 &&& (255 : Int32))), .val (.int (0 : Int32))] [(.ref wROLE_NAME)])) _
    refine XS.iloadN X5.here hx rfl (hb hby at_50) rfl ?_
    show Steps p.tables e below (T5.setTop (mkF m 51 #[.val (.int p1), .val (.int p2), .val (.int (p1 &&& (255 : Int32))), .val (.int (0 : Int32))] [(.int (p1 &&& (255 : Int32))), (.ref wROLE_NAME)])) _
    refine st6.trans ?_
    show Steps p.tables e below (T6.setTop (mkF m 54 #[.val (.int p1), .val (.int p2), .val (.int (p1 &&& (255 : Int32))), .val (.int (0 : Int32))] [(.int (0 : Int32))])) _
    refine XS.ifYes X6.here hx rfl (pc0 := 54) (pc' := 63) rfl (hb hby at_54) rfl (by decide) (by decide) (by decide) ?_
    show Steps p.tables e below (T6.setTop (mkF m 63 #[.val (.int p1), .val (.int p2), .val (.int (p1 &&& (255 : Int32))), .val (.int (0 : Int32))] [])) _
    refine XS.iconst X6.here hx rfl (hb hby at_63) ?_
    show Steps p.tables e below (T6.setTop (mkF m 64 #[.val (.int p1), .val (.int p2), .val (.int (p1 &&& (255 : Int32))), .val (.int (0 : Int32))] [(.int (1 : Int32))])) _
    exact retN X6 hx (t := .boolean) Bd.returns (by simp) (hb hby at_64) hr
  · exact ⟨rfl, N6⟩
set_option maxRecDepth 65536 in
set_option maxHeartbeats 40000000 in
theorem own_law_10 (l : Launch) (Z : State) (a0 : Array Value) (hw : ∀ d ∈ tables_1, d.before a0 Z = true) (ws : List Jvm.Cond) (wENTITY : Addr) (wROLE_NAME : Addr) (G : OwnG Z wENTITY wROLE_NAME) (h0 : Heap) (n0 : Nat) (O0 : Old Z n0 h0) (p1 : Int32) (p2 : Int32) (he : ¬ ((p2 &&& (1 : Int32)) = (0 : Int32))) (aa0 : p1 < (65 : Int32)) (aa1 : ¬ ((90 : Int32) < p1)) (aa2 : p1 < (97 : Int32)) (aa3 : ¬ ((122 : Int32) < p1)) (aa4 : p1 < (48 : Int32)) (aa5 : ¬ ((57 : Int32) < p1)) (aa6 : ¬ (p1 = (95 : Int32))) (aa7 : (p1 ||| (32 : Int32)) < (97 : Int32)) (aa8 : ¬ ((122 : Int32) < (p1 ||| (32 : Int32)))) (aa9 : (lcmpW ((p1.toInt64) - (48 : Int64)) (0 : Int64)) < (0 : Int32)) (aa10 : (lcmpW ((p1.toInt64) - (48 : Int64)) (10 : Int64)) < (0 : Int32)) :
    MetFree l x (head1 (Jvm.Cond.code x code maxLocals ret :: ws) room_1) (fun a U => a = #[(.int p1), (.int p2)] ∧ Z.Warmed39 U.vm ∧ U.heap = h0) (fun _ _ _ _ _ => True) (fun _ U o U' => ∃ v L, o = .returned v ∧ (v = some (.int 1) ∧ Fr n0 L) ∧ FrameEnd U o U' L room_1.cells room_1.slots) := by
  refine MetFree.of_bodySF (plainFor_of_name own_pn_0) hisR ?_
  intro p e s m args below meth c s₁ Bd hml0 hP hK
  obtain ⟨rfl, hZ, hh⟩ := hP
  have hx := Bd.exec
  have hby := Bd.bytes
  have hml : c.maxLocals = 4 := hml0
  have hown : s.vm.findClass "com/example/credlib/credlib/policy/NameRuleIsPartPinLaw" = some m.cls := findClass_of_methodNamed Bd.named
  have hnm := (name_of_methodNamed Bd.named Bd.method).1
  have X0 : Stand p l e room_1 s m #[(.int p1), (.int p2)] below meth c s₁ [] 0 0 := Stand.of_body Bd
  have e0 : s₁.heap = h0 := by rw [← hh, Bd.state]; rfl
  have N0 := Fr.nil n0
  have pre0 : ∀ t, Steps p.tables e below (s₁.setTop (mkF m 0 #[.val (.int p1), .val (.int p2), .unset, .unset] [])) t → Steps p.tables e below (s₁.setTop (entryFrame m #[(.int p1), (.int p2)] maxLocals)) t := fun t k => castTop (own_ef_0_II m p1 p2) k
  obtain ⟨_, _, ⟨T1, L1, k1, n1⟩, -, X1, ⟨Lc1, hQ1, l1, y1, z1⟩, st1⟩ := Jvm.LawKit.callS X0 hx (y := (⟨"com/example/credlib/credlib/policy/NameRule", "isPart", "(I)Z"⟩ : MethodName)) hown (mvT hZ (hw _ (List.mem_of_getElem? (i := 0) rfl))) (mvT hZ (hw _ (List.mem_of_getElem? (i := 1) rfl))) (mvT hZ (hw _ (List.mem_of_getElem? (i := 2) rfl))) (mvT hZ (hw _ (List.mem_of_getElem? (i := 3) rfl))) (by decide) (backOf (W := 0) (own_isPart_0 l Z a0 hw [] wENTITY wROLE_NAME G h0 n0 O0 p1 aa0 aa1 aa2 aa3 aa4 aa5 aa6 aa7 aa8 aa9 aa10) hZ (hw _ (List.mem_of_getElem? (i := 3) rfl)) (hw _ (List.mem_of_getElem? (i := 2) rfl)) (by decide) (by decide)) (g := (mkF m 17 #[.val (.int p1), .val (.int p2), .val (.int p1), .unset] [(.int p1)])) rfl (by rw [hml]; rfl) (argsL := [(.int p1)]) (rest := []) (lenOf own_pd_0 rfl) rfl (by show 2 * 0 + _ ≤ _; exact Nat.le_of_eq rfl) (hb hby at_17) (fun _ _ => ⟨rfl, e0, (by decide : 0 + 0 ≤ _), (by decide : 0 + 0 ≤ _)⟩)
  dsimp only [Pt.U, Pt.locs, Pt.cells, Pt.slots] at X1 l1 y1 z1 st1 hQ1
  subst l1 y1 z1
  obtain ⟨rfl, N1q, e1⟩ := hQ1
  have N1 := Fr.app N0 N1q
  obtain ⟨_, _, ⟨T2, L2, k2, n2⟩, -, X2, ⟨Lc2, hQ2, l2, y2, z2⟩, st2⟩ := Jvm.LawKit.callS X1 hx (y := (⟨"com/example/credlib/credlib/policy/NameRuleIsPartPinLaw", "expected", "(I)Z"⟩ : MethodName)) hown (mvT hZ (hw _ (List.mem_of_getElem? (i := 4) rfl))) (mvT hZ (hw _ (List.mem_of_getElem? (i := 5) rfl))) (mvT hZ (hw _ (List.mem_of_getElem? (i := 6) rfl))) (mvT hZ (hw _ (List.mem_of_getElem? (i := 7) rfl))) (by decide) (backOf (W := 1) (own_expected_1 l Z a0 hw [] wENTITY wROLE_NAME G h0 n0 O0 p1 aa0 aa1 aa2 aa3 aa4 aa5 aa6 aa7 aa8 aa9 aa10) hZ (hw _ (List.mem_of_getElem? (i := 7) rfl)) (hw _ (List.mem_of_getElem? (i := 6) rfl)) (by decide) (by decide)) (g := (mkF m 23 #[.val (.int p1), .val (.int p2), .val (.int p1), .val (.int (0 : Int32))] [(.int p1), (.int (0 : Int32))])) rfl (by rw [hml]; rfl) (argsL := [(.int p1)]) (rest := [(.int (0 : Int32))]) (lenOf own_pd_0 rfl) rfl (by show 2 * 0 + _ ≤ _; exact Nat.le_of_eq rfl) (hb hby at_23) (fun _ _ => ⟨rfl, e1, (by decide : 0 + 0 ≤ _), (by decide : 0 + 0 ≤ _)⟩)
  dsimp only [Pt.U, Pt.locs, Pt.cells, Pt.slots] at X2 l2 y2 z2 st2 hQ2
  subst l2 y2 z2
  obtain ⟨rfl, N2q, e2⟩ := hQ2
  have N2 := Fr.app N1 N2q
  obtain ⟨T3, X3, e3, st3⟩ := getS2 X2 hx hZ hown (host := "") (Or.inl (hw _ (List.mem_of_getElem? (i := 9) rfl))) Via.refl e2 (G.1.ext O0.2) (g := (mkF m 31 #[.val (.int p1), .val (.int p2), .val (.int p1), .val (.int (0 : Int32))] [])) rfl (hb hby at_31)
  obtain ⟨cq4, kq4, q4a, q4b, q4c⟩ := isOf hZ e3 (G.2.1.ext O0.2)
  obtain ⟨_, _, ⟨T4, L4, k4, n4⟩, -, X4, ⟨Lc4, hQ4, l4, y4, z4⟩, st4⟩ := X3.virtualBack hx (y := (⟨"com/example/credlib/credlib/policy/NameRule", "isStart", "(I)Z"⟩ : MethodName)) (z := (⟨"com/example/credlib/credlib/policy/NameRule", "isStart", "(I)Z"⟩ : MethodName)) hown (mvT hZ (hw _ (List.mem_of_getElem? (i := 11) rfl))) (mvT hZ (hw _ (List.mem_of_getElem? (i := 12) rfl))) (notFace_of_selects (args := #[]) (mvT hZ (hw _ (List.mem_of_getElem? (i := 14) rfl)))) (mvT hZ (hw _ (List.mem_of_getElem? (i := 14) rfl))) (mvT hZ (hw _ (List.mem_of_getElem? (i := 13) rfl))) (by decide) (backOf (W := 0) (own_isStart_2 l Z a0 hw [] wENTITY wROLE_NAME G h0 n0 O0 p1 aa0 aa1 aa2 aa3 aa4 aa5 aa6 aa7 aa8 aa9 aa10) hZ (hw _ (List.mem_of_getElem? (i := 15) rfl)) (hw _ (List.mem_of_getElem? (i := 2) rfl)) (by decide) (by decide)) q4a q4c (g := (mkF m 35 #[.val (.int p1), .val (.int p2), .val (.int p1), .val (.int (0 : Int32))] [(.int p1), (.ref wENTITY)])) rfl (by rw [hml]; rfl) (Steps.refl _) (argsL := [(.int p1)]) (rest := []) (lenOf own_pd_0 rfl) rfl (by show 2 * 0 + _ ≤ _; exact Nat.le_of_eq rfl) (hb hby at_35) (fun _ _ => ⟨rfl, e3, (by decide : 0 + 0 ≤ _), (by decide : 0 + 0 ≤ _)⟩)
  dsimp only [Pt.U, Pt.locs, Pt.cells, Pt.slots] at X4 l4 y4 z4 st4 hQ4
  subst l4 y4 z4
  obtain ⟨rfl, N4q, e4⟩ := hQ4
  have N4 := Fr.app N2 N4q
  obtain ⟨T5, X5, e5, st5⟩ := getS2 X4 hx hZ hown (host := "") (Or.inl (hw _ (List.mem_of_getElem? (i := 18) rfl))) Via.refl e4 (G.2.2.1.ext O0.2) (g := (mkF m 47 #[.val (.int p1), .val (.int p2), .val (.int p1), .val (.int (0 : Int32))] [])) rfl (hb hby at_47)
  obtain ⟨cq6, kq6, q6a, q6b, q6c⟩ := isOf hZ e5 (G.2.2.2.1.ext O0.2)
  obtain ⟨_, _, ⟨T6, L6, k6, n6⟩, -, X6, ⟨Lc6, hQ6, l6, y6, z6⟩, st6⟩ := X5.virtualBack hx (y := (⟨"com/example/credlib/credlib/policy/NameRule", "isStart", "(I)Z"⟩ : MethodName)) (z := (⟨"com/example/credlib/credlib/policy/NameRule", "isStart", "(I)Z"⟩ : MethodName)) hown (mvT hZ (hw _ (List.mem_of_getElem? (i := 11) rfl))) (mvT hZ (hw _ (List.mem_of_getElem? (i := 12) rfl))) (notFace_of_selects (args := #[]) (mvT hZ (hw _ (List.mem_of_getElem? (i := 14) rfl)))) (mvT hZ (hw _ (List.mem_of_getElem? (i := 14) rfl))) (mvT hZ (hw _ (List.mem_of_getElem? (i := 13) rfl))) (by decide) (backOf (W := 0) (own_isStart_3 l Z a0 hw [] wENTITY wROLE_NAME G h0 n0 O0 p1 aa0 aa1 aa2 aa3 aa4 aa5 aa6 aa7 aa8 aa9 aa10) hZ (hw _ (List.mem_of_getElem? (i := 15) rfl)) (hw _ (List.mem_of_getElem? (i := 2) rfl)) (by decide) (by decide)) q6a q6c (g := (mkF m 51 #[.val (.int p1), .val (.int p2), .val (.int p1), .val (.int (0 : Int32))] [(.int p1), (.ref wROLE_NAME)])) rfl (by rw [hml]; rfl) (Steps.refl _) (argsL := [(.int p1)]) (rest := []) (lenOf own_pd_0 rfl) rfl (by show 2 * 0 + _ ≤ _; exact Nat.le_of_eq rfl) (hb hby at_51) (fun _ _ => ⟨rfl, e5, (by decide : 0 + 0 ≤ _), (by decide : 0 + 0 ≤ _)⟩)
  dsimp only [Pt.U, Pt.locs, Pt.cells, Pt.slots] at X6 l6 y6 z6 st6 hQ6
  subst l6 y6 z6
  obtain ⟨rfl, N6q, e6⟩ := hQ6
  have N6 := Fr.app N4 N6q
  obtain ⟨fs, hr, hrun, hended, hW, hsame⟩ := X6.leave (v := some (.int (1 : Int32))) (fun h => by rw [Bd.returns] at h; cases h)
  refine ⟨_, _, pre0 _ ?_, hrun, hended, _, _, rfl, ?_, ⟨_, rfl⟩, hW, hsame.mono (by decide) (by decide)⟩
  · show Steps p.tables e below (s₁.setTop (mkF m 0 #[.val (.int p1), .val (.int p2), .unset, .unset] [])) _
    refine XS.iloadN X0.here hx rfl (hb hby at_0) rfl ?_
    show Steps p.tables e below (s₁.setTop (mkF m 1 #[.val (.int p1), .val (.int p2), .unset, .unset] [(.int p2)])) _
    refine XS.iconst X0.here hx rfl (hb hby at_1) ?_
    show Steps p.tables e below (s₁.setTop (mkF m 2 #[.val (.int p1), .val (.int p2), .unset, .unset] [(.int (1 : Int32)), (.int p2)])) _
    refine XS.iand X0.here hx rfl (hb hby at_2) rfl ?_
    show Steps p.tables e below (s₁.setTop (mkF m 3 #[.val (.int p1), .val (.int p2), .unset, .unset] [(.int (p2 &&& (1 : Int32)))])) _
    refine XS.ifNo X0.here hx rfl (hb hby at_3) rfl ((if0 _ _).trans (feq (he : ¬ ((p2 &&& (1 : Int32)) = (0 : Int32)))).1) ?_
    show Steps p.tables e below (s₁.setTop (mkF m 6 #[.val (.int p1), .val (.int p2), .unset, .unset] [])) _
    refine XS.iloadN X0.here hx rfl (hb hby at_6) rfl ?_
    show Steps p.tables e below (s₁.setTop (mkF m 7 #[.val (.int p1), .val (.int p2), .unset, .unset] [(.int p1)])) _
    refine XS.goto X0.here hx rfl (pc0 := 7) (pc' := 15) rfl (hb hby at_7) (by decide) (by decide) ?_
    show Steps p.tables e below (s₁.setTop (mkF m 15 #[.val (.int p1), .val (.int p2), .unset, .unset] [(.int p1)])) _
    refine XS.istoreN X0.here hx rfl (hb hby at_15) rfl (l' := #[.val (.int p1), .val (.int p2), .val (.int p1), .unset]) rfl ?_
    show Steps p.tables e below (s₁.setTop (mkF m 16 #[.val (.int p1), .val (.int p2), .val (.int p1), .unset] [])) _
    refine XS.iloadN X0.here hx rfl (hb hby at_16) rfl ?_
    show Steps p.tables e below (s₁.setTop (mkF m 17 #[.val (.int p1), .val (.int p2), .val (.int p1), .unset] [(.int p1)])) _
    refine st1 _ ?_
    show Steps p.tables e below (T1.setTop (mkF m 20 #[.val (.int p1), .val (.int p2), .val (.int p1), .unset] [(.int (0 : Int32))])) _
    refine XS.istoreN X1.here hx rfl (hb hby at_20) rfl (l' := #[.val (.int p1), .val (.int p2), .val (.int p1), .val (.int (0 : Int32))]) rfl ?_
    show Steps p.tables e below (T1.setTop (mkF m 21 #[.val (.int p1), .val (.int p2), .val (.int p1), .val (.int (0 : Int32))] [])) _
    refine XS.iloadN X1.here hx rfl (hb hby at_21) rfl ?_
    show Steps p.tables e below (T1.setTop (mkF m 22 #[.val (.int p1), .val (.int p2), .val (.int p1), .val (.int (0 : Int32))] [(.int (0 : Int32))])) _
    refine XS.iloadN X1.here hx rfl (hb hby at_22) rfl ?_
    show Steps p.tables e below (T1.setTop (mkF m 23 #[.val (.int p1), .val (.int p2), .val (.int p1), .val (.int (0 : Int32))] [(.int p1), (.int (0 : Int32))])) _
    refine st2 _ ?_
    show Steps p.tables e below (T2.setTop (mkF m 26 #[.val (.int p1), .val (.int p2), .val (.int p1), .val (.int (0 : Int32))] [(.int (0 : Int32)), (.int (0 : Int32))])) _
    refine XS.icmpYes X2.here hx rfl (pc0 := 26) (pc' := 31) rfl (hb hby at_26) rfl (by decide) (by decide) (by decide) ?_
    show Steps p.tables e below (T2.setTop (mkF m 31 #[.val (.int p1), .val (.int p2), .val (.int p1), .val (.int (0 : Int32))] [])) _
    refine st3 _ ?_
    show Steps p.tables e below (T3.setTop (mkF m 34 #[.val (.int p1), .val (.int p2), .val (.int p1), .val (.int (0 : Int32))] [(.ref wENTITY)])) _
    refine XS.iloadN X3.here hx rfl (hb hby at_34) rfl ?_
    show Steps p.tables e below (T3.setTop (mkF m 35 #[.val (.int p1), .val (.int p2), .val (.int p1), .val (.int (0 : Int32))] [(.int p1), (.ref wENTITY)])) _
    refine st4.trans ?_
    show Steps p.tables e below (T4.setTop (mkF m 38 #[.val (.int p1), .val (.int p2), .val (.int p1), .val (.int (0 : Int32))] [(.int (0 : Int32))])) _
    refine XS.ifYes X4.here hx rfl (pc0 := 38) (pc' := 47) rfl (hb hby at_38) rfl (by decide) (by decide) (by decide) ?_
    show Steps p.tables e below (T4.setTop (mkF m 47 #[.val (.int p1), .val (.int p2), .val (.int p1), .val (.int (0 : Int32))] [])) _
    refine st5 _ ?_
    show Steps p.tables e below (T5.setTop (mkF m 50 #[.val (.int p1), .val (.int p2), .val (.int p1), .val (.int (0 : Int32))] [(.ref wROLE_NAME)])) _
    refine XS.iloadN X5.here hx rfl (hb hby at_50) rfl ?_
    show Steps p.tables e below (T5.setTop (mkF m 51 #[.val (.int p1), .val (.int p2), .val (.int p1), .val (.int (0 : Int32))] [(.int p1), (.ref wROLE_NAME)])) _
    refine st6.trans ?_
    show Steps p.tables e below (T6.setTop (mkF m 54 #[.val (.int p1), .val (.int p2), .val (.int p1), .val (.int (0 : Int32))] [(.int (0 : Int32))])) _
    refine XS.ifYes X6.here hx rfl (pc0 := 54) (pc' := 63) rfl (hb hby at_54) rfl (by decide) (by decide) (by decide) ?_
    show Steps p.tables e below (T6.setTop (mkF m 63 #[.val (.int p1), .val (.int p2), .val (.int p1), .val (.int (0 : Int32))] [])) _
    refine XS.iconst X6.here hx rfl (hb hby at_63) ?_
    show Steps p.tables e below (T6.setTop (mkF m 64 #[.val (.int p1), .val (.int p2), .val (.int p1), .val (.int (0 : Int32))] [(.int (1 : Int32))])) _
    exact retN X6 hx (t := .boolean) Bd.returns (by simp) (hb hby at_64) hr
  · exact ⟨rfl, N6⟩
set_option maxRecDepth 65536 in
set_option maxHeartbeats 40000000 in
theorem own_law_11 (l : Launch) (Z : State) (a0 : Array Value) (hw : ∀ d ∈ tables_1, d.before a0 Z = true) (ws : List Jvm.Cond) (wENTITY : Addr) (wROLE_NAME : Addr) (G : OwnG Z wENTITY wROLE_NAME) (h0 : Heap) (n0 : Nat) (O0 : Old Z n0 h0) (p1 : Int32) (p2 : Int32) (he : ¬ ((p2 &&& (1 : Int32)) = (0 : Int32))) (aa0 : p1 < (65 : Int32)) (aa1 : ¬ ((90 : Int32) < p1)) (aa2 : p1 < (97 : Int32)) (aa3 : ¬ ((122 : Int32) < p1)) (aa4 : ¬ (p1 < (48 : Int32))) (aa5 : ¬ ((57 : Int32) < p1)) (aa6 : ¬ (p1 = (95 : Int32))) (aa7 : (p1 ||| (32 : Int32)) < (97 : Int32)) (aa8 : ¬ ((122 : Int32) < (p1 ||| (32 : Int32)))) (aa9 : ¬ ((lcmpW ((p1.toInt64) - (48 : Int64)) (0 : Int64)) < (0 : Int32))) (aa10 : (lcmpW ((p1.toInt64) - (48 : Int64)) (10 : Int64)) < (0 : Int32)) :
    MetFree l x (head1 (Jvm.Cond.code x code maxLocals ret :: ws) room_1) (fun a U => a = #[(.int p1), (.int p2)] ∧ Z.Warmed39 U.vm ∧ U.heap = h0) (fun _ _ _ _ _ => True) (fun _ U o U' => ∃ v L, o = .returned v ∧ (v = some (.int 1) ∧ Fr n0 L) ∧ FrameEnd U o U' L room_1.cells room_1.slots) := by
  refine MetFree.of_bodySF (plainFor_of_name own_pn_0) hisR ?_
  intro p e s m args below meth c s₁ Bd hml0 hP hK
  obtain ⟨rfl, hZ, hh⟩ := hP
  have hx := Bd.exec
  have hby := Bd.bytes
  have hml : c.maxLocals = 4 := hml0
  have hown : s.vm.findClass "com/example/credlib/credlib/policy/NameRuleIsPartPinLaw" = some m.cls := findClass_of_methodNamed Bd.named
  have hnm := (name_of_methodNamed Bd.named Bd.method).1
  have X0 : Stand p l e room_1 s m #[(.int p1), (.int p2)] below meth c s₁ [] 0 0 := Stand.of_body Bd
  have e0 : s₁.heap = h0 := by rw [← hh, Bd.state]; rfl
  have N0 := Fr.nil n0
  have pre0 : ∀ t, Steps p.tables e below (s₁.setTop (mkF m 0 #[.val (.int p1), .val (.int p2), .unset, .unset] [])) t → Steps p.tables e below (s₁.setTop (entryFrame m #[(.int p1), (.int p2)] maxLocals)) t := fun t k => castTop (own_ef_0_II m p1 p2) k
  obtain ⟨_, _, ⟨T1, L1, k1, n1⟩, -, X1, ⟨Lc1, hQ1, l1, y1, z1⟩, st1⟩ := Jvm.LawKit.callS X0 hx (y := (⟨"com/example/credlib/credlib/policy/NameRule", "isPart", "(I)Z"⟩ : MethodName)) hown (mvT hZ (hw _ (List.mem_of_getElem? (i := 0) rfl))) (mvT hZ (hw _ (List.mem_of_getElem? (i := 1) rfl))) (mvT hZ (hw _ (List.mem_of_getElem? (i := 2) rfl))) (mvT hZ (hw _ (List.mem_of_getElem? (i := 3) rfl))) (by decide) (backOf (W := 0) (own_isPart_4 l Z a0 hw [] wENTITY wROLE_NAME G h0 n0 O0 p1 aa0 aa1 aa2 aa3 aa4 aa5 aa6 aa7 aa8 aa9 aa10) hZ (hw _ (List.mem_of_getElem? (i := 3) rfl)) (hw _ (List.mem_of_getElem? (i := 2) rfl)) (by decide) (by decide)) (g := (mkF m 17 #[.val (.int p1), .val (.int p2), .val (.int p1), .unset] [(.int p1)])) rfl (by rw [hml]; rfl) (argsL := [(.int p1)]) (rest := []) (lenOf own_pd_0 rfl) rfl (by show 2 * 0 + _ ≤ _; exact Nat.le_of_eq rfl) (hb hby at_17) (fun _ _ => ⟨rfl, e0, (by decide : 0 + 0 ≤ _), (by decide : 0 + 0 ≤ _)⟩)
  dsimp only [Pt.U, Pt.locs, Pt.cells, Pt.slots] at X1 l1 y1 z1 st1 hQ1
  subst l1 y1 z1
  obtain ⟨rfl, N1q, e1⟩ := hQ1
  have N1 := Fr.app N0 N1q
  obtain ⟨_, _, ⟨T2, L2, k2, n2⟩, -, X2, ⟨Lc2, hQ2, l2, y2, z2⟩, st2⟩ := Jvm.LawKit.callS X1 hx (y := (⟨"com/example/credlib/credlib/policy/NameRuleIsPartPinLaw", "expected", "(I)Z"⟩ : MethodName)) hown (mvT hZ (hw _ (List.mem_of_getElem? (i := 4) rfl))) (mvT hZ (hw _ (List.mem_of_getElem? (i := 5) rfl))) (mvT hZ (hw _ (List.mem_of_getElem? (i := 6) rfl))) (mvT hZ (hw _ (List.mem_of_getElem? (i := 7) rfl))) (by decide) (backOf (W := 1) (own_expected_5 l Z a0 hw [] wENTITY wROLE_NAME G h0 n0 O0 p1 aa0 aa1 aa2 aa3 aa4 aa5 aa6 aa7 aa8 aa9 aa10) hZ (hw _ (List.mem_of_getElem? (i := 7) rfl)) (hw _ (List.mem_of_getElem? (i := 6) rfl)) (by decide) (by decide)) (g := (mkF m 23 #[.val (.int p1), .val (.int p2), .val (.int p1), .val (.int (1 : Int32))] [(.int p1), (.int (1 : Int32))])) rfl (by rw [hml]; rfl) (argsL := [(.int p1)]) (rest := [(.int (1 : Int32))]) (lenOf own_pd_0 rfl) rfl (by show 2 * 0 + _ ≤ _; exact Nat.le_of_eq rfl) (hb hby at_23) (fun _ _ => ⟨rfl, e1, (by decide : 0 + 0 ≤ _), (by decide : 0 + 0 ≤ _)⟩)
  dsimp only [Pt.U, Pt.locs, Pt.cells, Pt.slots] at X2 l2 y2 z2 st2 hQ2
  subst l2 y2 z2
  obtain ⟨rfl, N2q, e2⟩ := hQ2
  have N2 := Fr.app N1 N2q
  obtain ⟨T3, X3, e3, st3⟩ := getS2 X2 hx hZ hown (host := "") (Or.inl (hw _ (List.mem_of_getElem? (i := 9) rfl))) Via.refl e2 (G.1.ext O0.2) (g := (mkF m 31 #[.val (.int p1), .val (.int p2), .val (.int p1), .val (.int (1 : Int32))] [])) rfl (hb hby at_31)
  obtain ⟨cq4, kq4, q4a, q4b, q4c⟩ := isOf hZ e3 (G.2.1.ext O0.2)
  obtain ⟨_, _, ⟨T4, L4, k4, n4⟩, -, X4, ⟨Lc4, hQ4, l4, y4, z4⟩, st4⟩ := X3.virtualBack hx (y := (⟨"com/example/credlib/credlib/policy/NameRule", "isStart", "(I)Z"⟩ : MethodName)) (z := (⟨"com/example/credlib/credlib/policy/NameRule", "isStart", "(I)Z"⟩ : MethodName)) hown (mvT hZ (hw _ (List.mem_of_getElem? (i := 11) rfl))) (mvT hZ (hw _ (List.mem_of_getElem? (i := 12) rfl))) (notFace_of_selects (args := #[]) (mvT hZ (hw _ (List.mem_of_getElem? (i := 14) rfl)))) (mvT hZ (hw _ (List.mem_of_getElem? (i := 14) rfl))) (mvT hZ (hw _ (List.mem_of_getElem? (i := 13) rfl))) (by decide) (backOf (W := 0) (own_isStart_6 l Z a0 hw [] wENTITY wROLE_NAME G h0 n0 O0 p1 aa0 aa1 aa2 aa3 aa4 aa5 aa6 aa7 aa8 aa9 aa10) hZ (hw _ (List.mem_of_getElem? (i := 15) rfl)) (hw _ (List.mem_of_getElem? (i := 2) rfl)) (by decide) (by decide)) q4a q4c (g := (mkF m 35 #[.val (.int p1), .val (.int p2), .val (.int p1), .val (.int (1 : Int32))] [(.int p1), (.ref wENTITY)])) rfl (by rw [hml]; rfl) (Steps.refl _) (argsL := [(.int p1)]) (rest := []) (lenOf own_pd_0 rfl) rfl (by show 2 * 0 + _ ≤ _; exact Nat.le_of_eq rfl) (hb hby at_35) (fun _ _ => ⟨rfl, e3, (by decide : 0 + 0 ≤ _), (by decide : 0 + 0 ≤ _)⟩)
  dsimp only [Pt.U, Pt.locs, Pt.cells, Pt.slots] at X4 l4 y4 z4 st4 hQ4
  subst l4 y4 z4
  obtain ⟨rfl, N4q, e4⟩ := hQ4
  have N4 := Fr.app N2 N4q
  obtain ⟨T5, X5, e5, st5⟩ := getS2 X4 hx hZ hown (host := "") (Or.inl (hw _ (List.mem_of_getElem? (i := 18) rfl))) Via.refl e4 (G.2.2.1.ext O0.2) (g := (mkF m 47 #[.val (.int p1), .val (.int p2), .val (.int p1), .val (.int (1 : Int32))] [])) rfl (hb hby at_47)
  obtain ⟨cq6, kq6, q6a, q6b, q6c⟩ := isOf hZ e5 (G.2.2.2.1.ext O0.2)
  obtain ⟨_, _, ⟨T6, L6, k6, n6⟩, -, X6, ⟨Lc6, hQ6, l6, y6, z6⟩, st6⟩ := X5.virtualBack hx (y := (⟨"com/example/credlib/credlib/policy/NameRule", "isStart", "(I)Z"⟩ : MethodName)) (z := (⟨"com/example/credlib/credlib/policy/NameRule", "isStart", "(I)Z"⟩ : MethodName)) hown (mvT hZ (hw _ (List.mem_of_getElem? (i := 11) rfl))) (mvT hZ (hw _ (List.mem_of_getElem? (i := 12) rfl))) (notFace_of_selects (args := #[]) (mvT hZ (hw _ (List.mem_of_getElem? (i := 14) rfl)))) (mvT hZ (hw _ (List.mem_of_getElem? (i := 14) rfl))) (mvT hZ (hw _ (List.mem_of_getElem? (i := 13) rfl))) (by decide) (backOf (W := 0) (own_isStart_7 l Z a0 hw [] wENTITY wROLE_NAME G h0 n0 O0 p1 aa0 aa1 aa2 aa3 aa4 aa5 aa6 aa7 aa8 aa9 aa10) hZ (hw _ (List.mem_of_getElem? (i := 15) rfl)) (hw _ (List.mem_of_getElem? (i := 2) rfl)) (by decide) (by decide)) q6a q6c (g := (mkF m 51 #[.val (.int p1), .val (.int p2), .val (.int p1), .val (.int (1 : Int32))] [(.int p1), (.ref wROLE_NAME)])) rfl (by rw [hml]; rfl) (Steps.refl _) (argsL := [(.int p1)]) (rest := []) (lenOf own_pd_0 rfl) rfl (by show 2 * 0 + _ ≤ _; exact Nat.le_of_eq rfl) (hb hby at_51) (fun _ _ => ⟨rfl, e5, (by decide : 0 + 0 ≤ _), (by decide : 0 + 0 ≤ _)⟩)
  dsimp only [Pt.U, Pt.locs, Pt.cells, Pt.slots] at X6 l6 y6 z6 st6 hQ6
  subst l6 y6 z6
  obtain ⟨rfl, N6q, e6⟩ := hQ6
  have N6 := Fr.app N4 N6q
  obtain ⟨fs, hr, hrun, hended, hW, hsame⟩ := X6.leave (v := some (.int (1 : Int32))) (fun h => by rw [Bd.returns] at h; cases h)
  refine ⟨_, _, pre0 _ ?_, hrun, hended, _, _, rfl, ?_, ⟨_, rfl⟩, hW, hsame.mono (by decide) (by decide)⟩
  · show Steps p.tables e below (s₁.setTop (mkF m 0 #[.val (.int p1), .val (.int p2), .unset, .unset] [])) _
    refine XS.iloadN X0.here hx rfl (hb hby at_0) rfl ?_
    show Steps p.tables e below (s₁.setTop (mkF m 1 #[.val (.int p1), .val (.int p2), .unset, .unset] [(.int p2)])) _
    refine XS.iconst X0.here hx rfl (hb hby at_1) ?_
    show Steps p.tables e below (s₁.setTop (mkF m 2 #[.val (.int p1), .val (.int p2), .unset, .unset] [(.int (1 : Int32)), (.int p2)])) _
    refine XS.iand X0.here hx rfl (hb hby at_2) rfl ?_
    show Steps p.tables e below (s₁.setTop (mkF m 3 #[.val (.int p1), .val (.int p2), .unset, .unset] [(.int (p2 &&& (1 : Int32)))])) _
    refine XS.ifNo X0.here hx rfl (hb hby at_3) rfl ((if0 _ _).trans (feq (he : ¬ ((p2 &&& (1 : Int32)) = (0 : Int32)))).1) ?_
    show Steps p.tables e below (s₁.setTop (mkF m 6 #[.val (.int p1), .val (.int p2), .unset, .unset] [])) _
    refine XS.iloadN X0.here hx rfl (hb hby at_6) rfl ?_
    show Steps p.tables e below (s₁.setTop (mkF m 7 #[.val (.int p1), .val (.int p2), .unset, .unset] [(.int p1)])) _
    refine XS.goto X0.here hx rfl (pc0 := 7) (pc' := 15) rfl (hb hby at_7) (by decide) (by decide) ?_
    show Steps p.tables e below (s₁.setTop (mkF m 15 #[.val (.int p1), .val (.int p2), .unset, .unset] [(.int p1)])) _
    refine XS.istoreN X0.here hx rfl (hb hby at_15) rfl (l' := #[.val (.int p1), .val (.int p2), .val (.int p1), .unset]) rfl ?_
    show Steps p.tables e below (s₁.setTop (mkF m 16 #[.val (.int p1), .val (.int p2), .val (.int p1), .unset] [])) _
    refine XS.iloadN X0.here hx rfl (hb hby at_16) rfl ?_
    show Steps p.tables e below (s₁.setTop (mkF m 17 #[.val (.int p1), .val (.int p2), .val (.int p1), .unset] [(.int p1)])) _
    refine st1 _ ?_
    show Steps p.tables e below (T1.setTop (mkF m 20 #[.val (.int p1), .val (.int p2), .val (.int p1), .unset] [(.int (1 : Int32))])) _
    refine XS.istoreN X1.here hx rfl (hb hby at_20) rfl (l' := #[.val (.int p1), .val (.int p2), .val (.int p1), .val (.int (1 : Int32))]) rfl ?_
    show Steps p.tables e below (T1.setTop (mkF m 21 #[.val (.int p1), .val (.int p2), .val (.int p1), .val (.int (1 : Int32))] [])) _
    refine XS.iloadN X1.here hx rfl (hb hby at_21) rfl ?_
    show Steps p.tables e below (T1.setTop (mkF m 22 #[.val (.int p1), .val (.int p2), .val (.int p1), .val (.int (1 : Int32))] [(.int (1 : Int32))])) _
    refine XS.iloadN X1.here hx rfl (hb hby at_22) rfl ?_
    show Steps p.tables e below (T1.setTop (mkF m 23 #[.val (.int p1), .val (.int p2), .val (.int p1), .val (.int (1 : Int32))] [(.int p1), (.int (1 : Int32))])) _
    refine st2 _ ?_
    show Steps p.tables e below (T2.setTop (mkF m 26 #[.val (.int p1), .val (.int p2), .val (.int p1), .val (.int (1 : Int32))] [(.int (1 : Int32)), (.int (1 : Int32))])) _
    refine XS.icmpYes X2.here hx rfl (pc0 := 26) (pc' := 31) rfl (hb hby at_26) rfl (by decide) (by decide) (by decide) ?_
    show Steps p.tables e below (T2.setTop (mkF m 31 #[.val (.int p1), .val (.int p2), .val (.int p1), .val (.int (1 : Int32))] [])) _
    refine st3 _ ?_
    show Steps p.tables e below (T3.setTop (mkF m 34 #[.val (.int p1), .val (.int p2), .val (.int p1), .val (.int (1 : Int32))] [(.ref wENTITY)])) _
    refine XS.iloadN X3.here hx rfl (hb hby at_34) rfl ?_
    show Steps p.tables e below (T3.setTop (mkF m 35 #[.val (.int p1), .val (.int p2), .val (.int p1), .val (.int (1 : Int32))] [(.int p1), (.ref wENTITY)])) _
    refine st4.trans ?_
    show Steps p.tables e below (T4.setTop (mkF m 38 #[.val (.int p1), .val (.int p2), .val (.int p1), .val (.int (1 : Int32))] [(.int (0 : Int32))])) _
    refine XS.ifYes X4.here hx rfl (pc0 := 38) (pc' := 47) rfl (hb hby at_38) rfl (by decide) (by decide) (by decide) ?_
    show Steps p.tables e below (T4.setTop (mkF m 47 #[.val (.int p1), .val (.int p2), .val (.int p1), .val (.int (1 : Int32))] [])) _
    refine st5 _ ?_
    show Steps p.tables e below (T5.setTop (mkF m 50 #[.val (.int p1), .val (.int p2), .val (.int p1), .val (.int (1 : Int32))] [(.ref wROLE_NAME)])) _
    refine XS.iloadN X5.here hx rfl (hb hby at_50) rfl ?_
    show Steps p.tables e below (T5.setTop (mkF m 51 #[.val (.int p1), .val (.int p2), .val (.int p1), .val (.int (1 : Int32))] [(.int p1), (.ref wROLE_NAME)])) _
    refine st6.trans ?_
    show Steps p.tables e below (T6.setTop (mkF m 54 #[.val (.int p1), .val (.int p2), .val (.int p1), .val (.int (1 : Int32))] [(.int (0 : Int32))])) _
    refine XS.ifYes X6.here hx rfl (pc0 := 54) (pc' := 63) rfl (hb hby at_54) rfl (by decide) (by decide) (by decide) ?_
    show Steps p.tables e below (T6.setTop (mkF m 63 #[.val (.int p1), .val (.int p2), .val (.int p1), .val (.int (1 : Int32))] [])) _
    refine XS.iconst X6.here hx rfl (hb hby at_63) ?_
    show Steps p.tables e below (T6.setTop (mkF m 64 #[.val (.int p1), .val (.int p2), .val (.int p1), .val (.int (1 : Int32))] [(.int (1 : Int32))])) _
    exact retN X6 hx (t := .boolean) Bd.returns (by simp) (hb hby at_64) hr
  · exact ⟨rfl, N6⟩
set_option maxRecDepth 65536 in
set_option maxHeartbeats 40000000 in
theorem own_law_12 (l : Launch) (Z : State) (a0 : Array Value) (hw : ∀ d ∈ tables_1, d.before a0 Z = true) (ws : List Jvm.Cond) (wENTITY : Addr) (wROLE_NAME : Addr) (G : OwnG Z wENTITY wROLE_NAME) (h0 : Heap) (n0 : Nat) (O0 : Old Z n0 h0) (p1 : Int32) (p2 : Int32) (he : ¬ ((p2 &&& (1 : Int32)) = (0 : Int32))) (aa0 : p1 < (65 : Int32)) (aa1 : ¬ ((90 : Int32) < p1)) (aa2 : p1 < (97 : Int32)) (aa3 : ¬ ((122 : Int32) < p1)) (aa4 : ¬ (p1 < (48 : Int32))) (aa5 : (57 : Int32) < p1) (aa6 : ¬ (p1 = (95 : Int32))) (aa7 : (p1 ||| (32 : Int32)) < (97 : Int32)) (aa8 : ¬ ((122 : Int32) < (p1 ||| (32 : Int32)))) (aa9 : ¬ ((lcmpW ((p1.toInt64) - (48 : Int64)) (0 : Int64)) < (0 : Int32))) (aa10 : ¬ ((lcmpW ((p1.toInt64) - (48 : Int64)) (10 : Int64)) < (0 : Int32))) :
    MetFree l x (head1 (Jvm.Cond.code x code maxLocals ret :: ws) room_1) (fun a U => a = #[(.int p1), (.int p2)] ∧ Z.Warmed39 U.vm ∧ U.heap = h0) (fun _ _ _ _ _ => True) (fun _ U o U' => ∃ v L, o = .returned v ∧ (v = some (.int 1) ∧ Fr n0 L) ∧ FrameEnd U o U' L room_1.cells room_1.slots) := by
  refine MetFree.of_bodySF (plainFor_of_name own_pn_0) hisR ?_
  intro p e s m args below meth c s₁ Bd hml0 hP hK
  obtain ⟨rfl, hZ, hh⟩ := hP
  have hx := Bd.exec
  have hby := Bd.bytes
  have hml : c.maxLocals = 4 := hml0
  have hown : s.vm.findClass "com/example/credlib/credlib/policy/NameRuleIsPartPinLaw" = some m.cls := findClass_of_methodNamed Bd.named
  have hnm := (name_of_methodNamed Bd.named Bd.method).1
  have X0 : Stand p l e room_1 s m #[(.int p1), (.int p2)] below meth c s₁ [] 0 0 := Stand.of_body Bd
  have e0 : s₁.heap = h0 := by rw [← hh, Bd.state]; rfl
  have N0 := Fr.nil n0
  have pre0 : ∀ t, Steps p.tables e below (s₁.setTop (mkF m 0 #[.val (.int p1), .val (.int p2), .unset, .unset] [])) t → Steps p.tables e below (s₁.setTop (entryFrame m #[(.int p1), (.int p2)] maxLocals)) t := fun t k => castTop (own_ef_0_II m p1 p2) k
  obtain ⟨_, _, ⟨T1, L1, k1, n1⟩, -, X1, ⟨Lc1, hQ1, l1, y1, z1⟩, st1⟩ := Jvm.LawKit.callS X0 hx (y := (⟨"com/example/credlib/credlib/policy/NameRule", "isPart", "(I)Z"⟩ : MethodName)) hown (mvT hZ (hw _ (List.mem_of_getElem? (i := 0) rfl))) (mvT hZ (hw _ (List.mem_of_getElem? (i := 1) rfl))) (mvT hZ (hw _ (List.mem_of_getElem? (i := 2) rfl))) (mvT hZ (hw _ (List.mem_of_getElem? (i := 3) rfl))) (by decide) (backOf (W := 0) (own_isPart_8 l Z a0 hw [] wENTITY wROLE_NAME G h0 n0 O0 p1 aa0 aa1 aa2 aa3 aa4 aa5 aa6 aa7 aa8 aa9 aa10) hZ (hw _ (List.mem_of_getElem? (i := 3) rfl)) (hw _ (List.mem_of_getElem? (i := 2) rfl)) (by decide) (by decide)) (g := (mkF m 17 #[.val (.int p1), .val (.int p2), .val (.int p1), .unset] [(.int p1)])) rfl (by rw [hml]; rfl) (argsL := [(.int p1)]) (rest := []) (lenOf own_pd_0 rfl) rfl (by show 2 * 0 + _ ≤ _; exact Nat.le_of_eq rfl) (hb hby at_17) (fun _ _ => ⟨rfl, e0, (by decide : 0 + 0 ≤ _), (by decide : 0 + 0 ≤ _)⟩)
  dsimp only [Pt.U, Pt.locs, Pt.cells, Pt.slots] at X1 l1 y1 z1 st1 hQ1
  subst l1 y1 z1
  obtain ⟨rfl, N1q, e1⟩ := hQ1
  have N1 := Fr.app N0 N1q
  obtain ⟨_, _, ⟨T2, L2, k2, n2⟩, -, X2, ⟨Lc2, hQ2, l2, y2, z2⟩, st2⟩ := Jvm.LawKit.callS X1 hx (y := (⟨"com/example/credlib/credlib/policy/NameRuleIsPartPinLaw", "expected", "(I)Z"⟩ : MethodName)) hown (mvT hZ (hw _ (List.mem_of_getElem? (i := 4) rfl))) (mvT hZ (hw _ (List.mem_of_getElem? (i := 5) rfl))) (mvT hZ (hw _ (List.mem_of_getElem? (i := 6) rfl))) (mvT hZ (hw _ (List.mem_of_getElem? (i := 7) rfl))) (by decide) (backOf (W := 1) (own_expected_9 l Z a0 hw [] wENTITY wROLE_NAME G h0 n0 O0 p1 aa0 aa1 aa2 aa3 aa4 aa5 aa6 aa7 aa8 aa9 aa10) hZ (hw _ (List.mem_of_getElem? (i := 7) rfl)) (hw _ (List.mem_of_getElem? (i := 6) rfl)) (by decide) (by decide)) (g := (mkF m 23 #[.val (.int p1), .val (.int p2), .val (.int p1), .val (.int (0 : Int32))] [(.int p1), (.int (0 : Int32))])) rfl (by rw [hml]; rfl) (argsL := [(.int p1)]) (rest := [(.int (0 : Int32))]) (lenOf own_pd_0 rfl) rfl (by show 2 * 0 + _ ≤ _; exact Nat.le_of_eq rfl) (hb hby at_23) (fun _ _ => ⟨rfl, e1, (by decide : 0 + 0 ≤ _), (by decide : 0 + 0 ≤ _)⟩)
  dsimp only [Pt.U, Pt.locs, Pt.cells, Pt.slots] at X2 l2 y2 z2 st2 hQ2
  subst l2 y2 z2
  obtain ⟨rfl, N2q, e2⟩ := hQ2
  have N2 := Fr.app N1 N2q
  obtain ⟨T3, X3, e3, st3⟩ := getS2 X2 hx hZ hown (host := "") (Or.inl (hw _ (List.mem_of_getElem? (i := 9) rfl))) Via.refl e2 (G.1.ext O0.2) (g := (mkF m 31 #[.val (.int p1), .val (.int p2), .val (.int p1), .val (.int (0 : Int32))] [])) rfl (hb hby at_31)
  obtain ⟨cq4, kq4, q4a, q4b, q4c⟩ := isOf hZ e3 (G.2.1.ext O0.2)
  obtain ⟨_, _, ⟨T4, L4, k4, n4⟩, -, X4, ⟨Lc4, hQ4, l4, y4, z4⟩, st4⟩ := X3.virtualBack hx (y := (⟨"com/example/credlib/credlib/policy/NameRule", "isStart", "(I)Z"⟩ : MethodName)) (z := (⟨"com/example/credlib/credlib/policy/NameRule", "isStart", "(I)Z"⟩ : MethodName)) hown (mvT hZ (hw _ (List.mem_of_getElem? (i := 11) rfl))) (mvT hZ (hw _ (List.mem_of_getElem? (i := 12) rfl))) (notFace_of_selects (args := #[]) (mvT hZ (hw _ (List.mem_of_getElem? (i := 14) rfl)))) (mvT hZ (hw _ (List.mem_of_getElem? (i := 14) rfl))) (mvT hZ (hw _ (List.mem_of_getElem? (i := 13) rfl))) (by decide) (backOf (W := 0) (own_isStart_10 l Z a0 hw [] wENTITY wROLE_NAME G h0 n0 O0 p1 aa0 aa1 aa2 aa3 aa4 aa5 aa6 aa7 aa8 aa9 aa10) hZ (hw _ (List.mem_of_getElem? (i := 15) rfl)) (hw _ (List.mem_of_getElem? (i := 2) rfl)) (by decide) (by decide)) q4a q4c (g := (mkF m 35 #[.val (.int p1), .val (.int p2), .val (.int p1), .val (.int (0 : Int32))] [(.int p1), (.ref wENTITY)])) rfl (by rw [hml]; rfl) (Steps.refl _) (argsL := [(.int p1)]) (rest := []) (lenOf own_pd_0 rfl) rfl (by show 2 * 0 + _ ≤ _; exact Nat.le_of_eq rfl) (hb hby at_35) (fun _ _ => ⟨rfl, e3, (by decide : 0 + 0 ≤ _), (by decide : 0 + 0 ≤ _)⟩)
  dsimp only [Pt.U, Pt.locs, Pt.cells, Pt.slots] at X4 l4 y4 z4 st4 hQ4
  subst l4 y4 z4
  obtain ⟨rfl, N4q, e4⟩ := hQ4
  have N4 := Fr.app N2 N4q
  obtain ⟨T5, X5, e5, st5⟩ := getS2 X4 hx hZ hown (host := "") (Or.inl (hw _ (List.mem_of_getElem? (i := 18) rfl))) Via.refl e4 (G.2.2.1.ext O0.2) (g := (mkF m 47 #[.val (.int p1), .val (.int p2), .val (.int p1), .val (.int (0 : Int32))] [])) rfl (hb hby at_47)
  obtain ⟨cq6, kq6, q6a, q6b, q6c⟩ := isOf hZ e5 (G.2.2.2.1.ext O0.2)
  obtain ⟨_, _, ⟨T6, L6, k6, n6⟩, -, X6, ⟨Lc6, hQ6, l6, y6, z6⟩, st6⟩ := X5.virtualBack hx (y := (⟨"com/example/credlib/credlib/policy/NameRule", "isStart", "(I)Z"⟩ : MethodName)) (z := (⟨"com/example/credlib/credlib/policy/NameRule", "isStart", "(I)Z"⟩ : MethodName)) hown (mvT hZ (hw _ (List.mem_of_getElem? (i := 11) rfl))) (mvT hZ (hw _ (List.mem_of_getElem? (i := 12) rfl))) (notFace_of_selects (args := #[]) (mvT hZ (hw _ (List.mem_of_getElem? (i := 14) rfl)))) (mvT hZ (hw _ (List.mem_of_getElem? (i := 14) rfl))) (mvT hZ (hw _ (List.mem_of_getElem? (i := 13) rfl))) (by decide) (backOf (W := 0) (own_isStart_11 l Z a0 hw [] wENTITY wROLE_NAME G h0 n0 O0 p1 aa0 aa1 aa2 aa3 aa4 aa5 aa6 aa7 aa8 aa9 aa10) hZ (hw _ (List.mem_of_getElem? (i := 15) rfl)) (hw _ (List.mem_of_getElem? (i := 2) rfl)) (by decide) (by decide)) q6a q6c (g := (mkF m 51 #[.val (.int p1), .val (.int p2), .val (.int p1), .val (.int (0 : Int32))] [(.int p1), (.ref wROLE_NAME)])) rfl (by rw [hml]; rfl) (Steps.refl _) (argsL := [(.int p1)]) (rest := []) (lenOf own_pd_0 rfl) rfl (by show 2 * 0 + _ ≤ _; exact Nat.le_of_eq rfl) (hb hby at_51) (fun _ _ => ⟨rfl, e5, (by decide : 0 + 0 ≤ _), (by decide : 0 + 0 ≤ _)⟩)
  dsimp only [Pt.U, Pt.locs, Pt.cells, Pt.slots] at X6 l6 y6 z6 st6 hQ6
  subst l6 y6 z6
  obtain ⟨rfl, N6q, e6⟩ := hQ6
  have N6 := Fr.app N4 N6q
  obtain ⟨fs, hr, hrun, hended, hW, hsame⟩ := X6.leave (v := some (.int (1 : Int32))) (fun h => by rw [Bd.returns] at h; cases h)
  refine ⟨_, _, pre0 _ ?_, hrun, hended, _, _, rfl, ?_, ⟨_, rfl⟩, hW, hsame.mono (by decide) (by decide)⟩
  · show Steps p.tables e below (s₁.setTop (mkF m 0 #[.val (.int p1), .val (.int p2), .unset, .unset] [])) _
    refine XS.iloadN X0.here hx rfl (hb hby at_0) rfl ?_
    show Steps p.tables e below (s₁.setTop (mkF m 1 #[.val (.int p1), .val (.int p2), .unset, .unset] [(.int p2)])) _
    refine XS.iconst X0.here hx rfl (hb hby at_1) ?_
    show Steps p.tables e below (s₁.setTop (mkF m 2 #[.val (.int p1), .val (.int p2), .unset, .unset] [(.int (1 : Int32)), (.int p2)])) _
    refine XS.iand X0.here hx rfl (hb hby at_2) rfl ?_
    show Steps p.tables e below (s₁.setTop (mkF m 3 #[.val (.int p1), .val (.int p2), .unset, .unset] [(.int (p2 &&& (1 : Int32)))])) _
    refine XS.ifNo X0.here hx rfl (hb hby at_3) rfl ((if0 _ _).trans (feq (he : ¬ ((p2 &&& (1 : Int32)) = (0 : Int32)))).1) ?_
    show Steps p.tables e below (s₁.setTop (mkF m 6 #[.val (.int p1), .val (.int p2), .unset, .unset] [])) _
    refine XS.iloadN X0.here hx rfl (hb hby at_6) rfl ?_
    show Steps p.tables e below (s₁.setTop (mkF m 7 #[.val (.int p1), .val (.int p2), .unset, .unset] [(.int p1)])) _
    refine XS.goto X0.here hx rfl (pc0 := 7) (pc' := 15) rfl (hb hby at_7) (by decide) (by decide) ?_
    show Steps p.tables e below (s₁.setTop (mkF m 15 #[.val (.int p1), .val (.int p2), .unset, .unset] [(.int p1)])) _
    refine XS.istoreN X0.here hx rfl (hb hby at_15) rfl (l' := #[.val (.int p1), .val (.int p2), .val (.int p1), .unset]) rfl ?_
    show Steps p.tables e below (s₁.setTop (mkF m 16 #[.val (.int p1), .val (.int p2), .val (.int p1), .unset] [])) _
    refine XS.iloadN X0.here hx rfl (hb hby at_16) rfl ?_
    show Steps p.tables e below (s₁.setTop (mkF m 17 #[.val (.int p1), .val (.int p2), .val (.int p1), .unset] [(.int p1)])) _
    refine st1 _ ?_
    show Steps p.tables e below (T1.setTop (mkF m 20 #[.val (.int p1), .val (.int p2), .val (.int p1), .unset] [(.int (0 : Int32))])) _
    refine XS.istoreN X1.here hx rfl (hb hby at_20) rfl (l' := #[.val (.int p1), .val (.int p2), .val (.int p1), .val (.int (0 : Int32))]) rfl ?_
    show Steps p.tables e below (T1.setTop (mkF m 21 #[.val (.int p1), .val (.int p2), .val (.int p1), .val (.int (0 : Int32))] [])) _
    refine XS.iloadN X1.here hx rfl (hb hby at_21) rfl ?_
    show Steps p.tables e below (T1.setTop (mkF m 22 #[.val (.int p1), .val (.int p2), .val (.int p1), .val (.int (0 : Int32))] [(.int (0 : Int32))])) _
    refine XS.iloadN X1.here hx rfl (hb hby at_22) rfl ?_
    show Steps p.tables e below (T1.setTop (mkF m 23 #[.val (.int p1), .val (.int p2), .val (.int p1), .val (.int (0 : Int32))] [(.int p1), (.int (0 : Int32))])) _
    refine st2 _ ?_
    show Steps p.tables e below (T2.setTop (mkF m 26 #[.val (.int p1), .val (.int p2), .val (.int p1), .val (.int (0 : Int32))] [(.int (0 : Int32)), (.int (0 : Int32))])) _
    refine XS.icmpYes X2.here hx rfl (pc0 := 26) (pc' := 31) rfl (hb hby at_26) rfl (by decide) (by decide) (by decide) ?_
    show Steps p.tables e below (T2.setTop (mkF m 31 #[.val (.int p1), .val (.int p2), .val (.int p1), .val (.int (0 : Int32))] [])) _
    refine st3 _ ?_
    show Steps p.tables e below (T3.setTop (mkF m 34 #[.val (.int p1), .val (.int p2), .val (.int p1), .val (.int (0 : Int32))] [(.ref wENTITY)])) _
    refine XS.iloadN X3.here hx rfl (hb hby at_34) rfl ?_
    show Steps p.tables e below (T3.setTop (mkF m 35 #[.val (.int p1), .val (.int p2), .val (.int p1), .val (.int (0 : Int32))] [(.int p1), (.ref wENTITY)])) _
    refine st4.trans ?_
    show Steps p.tables e below (T4.setTop (mkF m 38 #[.val (.int p1), .val (.int p2), .val (.int p1), .val (.int (0 : Int32))] [(.int (0 : Int32))])) _
    refine XS.ifYes X4.here hx rfl (pc0 := 38) (pc' := 47) rfl (hb hby at_38) rfl (by decide) (by decide) (by decide) ?_
    show Steps p.tables e below (T4.setTop (mkF m 47 #[.val (.int p1), .val (.int p2), .val (.int p1), .val (.int (0 : Int32))] [])) _
    refine st5 _ ?_
    show Steps p.tables e below (T5.setTop (mkF m 50 #[.val (.int p1), .val (.int p2), .val (.int p1), .val (.int (0 : Int32))] [(.ref wROLE_NAME)])) _
    refine XS.iloadN X5.here hx rfl (hb hby at_50) rfl ?_
    show Steps p.tables e below (T5.setTop (mkF m 51 #[.val (.int p1), .val (.int p2), .val (.int p1), .val (.int (0 : Int32))] [(.int p1), (.ref wROLE_NAME)])) _
    refine st6.trans ?_
    show Steps p.tables e below (T6.setTop (mkF m 54 #[.val (.int p1), .val (.int p2), .val (.int p1), .val (.int (0 : Int32))] [(.int (0 : Int32))])) _
    refine XS.ifYes X6.here hx rfl (pc0 := 54) (pc' := 63) rfl (hb hby at_54) rfl (by decide) (by decide) (by decide) ?_
    show Steps p.tables e below (T6.setTop (mkF m 63 #[.val (.int p1), .val (.int p2), .val (.int p1), .val (.int (0 : Int32))] [])) _
    refine XS.iconst X6.here hx rfl (hb hby at_63) ?_
    show Steps p.tables e below (T6.setTop (mkF m 64 #[.val (.int p1), .val (.int p2), .val (.int p1), .val (.int (0 : Int32))] [(.int (1 : Int32))])) _
    exact retN X6 hx (t := .boolean) Bd.returns (by simp) (hb hby at_64) hr
  · exact ⟨rfl, N6⟩
set_option maxRecDepth 65536 in
set_option maxHeartbeats 40000000 in
theorem own_law_13 (l : Launch) (Z : State) (a0 : Array Value) (hw : ∀ d ∈ tables_1, d.before a0 Z = true) (ws : List Jvm.Cond) (wENTITY : Addr) (wROLE_NAME : Addr) (G : OwnG Z wENTITY wROLE_NAME) (h0 : Heap) (n0 : Nat) (O0 : Old Z n0 h0) (p1 : Int32) (p2 : Int32) (he : ¬ ((p2 &&& (1 : Int32)) = (0 : Int32))) (aa0 : ¬ (p1 < (65 : Int32))) (aa1 : ¬ ((90 : Int32) < p1)) (aa2 : p1 < (97 : Int32)) (aa3 : ¬ ((122 : Int32) < p1)) (aa4 : ¬ (p1 < (48 : Int32))) (aa5 : (57 : Int32) < p1) (aa6 : ¬ (p1 = (95 : Int32))) (aa7 : ¬ ((p1 ||| (32 : Int32)) < (97 : Int32))) (aa8 : ¬ ((122 : Int32) < (p1 ||| (32 : Int32)))) (aa9 : ¬ ((lcmpW ((p1.toInt64) - (48 : Int64)) (0 : Int64)) < (0 : Int32))) (aa10 : ¬ ((lcmpW ((p1.toInt64) - (48 : Int64)) (10 : Int64)) < (0 : Int32))) :
    MetFree l x (head1 (Jvm.Cond.code x code maxLocals ret :: ws) room_1) (fun a U => a = #[(.int p1), (.int p2)] ∧ Z.Warmed39 U.vm ∧ U.heap = h0) (fun _ _ _ _ _ => True) (fun _ U o U' => ∃ v L, o = .returned v ∧ (v = some (.int 1) ∧ Fr n0 L) ∧ FrameEnd U o U' L room_1.cells room_1.slots) := by
  refine MetFree.of_bodySF (plainFor_of_name own_pn_0) hisR ?_
  intro p e s m args below meth c s₁ Bd hml0 hP hK
  obtain ⟨rfl, hZ, hh⟩ := hP
  have hx := Bd.exec
  have hby := Bd.bytes
  have hml : c.maxLocals = 4 := hml0
  have hown : s.vm.findClass "com/example/credlib/credlib/policy/NameRuleIsPartPinLaw" = some m.cls := findClass_of_methodNamed Bd.named
  have hnm := (name_of_methodNamed Bd.named Bd.method).1
  have X0 : Stand p l e room_1 s m #[(.int p1), (.int p2)] below meth c s₁ [] 0 0 := Stand.of_body Bd
  have e0 : s₁.heap = h0 := by rw [← hh, Bd.state]; rfl
  have N0 := Fr.nil n0
  have pre0 : ∀ t, Steps p.tables e below (s₁.setTop (mkF m 0 #[.val (.int p1), .val (.int p2), .unset, .unset] [])) t → Steps p.tables e below (s₁.setTop (entryFrame m #[(.int p1), (.int p2)] maxLocals)) t := fun t k => castTop (own_ef_0_II m p1 p2) k
  obtain ⟨_, _, ⟨T1, L1, k1, n1⟩, -, X1, ⟨Lc1, hQ1, l1, y1, z1⟩, st1⟩ := Jvm.LawKit.callS X0 hx (y := (⟨"com/example/credlib/credlib/policy/NameRule", "isPart", "(I)Z"⟩ : MethodName)) hown (mvT hZ (hw _ (List.mem_of_getElem? (i := 0) rfl))) (mvT hZ (hw _ (List.mem_of_getElem? (i := 1) rfl))) (mvT hZ (hw _ (List.mem_of_getElem? (i := 2) rfl))) (mvT hZ (hw _ (List.mem_of_getElem? (i := 3) rfl))) (by decide) (backOf (W := 0) (own_isPart_12 l Z a0 hw [] wENTITY wROLE_NAME G h0 n0 O0 p1 aa0 aa1 aa2 aa3 aa4 aa5 aa6 aa7 aa8 aa9 aa10) hZ (hw _ (List.mem_of_getElem? (i := 3) rfl)) (hw _ (List.mem_of_getElem? (i := 2) rfl)) (by decide) (by decide)) (g := (mkF m 17 #[.val (.int p1), .val (.int p2), .val (.int p1), .unset] [(.int p1)])) rfl (by rw [hml]; rfl) (argsL := [(.int p1)]) (rest := []) (lenOf own_pd_0 rfl) rfl (by show 2 * 0 + _ ≤ _; exact Nat.le_of_eq rfl) (hb hby at_17) (fun _ _ => ⟨rfl, e0, (by decide : 0 + 0 ≤ _), (by decide : 0 + 0 ≤ _)⟩)
  dsimp only [Pt.U, Pt.locs, Pt.cells, Pt.slots] at X1 l1 y1 z1 st1 hQ1
  subst l1 y1 z1
  obtain ⟨rfl, N1q, e1⟩ := hQ1
  have N1 := Fr.app N0 N1q
  obtain ⟨_, _, ⟨T2, L2, k2, n2⟩, -, X2, ⟨Lc2, hQ2, l2, y2, z2⟩, st2⟩ := Jvm.LawKit.callS X1 hx (y := (⟨"com/example/credlib/credlib/policy/NameRuleIsPartPinLaw", "expected", "(I)Z"⟩ : MethodName)) hown (mvT hZ (hw _ (List.mem_of_getElem? (i := 4) rfl))) (mvT hZ (hw _ (List.mem_of_getElem? (i := 5) rfl))) (mvT hZ (hw _ (List.mem_of_getElem? (i := 6) rfl))) (mvT hZ (hw _ (List.mem_of_getElem? (i := 7) rfl))) (by decide) (backOf (W := 1) (own_expected_13 l Z a0 hw [] wENTITY wROLE_NAME G h0 n0 O0 p1 aa0 aa1 aa2 aa3 aa4 aa5 aa6 aa7 aa8 aa9 aa10) hZ (hw _ (List.mem_of_getElem? (i := 7) rfl)) (hw _ (List.mem_of_getElem? (i := 6) rfl)) (by decide) (by decide)) (g := (mkF m 23 #[.val (.int p1), .val (.int p2), .val (.int p1), .val (.int (1 : Int32))] [(.int p1), (.int (1 : Int32))])) rfl (by rw [hml]; rfl) (argsL := [(.int p1)]) (rest := [(.int (1 : Int32))]) (lenOf own_pd_0 rfl) rfl (by show 2 * 0 + _ ≤ _; exact Nat.le_of_eq rfl) (hb hby at_23) (fun _ _ => ⟨rfl, e1, (by decide : 0 + 0 ≤ _), (by decide : 0 + 0 ≤ _)⟩)
  dsimp only [Pt.U, Pt.locs, Pt.cells, Pt.slots] at X2 l2 y2 z2 st2 hQ2
  subst l2 y2 z2
  obtain ⟨rfl, N2q, e2⟩ := hQ2
  have N2 := Fr.app N1 N2q
  obtain ⟨T3, X3, e3, st3⟩ := getS2 X2 hx hZ hown (host := "") (Or.inl (hw _ (List.mem_of_getElem? (i := 9) rfl))) Via.refl e2 (G.1.ext O0.2) (g := (mkF m 31 #[.val (.int p1), .val (.int p2), .val (.int p1), .val (.int (1 : Int32))] [])) rfl (hb hby at_31)
  obtain ⟨cq4, kq4, q4a, q4b, q4c⟩ := isOf hZ e3 (G.2.1.ext O0.2)
  obtain ⟨_, _, ⟨T4, L4, k4, n4⟩, -, X4, ⟨Lc4, hQ4, l4, y4, z4⟩, st4⟩ := X3.virtualBack hx (y := (⟨"com/example/credlib/credlib/policy/NameRule", "isStart", "(I)Z"⟩ : MethodName)) (z := (⟨"com/example/credlib/credlib/policy/NameRule", "isStart", "(I)Z"⟩ : MethodName)) hown (mvT hZ (hw _ (List.mem_of_getElem? (i := 11) rfl))) (mvT hZ (hw _ (List.mem_of_getElem? (i := 12) rfl))) (notFace_of_selects (args := #[]) (mvT hZ (hw _ (List.mem_of_getElem? (i := 14) rfl)))) (mvT hZ (hw _ (List.mem_of_getElem? (i := 14) rfl))) (mvT hZ (hw _ (List.mem_of_getElem? (i := 13) rfl))) (by decide) (backOf (W := 0) (own_isStart_14 l Z a0 hw [] wENTITY wROLE_NAME G h0 n0 O0 p1 aa0 aa1 aa2 aa3 aa4 aa5 aa6 aa7 aa8 aa9 aa10) hZ (hw _ (List.mem_of_getElem? (i := 15) rfl)) (hw _ (List.mem_of_getElem? (i := 2) rfl)) (by decide) (by decide)) q4a q4c (g := (mkF m 35 #[.val (.int p1), .val (.int p2), .val (.int p1), .val (.int (1 : Int32))] [(.int p1), (.ref wENTITY)])) rfl (by rw [hml]; rfl) (Steps.refl _) (argsL := [(.int p1)]) (rest := []) (lenOf own_pd_0 rfl) rfl (by show 2 * 0 + _ ≤ _; exact Nat.le_of_eq rfl) (hb hby at_35) (fun _ _ => ⟨rfl, e3, (by decide : 0 + 0 ≤ _), (by decide : 0 + 0 ≤ _)⟩)
  dsimp only [Pt.U, Pt.locs, Pt.cells, Pt.slots] at X4 l4 y4 z4 st4 hQ4
  subst l4 y4 z4
  obtain ⟨rfl, N4q, e4⟩ := hQ4
  have N4 := Fr.app N2 N4q
  obtain ⟨T5, X5, e5, st5⟩ := getS2 X4 hx hZ hown (host := "") (Or.inl (hw _ (List.mem_of_getElem? (i := 18) rfl))) Via.refl e4 (G.2.2.1.ext O0.2) (g := (mkF m 47 #[.val (.int p1), .val (.int p2), .val (.int p1), .val (.int (1 : Int32))] [])) rfl (hb hby at_47)
  obtain ⟨cq6, kq6, q6a, q6b, q6c⟩ := isOf hZ e5 (G.2.2.2.1.ext O0.2)
  obtain ⟨_, _, ⟨T6, L6, k6, n6⟩, -, X6, ⟨Lc6, hQ6, l6, y6, z6⟩, st6⟩ := X5.virtualBack hx (y := (⟨"com/example/credlib/credlib/policy/NameRule", "isStart", "(I)Z"⟩ : MethodName)) (z := (⟨"com/example/credlib/credlib/policy/NameRule", "isStart", "(I)Z"⟩ : MethodName)) hown (mvT hZ (hw _ (List.mem_of_getElem? (i := 11) rfl))) (mvT hZ (hw _ (List.mem_of_getElem? (i := 12) rfl))) (notFace_of_selects (args := #[]) (mvT hZ (hw _ (List.mem_of_getElem? (i := 14) rfl)))) (mvT hZ (hw _ (List.mem_of_getElem? (i := 14) rfl))) (mvT hZ (hw _ (List.mem_of_getElem? (i := 13) rfl))) (by decide) (backOf (W := 0) (own_isStart_15 l Z a0 hw [] wENTITY wROLE_NAME G h0 n0 O0 p1 aa0 aa1 aa2 aa3 aa4 aa5 aa6 aa7 aa8 aa9 aa10) hZ (hw _ (List.mem_of_getElem? (i := 15) rfl)) (hw _ (List.mem_of_getElem? (i := 2) rfl)) (by decide) (by decide)) q6a q6c (g := (mkF m 51 #[.val (.int p1), .val (.int p2), .val (.int p1), .val (.int (1 : Int32))] [(.int p1), (.ref wROLE_NAME)])) rfl (by rw [hml]; rfl) (Steps.refl _) (argsL := [(.int p1)]) (rest := []) (lenOf own_pd_0 rfl) rfl (by show 2 * 0 + _ ≤ _; exact Nat.le_of_eq rfl) (hb hby at_51) (fun _ _ => ⟨rfl, e5, (by decide : 0 + 0 ≤ _), (by decide : 0 + 0 ≤ _)⟩)
  dsimp only [Pt.U, Pt.locs, Pt.cells, Pt.slots] at X6 l6 y6 z6 st6 hQ6
  subst l6 y6 z6
  obtain ⟨rfl, N6q, e6⟩ := hQ6
  have N6 := Fr.app N4 N6q
  obtain ⟨fs, hr, hrun, hended, hW, hsame⟩ := X6.leave (v := some (.int (1 : Int32))) (fun h => by rw [Bd.returns] at h; cases h)
  refine ⟨_, _, pre0 _ ?_, hrun, hended, _, _, rfl, ?_, ⟨_, rfl⟩, hW, hsame.mono (by decide) (by decide)⟩
  · show Steps p.tables e below (s₁.setTop (mkF m 0 #[.val (.int p1), .val (.int p2), .unset, .unset] [])) _
    refine XS.iloadN X0.here hx rfl (hb hby at_0) rfl ?_
    show Steps p.tables e below (s₁.setTop (mkF m 1 #[.val (.int p1), .val (.int p2), .unset, .unset] [(.int p2)])) _
    refine XS.iconst X0.here hx rfl (hb hby at_1) ?_
    show Steps p.tables e below (s₁.setTop (mkF m 2 #[.val (.int p1), .val (.int p2), .unset, .unset] [(.int (1 : Int32)), (.int p2)])) _
    refine XS.iand X0.here hx rfl (hb hby at_2) rfl ?_
    show Steps p.tables e below (s₁.setTop (mkF m 3 #[.val (.int p1), .val (.int p2), .unset, .unset] [(.int (p2 &&& (1 : Int32)))])) _
    refine XS.ifNo X0.here hx rfl (hb hby at_3) rfl ((if0 _ _).trans (feq (he : ¬ ((p2 &&& (1 : Int32)) = (0 : Int32)))).1) ?_
    show Steps p.tables e below (s₁.setTop (mkF m 6 #[.val (.int p1), .val (.int p2), .unset, .unset] [])) _
    refine XS.iloadN X0.here hx rfl (hb hby at_6) rfl ?_
    show Steps p.tables e below (s₁.setTop (mkF m 7 #[.val (.int p1), .val (.int p2), .unset, .unset] [(.int p1)])) _
    refine XS.goto X0.here hx rfl (pc0 := 7) (pc' := 15) rfl (hb hby at_7) (by decide) (by decide) ?_
    show Steps p.tables e below (s₁.setTop (mkF m 15 #[.val (.int p1), .val (.int p2), .unset, .unset] [(.int p1)])) _
    refine XS.istoreN X0.here hx rfl (hb hby at_15) rfl (l' := #[.val (.int p1), .val (.int p2), .val (.int p1), .unset]) rfl ?_
    show Steps p.tables e below (s₁.setTop (mkF m 16 #[.val (.int p1), .val (.int p2), .val (.int p1), .unset] [])) _
    refine XS.iloadN X0.here hx rfl (hb hby at_16) rfl ?_
    show Steps p.tables e below (s₁.setTop (mkF m 17 #[.val (.int p1), .val (.int p2), .val (.int p1), .unset] [(.int p1)])) _
    refine st1 _ ?_
    show Steps p.tables e below (T1.setTop (mkF m 20 #[.val (.int p1), .val (.int p2), .val (.int p1), .unset] [(.int (1 : Int32))])) _
    refine XS.istoreN X1.here hx rfl (hb hby at_20) rfl (l' := #[.val (.int p1), .val (.int p2), .val (.int p1), .val (.int (1 : Int32))]) rfl ?_
    show Steps p.tables e below (T1.setTop (mkF m 21 #[.val (.int p1), .val (.int p2), .val (.int p1), .val (.int (1 : Int32))] [])) _
    refine XS.iloadN X1.here hx rfl (hb hby at_21) rfl ?_
    show Steps p.tables e below (T1.setTop (mkF m 22 #[.val (.int p1), .val (.int p2), .val (.int p1), .val (.int (1 : Int32))] [(.int (1 : Int32))])) _
    refine XS.iloadN X1.here hx rfl (hb hby at_22) rfl ?_
    show Steps p.tables e below (T1.setTop (mkF m 23 #[.val (.int p1), .val (.int p2), .val (.int p1), .val (.int (1 : Int32))] [(.int p1), (.int (1 : Int32))])) _
    refine st2 _ ?_
    show Steps p.tables e below (T2.setTop (mkF m 26 #[.val (.int p1), .val (.int p2), .val (.int p1), .val (.int (1 : Int32))] [(.int (1 : Int32)), (.int (1 : Int32))])) _
    refine XS.icmpYes X2.here hx rfl (pc0 := 26) (pc' := 31) rfl (hb hby at_26) rfl (by decide) (by decide) (by decide) ?_
    show Steps p.tables e below (T2.setTop (mkF m 31 #[.val (.int p1), .val (.int p2), .val (.int p1), .val (.int (1 : Int32))] [])) _
    refine st3 _ ?_
    show Steps p.tables e below (T3.setTop (mkF m 34 #[.val (.int p1), .val (.int p2), .val (.int p1), .val (.int (1 : Int32))] [(.ref wENTITY)])) _
    refine XS.iloadN X3.here hx rfl (hb hby at_34) rfl ?_
    show Steps p.tables e below (T3.setTop (mkF m 35 #[.val (.int p1), .val (.int p2), .val (.int p1), .val (.int (1 : Int32))] [(.int p1), (.ref wENTITY)])) _
    refine st4.trans ?_
    show Steps p.tables e below (T4.setTop (mkF m 38 #[.val (.int p1), .val (.int p2), .val (.int p1), .val (.int (1 : Int32))] [(.int (1 : Int32))])) _
    refine XS.ifNo X4.here hx rfl (hb hby at_38) rfl (by decide) ?_
    show Steps p.tables e below (T4.setTop (mkF m 41 #[.val (.int p1), .val (.int p2), .val (.int p1), .val (.int (1 : Int32))] [])) _
    refine XS.iloadN X4.here hx rfl (hb hby at_41) rfl ?_
    show Steps p.tables e below (T4.setTop (mkF m 42 #[.val (.int p1), .val (.int p2), .val (.int p1), .val (.int (1 : Int32))] [(.int (1 : Int32))])) _
    refine XS.ifYes X4.here hx rfl (pc0 := 42) (pc' := 47) rfl (hb hby at_42) rfl (by decide) (by decide) (by decide) ?_
    show Steps p.tables e below (T4.setTop (mkF m 47 #[.val (.int p1), .val (.int p2), .val (.int p1), .val (.int (1 : Int32))] [])) _
    refine st5 _ ?_
    show Steps p.tables e below (T5.setTop (mkF m 50 #[.val (.int p1), .val (.int p2), .val (.int p1), .val (.int (1 : Int32))] [(.ref wROLE_NAME)])) _
    refine XS.iloadN X5.here hx rfl (hb hby at_50) rfl ?_
    show Steps p.tables e below (T5.setTop (mkF m 51 #[.val (.int p1), .val (.int p2), .val (.int p1), .val (.int (1 : Int32))] [(.int p1), (.ref wROLE_NAME)])) _
    refine st6.trans ?_
    show Steps p.tables e below (T6.setTop (mkF m 54 #[.val (.int p1), .val (.int p2), .val (.int p1), .val (.int (1 : Int32))] [(.int (0 : Int32))])) _
    refine XS.ifYes X6.here hx rfl (pc0 := 54) (pc' := 63) rfl (hb hby at_54) rfl (by decide) (by decide) (by decide) ?_
    show Steps p.tables e below (T6.setTop (mkF m 63 #[.val (.int p1), .val (.int p2), .val (.int p1), .val (.int (1 : Int32))] [])) _
    refine XS.iconst X6.here hx rfl (hb hby at_63) ?_
    show Steps p.tables e below (T6.setTop (mkF m 64 #[.val (.int p1), .val (.int p2), .val (.int p1), .val (.int (1 : Int32))] [(.int (1 : Int32))])) _
    exact retN X6 hx (t := .boolean) Bd.returns (by simp) (hb hby at_64) hr
  · exact ⟨rfl, N6⟩
set_option maxRecDepth 65536 in
set_option maxHeartbeats 40000000 in
theorem own_law_14 (l : Launch) (Z : State) (a0 : Array Value) (hw : ∀ d ∈ tables_1, d.before a0 Z = true) (ws : List Jvm.Cond) (wENTITY : Addr) (wROLE_NAME : Addr) (G : OwnG Z wENTITY wROLE_NAME) (h0 : Heap) (n0 : Nat) (O0 : Old Z n0 h0) (p1 : Int32) (p2 : Int32) (he : ¬ ((p2 &&& (1 : Int32)) = (0 : Int32))) (aa0 : ¬ (p1 < (65 : Int32))) (aa1 : (90 : Int32) < p1) (aa2 : p1 < (97 : Int32)) (aa3 : ¬ ((122 : Int32) < p1)) (aa4 : ¬ (p1 < (48 : Int32))) (aa5 : (57 : Int32) < p1) (aa6 : ¬ (p1 = (95 : Int32))) (aa7 : ¬ ((p1 ||| (32 : Int32)) < (97 : Int32))) (aa8 : (122 : Int32) < (p1 ||| (32 : Int32))) (aa9 : ¬ ((lcmpW ((p1.toInt64) - (48 : Int64)) (0 : Int64)) < (0 : Int32))) (aa10 : ¬ ((lcmpW ((p1.toInt64) - (48 : Int64)) (10 : Int64)) < (0 : Int32))) :
    MetFree l x (head1 (Jvm.Cond.code x code maxLocals ret :: ws) room_1) (fun a U => a = #[(.int p1), (.int p2)] ∧ Z.Warmed39 U.vm ∧ U.heap = h0) (fun _ _ _ _ _ => True) (fun _ U o U' => ∃ v L, o = .returned v ∧ (v = some (.int 1) ∧ Fr n0 L) ∧ FrameEnd U o U' L room_1.cells room_1.slots) := by
  refine MetFree.of_bodySF (plainFor_of_name own_pn_0) hisR ?_
  intro p e s m args below meth c s₁ Bd hml0 hP hK
  obtain ⟨rfl, hZ, hh⟩ := hP
  have hx := Bd.exec
  have hby := Bd.bytes
  have hml : c.maxLocals = 4 := hml0
  have hown : s.vm.findClass "com/example/credlib/credlib/policy/NameRuleIsPartPinLaw" = some m.cls := findClass_of_methodNamed Bd.named
  have hnm := (name_of_methodNamed Bd.named Bd.method).1
  have X0 : Stand p l e room_1 s m #[(.int p1), (.int p2)] below meth c s₁ [] 0 0 := Stand.of_body Bd
  have e0 : s₁.heap = h0 := by rw [← hh, Bd.state]; rfl
  have N0 := Fr.nil n0
  have pre0 : ∀ t, Steps p.tables e below (s₁.setTop (mkF m 0 #[.val (.int p1), .val (.int p2), .unset, .unset] [])) t → Steps p.tables e below (s₁.setTop (entryFrame m #[(.int p1), (.int p2)] maxLocals)) t := fun t k => castTop (own_ef_0_II m p1 p2) k
  obtain ⟨_, _, ⟨T1, L1, k1, n1⟩, -, X1, ⟨Lc1, hQ1, l1, y1, z1⟩, st1⟩ := Jvm.LawKit.callS X0 hx (y := (⟨"com/example/credlib/credlib/policy/NameRule", "isPart", "(I)Z"⟩ : MethodName)) hown (mvT hZ (hw _ (List.mem_of_getElem? (i := 0) rfl))) (mvT hZ (hw _ (List.mem_of_getElem? (i := 1) rfl))) (mvT hZ (hw _ (List.mem_of_getElem? (i := 2) rfl))) (mvT hZ (hw _ (List.mem_of_getElem? (i := 3) rfl))) (by decide) (backOf (W := 0) (own_isPart_16 l Z a0 hw [] wENTITY wROLE_NAME G h0 n0 O0 p1 aa0 aa1 aa2 aa3 aa4 aa5 aa6 aa7 aa8 aa9 aa10) hZ (hw _ (List.mem_of_getElem? (i := 3) rfl)) (hw _ (List.mem_of_getElem? (i := 2) rfl)) (by decide) (by decide)) (g := (mkF m 17 #[.val (.int p1), .val (.int p2), .val (.int p1), .unset] [(.int p1)])) rfl (by rw [hml]; rfl) (argsL := [(.int p1)]) (rest := []) (lenOf own_pd_0 rfl) rfl (by show 2 * 0 + _ ≤ _; exact Nat.le_of_eq rfl) (hb hby at_17) (fun _ _ => ⟨rfl, e0, (by decide : 0 + 0 ≤ _), (by decide : 0 + 0 ≤ _)⟩)
  dsimp only [Pt.U, Pt.locs, Pt.cells, Pt.slots] at X1 l1 y1 z1 st1 hQ1
  subst l1 y1 z1
  obtain ⟨rfl, N1q, e1⟩ := hQ1
  have N1 := Fr.app N0 N1q
  obtain ⟨_, _, ⟨T2, L2, k2, n2⟩, -, X2, ⟨Lc2, hQ2, l2, y2, z2⟩, st2⟩ := Jvm.LawKit.callS X1 hx (y := (⟨"com/example/credlib/credlib/policy/NameRuleIsPartPinLaw", "expected", "(I)Z"⟩ : MethodName)) hown (mvT hZ (hw _ (List.mem_of_getElem? (i := 4) rfl))) (mvT hZ (hw _ (List.mem_of_getElem? (i := 5) rfl))) (mvT hZ (hw _ (List.mem_of_getElem? (i := 6) rfl))) (mvT hZ (hw _ (List.mem_of_getElem? (i := 7) rfl))) (by decide) (backOf (W := 1) (own_expected_17 l Z a0 hw [] wENTITY wROLE_NAME G h0 n0 O0 p1 aa0 aa1 aa2 aa3 aa4 aa5 aa6 aa7 aa8 aa9 aa10) hZ (hw _ (List.mem_of_getElem? (i := 7) rfl)) (hw _ (List.mem_of_getElem? (i := 6) rfl)) (by decide) (by decide)) (g := (mkF m 23 #[.val (.int p1), .val (.int p2), .val (.int p1), .val (.int (0 : Int32))] [(.int p1), (.int (0 : Int32))])) rfl (by rw [hml]; rfl) (argsL := [(.int p1)]) (rest := [(.int (0 : Int32))]) (lenOf own_pd_0 rfl) rfl (by show 2 * 0 + _ ≤ _; exact Nat.le_of_eq rfl) (hb hby at_23) (fun _ _ => ⟨rfl, e1, (by decide : 0 + 0 ≤ _), (by decide : 0 + 0 ≤ _)⟩)
  dsimp only [Pt.U, Pt.locs, Pt.cells, Pt.slots] at X2 l2 y2 z2 st2 hQ2
  subst l2 y2 z2
  obtain ⟨rfl, N2q, e2⟩ := hQ2
  have N2 := Fr.app N1 N2q
  obtain ⟨T3, X3, e3, st3⟩ := getS2 X2 hx hZ hown (host := "") (Or.inl (hw _ (List.mem_of_getElem? (i := 9) rfl))) Via.refl e2 (G.1.ext O0.2) (g := (mkF m 31 #[.val (.int p1), .val (.int p2), .val (.int p1), .val (.int (0 : Int32))] [])) rfl (hb hby at_31)
  obtain ⟨cq4, kq4, q4a, q4b, q4c⟩ := isOf hZ e3 (G.2.1.ext O0.2)
  obtain ⟨_, _, ⟨T4, L4, k4, n4⟩, -, X4, ⟨Lc4, hQ4, l4, y4, z4⟩, st4⟩ := X3.virtualBack hx (y := (⟨"com/example/credlib/credlib/policy/NameRule", "isStart", "(I)Z"⟩ : MethodName)) (z := (⟨"com/example/credlib/credlib/policy/NameRule", "isStart", "(I)Z"⟩ : MethodName)) hown (mvT hZ (hw _ (List.mem_of_getElem? (i := 11) rfl))) (mvT hZ (hw _ (List.mem_of_getElem? (i := 12) rfl))) (notFace_of_selects (args := #[]) (mvT hZ (hw _ (List.mem_of_getElem? (i := 14) rfl)))) (mvT hZ (hw _ (List.mem_of_getElem? (i := 14) rfl))) (mvT hZ (hw _ (List.mem_of_getElem? (i := 13) rfl))) (by decide) (backOf (W := 0) (own_isStart_18 l Z a0 hw [] wENTITY wROLE_NAME G h0 n0 O0 p1 aa0 aa1 aa2 aa3 aa4 aa5 aa6 aa7 aa8 aa9 aa10) hZ (hw _ (List.mem_of_getElem? (i := 15) rfl)) (hw _ (List.mem_of_getElem? (i := 2) rfl)) (by decide) (by decide)) q4a q4c (g := (mkF m 35 #[.val (.int p1), .val (.int p2), .val (.int p1), .val (.int (0 : Int32))] [(.int p1), (.ref wENTITY)])) rfl (by rw [hml]; rfl) (Steps.refl _) (argsL := [(.int p1)]) (rest := []) (lenOf own_pd_0 rfl) rfl (by show 2 * 0 + _ ≤ _; exact Nat.le_of_eq rfl) (hb hby at_35) (fun _ _ => ⟨rfl, e3, (by decide : 0 + 0 ≤ _), (by decide : 0 + 0 ≤ _)⟩)
  dsimp only [Pt.U, Pt.locs, Pt.cells, Pt.slots] at X4 l4 y4 z4 st4 hQ4
  subst l4 y4 z4
  obtain ⟨rfl, N4q, e4⟩ := hQ4
  have N4 := Fr.app N2 N4q
  obtain ⟨T5, X5, e5, st5⟩ := getS2 X4 hx hZ hown (host := "") (Or.inl (hw _ (List.mem_of_getElem? (i := 18) rfl))) Via.refl e4 (G.2.2.1.ext O0.2) (g := (mkF m 47 #[.val (.int p1), .val (.int p2), .val (.int p1), .val (.int (0 : Int32))] [])) rfl (hb hby at_47)
  obtain ⟨cq6, kq6, q6a, q6b, q6c⟩ := isOf hZ e5 (G.2.2.2.1.ext O0.2)
  obtain ⟨_, _, ⟨T6, L6, k6, n6⟩, -, X6, ⟨Lc6, hQ6, l6, y6, z6⟩, st6⟩ := X5.virtualBack hx (y := (⟨"com/example/credlib/credlib/policy/NameRule", "isStart", "(I)Z"⟩ : MethodName)) (z := (⟨"com/example/credlib/credlib/policy/NameRule", "isStart", "(I)Z"⟩ : MethodName)) hown (mvT hZ (hw _ (List.mem_of_getElem? (i := 11) rfl))) (mvT hZ (hw _ (List.mem_of_getElem? (i := 12) rfl))) (notFace_of_selects (args := #[]) (mvT hZ (hw _ (List.mem_of_getElem? (i := 14) rfl)))) (mvT hZ (hw _ (List.mem_of_getElem? (i := 14) rfl))) (mvT hZ (hw _ (List.mem_of_getElem? (i := 13) rfl))) (by decide) (backOf (W := 0) (own_isStart_19 l Z a0 hw [] wENTITY wROLE_NAME G h0 n0 O0 p1 aa0 aa1 aa2 aa3 aa4 aa5 aa6 aa7 aa8 aa9 aa10) hZ (hw _ (List.mem_of_getElem? (i := 15) rfl)) (hw _ (List.mem_of_getElem? (i := 2) rfl)) (by decide) (by decide)) q6a q6c (g := (mkF m 51 #[.val (.int p1), .val (.int p2), .val (.int p1), .val (.int (0 : Int32))] [(.int p1), (.ref wROLE_NAME)])) rfl (by rw [hml]; rfl) (Steps.refl _) (argsL := [(.int p1)]) (rest := []) (lenOf own_pd_0 rfl) rfl (by show 2 * 0 + _ ≤ _; exact Nat.le_of_eq rfl) (hb hby at_51) (fun _ _ => ⟨rfl, e5, (by decide : 0 + 0 ≤ _), (by decide : 0 + 0 ≤ _)⟩)
  dsimp only [Pt.U, Pt.locs, Pt.cells, Pt.slots] at X6 l6 y6 z6 st6 hQ6
  subst l6 y6 z6
  obtain ⟨rfl, N6q, e6⟩ := hQ6
  have N6 := Fr.app N4 N6q
  obtain ⟨fs, hr, hrun, hended, hW, hsame⟩ := X6.leave (v := some (.int (1 : Int32))) (fun h => by rw [Bd.returns] at h; cases h)
  refine ⟨_, _, pre0 _ ?_, hrun, hended, _, _, rfl, ?_, ⟨_, rfl⟩, hW, hsame.mono (by decide) (by decide)⟩
  · show Steps p.tables e below (s₁.setTop (mkF m 0 #[.val (.int p1), .val (.int p2), .unset, .unset] [])) _
    refine XS.iloadN X0.here hx rfl (hb hby at_0) rfl ?_
    show Steps p.tables e below (s₁.setTop (mkF m 1 #[.val (.int p1), .val (.int p2), .unset, .unset] [(.int p2)])) _
    refine XS.iconst X0.here hx rfl (hb hby at_1) ?_
    show Steps p.tables e below (s₁.setTop (mkF m 2 #[.val (.int p1), .val (.int p2), .unset, .unset] [(.int (1 : Int32)), (.int p2)])) _
    refine XS.iand X0.here hx rfl (hb hby at_2) rfl ?_
    show Steps p.tables e below (s₁.setTop (mkF m 3 #[.val (.int p1), .val (.int p2), .unset, .unset] [(.int (p2 &&& (1 : Int32)))])) _
    refine XS.ifNo X0.here hx rfl (hb hby at_3) rfl ((if0 _ _).trans (feq (he : ¬ ((p2 &&& (1 : Int32)) = (0 : Int32)))).1) ?_
    show Steps p.tables e below (s₁.setTop (mkF m 6 #[.val (.int p1), .val (.int p2), .unset, .unset] [])) _
    refine XS.iloadN X0.here hx rfl (hb hby at_6) rfl ?_
    show Steps p.tables e below (s₁.setTop (mkF m 7 #[.val (.int p1), .val (.int p2), .unset, .unset] [(.int p1)])) _
    refine XS.goto X0.here hx rfl (pc0 := 7) (pc' := 15) rfl (hb hby at_7) (by decide) (by decide) ?_
    show Steps p.tables e below (s₁.setTop (mkF m 15 #[.val (.int p1), .val (.int p2), .unset, .unset] [(.int p1)])) _
    refine XS.istoreN X0.here hx rfl (hb hby at_15) rfl (l' := #[.val (.int p1), .val (.int p2), .val (.int p1), .unset]) rfl ?_
    show Steps p.tables e below (s₁.setTop (mkF m 16 #[.val (.int p1), .val (.int p2), .val (.int p1), .unset] [])) _
    refine XS.iloadN X0.here hx rfl (hb hby at_16) rfl ?_
    show Steps p.tables e below (s₁.setTop (mkF m 17 #[.val (.int p1), .val (.int p2), .val (.int p1), .unset] [(.int p1)])) _
    refine st1 _ ?_
    show Steps p.tables e below (T1.setTop (mkF m 20 #[.val (.int p1), .val (.int p2), .val (.int p1), .unset] [(.int (0 : Int32))])) _
    refine XS.istoreN X1.here hx rfl (hb hby at_20) rfl (l' := #[.val (.int p1), .val (.int p2), .val (.int p1), .val (.int (0 : Int32))]) rfl ?_
    show Steps p.tables e below (T1.setTop (mkF m 21 #[.val (.int p1), .val (.int p2), .val (.int p1), .val (.int (0 : Int32))] [])) _
    refine XS.iloadN X1.here hx rfl (hb hby at_21) rfl ?_
    show Steps p.tables e below (T1.setTop (mkF m 22 #[.val (.int p1), .val (.int p2), .val (.int p1), .val (.int (0 : Int32))] [(.int (0 : Int32))])) _
    refine XS.iloadN X1.here hx rfl (hb hby at_22) rfl ?_
    show Steps p.tables e below (T1.setTop (mkF m 23 #[.val (.int p1), .val (.int p2), .val (.int p1), .val (.int (0 : Int32))] [(.int p1), (.int (0 : Int32))])) _
    refine st2 _ ?_
    show Steps p.tables e below (T2.setTop (mkF m 26 #[.val (.int p1), .val (.int p2), .val (.int p1), .val (.int (0 : Int32))] [(.int (0 : Int32)), (.int (0 : Int32))])) _
    refine XS.icmpYes X2.here hx rfl (pc0 := 26) (pc' := 31) rfl (hb hby at_26) rfl (by decide) (by decide) (by decide) ?_
    show Steps p.tables e below (T2.setTop (mkF m 31 #[.val (.int p1), .val (.int p2), .val (.int p1), .val (.int (0 : Int32))] [])) _
    refine st3 _ ?_
    show Steps p.tables e below (T3.setTop (mkF m 34 #[.val (.int p1), .val (.int p2), .val (.int p1), .val (.int (0 : Int32))] [(.ref wENTITY)])) _
    refine XS.iloadN X3.here hx rfl (hb hby at_34) rfl ?_
    show Steps p.tables e below (T3.setTop (mkF m 35 #[.val (.int p1), .val (.int p2), .val (.int p1), .val (.int (0 : Int32))] [(.int p1), (.ref wENTITY)])) _
    refine st4.trans ?_
    show Steps p.tables e below (T4.setTop (mkF m 38 #[.val (.int p1), .val (.int p2), .val (.int p1), .val (.int (0 : Int32))] [(.int (0 : Int32))])) _
    refine XS.ifYes X4.here hx rfl (pc0 := 38) (pc' := 47) rfl (hb hby at_38) rfl (by decide) (by decide) (by decide) ?_
    show Steps p.tables e below (T4.setTop (mkF m 47 #[.val (.int p1), .val (.int p2), .val (.int p1), .val (.int (0 : Int32))] [])) _
    refine st5 _ ?_
    show Steps p.tables e below (T5.setTop (mkF m 50 #[.val (.int p1), .val (.int p2), .val (.int p1), .val (.int (0 : Int32))] [(.ref wROLE_NAME)])) _
    refine XS.iloadN X5.here hx rfl (hb hby at_50) rfl ?_
    show Steps p.tables e below (T5.setTop (mkF m 51 #[.val (.int p1), .val (.int p2), .val (.int p1), .val (.int (0 : Int32))] [(.int p1), (.ref wROLE_NAME)])) _
    refine st6.trans ?_
    show Steps p.tables e below (T6.setTop (mkF m 54 #[.val (.int p1), .val (.int p2), .val (.int p1), .val (.int (0 : Int32))] [(.int (0 : Int32))])) _
    refine XS.ifYes X6.here hx rfl (pc0 := 54) (pc' := 63) rfl (hb hby at_54) rfl (by decide) (by decide) (by decide) ?_
    show Steps p.tables e below (T6.setTop (mkF m 63 #[.val (.int p1), .val (.int p2), .val (.int p1), .val (.int (0 : Int32))] [])) _
    refine XS.iconst X6.here hx rfl (hb hby at_63) ?_
    show Steps p.tables e below (T6.setTop (mkF m 64 #[.val (.int p1), .val (.int p2), .val (.int p1), .val (.int (0 : Int32))] [(.int (1 : Int32))])) _
    exact retN X6 hx (t := .boolean) Bd.returns (by simp) (hb hby at_64) hr
  · exact ⟨rfl, N6⟩
set_option maxRecDepth 65536 in
set_option maxHeartbeats 40000000 in
theorem own_law_15 (l : Launch) (Z : State) (a0 : Array Value) (hw : ∀ d ∈ tables_1, d.before a0 Z = true) (ws : List Jvm.Cond) (wENTITY : Addr) (wROLE_NAME : Addr) (G : OwnG Z wENTITY wROLE_NAME) (h0 : Heap) (n0 : Nat) (O0 : Old Z n0 h0) (p1 : Int32) (p2 : Int32) (he : ¬ ((p2 &&& (1 : Int32)) = (0 : Int32))) (aa0 : ¬ (p1 < (65 : Int32))) (aa1 : (90 : Int32) < p1) (aa2 : p1 < (97 : Int32)) (aa3 : ¬ ((122 : Int32) < p1)) (aa4 : ¬ (p1 < (48 : Int32))) (aa5 : (57 : Int32) < p1) (aa6 : p1 = (95 : Int32)) (aa7 : ¬ ((p1 ||| (32 : Int32)) < (97 : Int32))) (aa8 : (122 : Int32) < (p1 ||| (32 : Int32))) (aa9 : ¬ ((lcmpW ((p1.toInt64) - (48 : Int64)) (0 : Int64)) < (0 : Int32))) (aa10 : ¬ ((lcmpW ((p1.toInt64) - (48 : Int64)) (10 : Int64)) < (0 : Int32))) :
    MetFree l x (head1 (Jvm.Cond.code x code maxLocals ret :: ws) room_1) (fun a U => a = #[(.int p1), (.int p2)] ∧ Z.Warmed39 U.vm ∧ U.heap = h0) (fun _ _ _ _ _ => True) (fun _ U o U' => ∃ v L, o = .returned v ∧ (v = some (.int 1) ∧ Fr n0 L) ∧ FrameEnd U o U' L room_1.cells room_1.slots) := by
  refine MetFree.of_bodySF (plainFor_of_name own_pn_0) hisR ?_
  intro p e s m args below meth c s₁ Bd hml0 hP hK
  obtain ⟨rfl, hZ, hh⟩ := hP
  have hx := Bd.exec
  have hby := Bd.bytes
  have hml : c.maxLocals = 4 := hml0
  have hown : s.vm.findClass "com/example/credlib/credlib/policy/NameRuleIsPartPinLaw" = some m.cls := findClass_of_methodNamed Bd.named
  have hnm := (name_of_methodNamed Bd.named Bd.method).1
  have X0 : Stand p l e room_1 s m #[(.int p1), (.int p2)] below meth c s₁ [] 0 0 := Stand.of_body Bd
  have e0 : s₁.heap = h0 := by rw [← hh, Bd.state]; rfl
  have N0 := Fr.nil n0
  have pre0 : ∀ t, Steps p.tables e below (s₁.setTop (mkF m 0 #[.val (.int p1), .val (.int p2), .unset, .unset] [])) t → Steps p.tables e below (s₁.setTop (entryFrame m #[(.int p1), (.int p2)] maxLocals)) t := fun t k => castTop (own_ef_0_II m p1 p2) k
  obtain ⟨_, _, ⟨T1, L1, k1, n1⟩, -, X1, ⟨Lc1, hQ1, l1, y1, z1⟩, st1⟩ := Jvm.LawKit.callS X0 hx (y := (⟨"com/example/credlib/credlib/policy/NameRule", "isPart", "(I)Z"⟩ : MethodName)) hown (mvT hZ (hw _ (List.mem_of_getElem? (i := 0) rfl))) (mvT hZ (hw _ (List.mem_of_getElem? (i := 1) rfl))) (mvT hZ (hw _ (List.mem_of_getElem? (i := 2) rfl))) (mvT hZ (hw _ (List.mem_of_getElem? (i := 3) rfl))) (by decide) (backOf (W := 0) (own_isPart_20 l Z a0 hw [] wENTITY wROLE_NAME G h0 n0 O0 p1 aa0 aa1 aa2 aa3 aa4 aa5 aa6 aa7 aa8 aa9 aa10) hZ (hw _ (List.mem_of_getElem? (i := 3) rfl)) (hw _ (List.mem_of_getElem? (i := 2) rfl)) (by decide) (by decide)) (g := (mkF m 17 #[.val (.int p1), .val (.int p2), .val (.int p1), .unset] [(.int p1)])) rfl (by rw [hml]; rfl) (argsL := [(.int p1)]) (rest := []) (lenOf own_pd_0 rfl) rfl (by show 2 * 0 + _ ≤ _; exact Nat.le_of_eq rfl) (hb hby at_17) (fun _ _ => ⟨rfl, e0, (by decide : 0 + 0 ≤ _), (by decide : 0 + 0 ≤ _)⟩)
  dsimp only [Pt.U, Pt.locs, Pt.cells, Pt.slots] at X1 l1 y1 z1 st1 hQ1
  subst l1 y1 z1
  obtain ⟨rfl, N1q, e1⟩ := hQ1
  have N1 := Fr.app N0 N1q
  obtain ⟨_, _, ⟨T2, L2, k2, n2⟩, -, X2, ⟨Lc2, hQ2, l2, y2, z2⟩, st2⟩ := Jvm.LawKit.callS X1 hx (y := (⟨"com/example/credlib/credlib/policy/NameRuleIsPartPinLaw", "expected", "(I)Z"⟩ : MethodName)) hown (mvT hZ (hw _ (List.mem_of_getElem? (i := 4) rfl))) (mvT hZ (hw _ (List.mem_of_getElem? (i := 5) rfl))) (mvT hZ (hw _ (List.mem_of_getElem? (i := 6) rfl))) (mvT hZ (hw _ (List.mem_of_getElem? (i := 7) rfl))) (by decide) (backOf (W := 1) (own_expected_21 l Z a0 hw [] wENTITY wROLE_NAME G h0 n0 O0 p1 aa0 aa1 aa2 aa3 aa4 aa5 aa6 aa7 aa8 aa9 aa10) hZ (hw _ (List.mem_of_getElem? (i := 7) rfl)) (hw _ (List.mem_of_getElem? (i := 6) rfl)) (by decide) (by decide)) (g := (mkF m 23 #[.val (.int p1), .val (.int p2), .val (.int p1), .val (.int (1 : Int32))] [(.int p1), (.int (1 : Int32))])) rfl (by rw [hml]; rfl) (argsL := [(.int p1)]) (rest := [(.int (1 : Int32))]) (lenOf own_pd_0 rfl) rfl (by show 2 * 0 + _ ≤ _; exact Nat.le_of_eq rfl) (hb hby at_23) (fun _ _ => ⟨rfl, e1, (by decide : 0 + 0 ≤ _), (by decide : 0 + 0 ≤ _)⟩)
  dsimp only [Pt.U, Pt.locs, Pt.cells, Pt.slots] at X2 l2 y2 z2 st2 hQ2
  subst l2 y2 z2
  obtain ⟨rfl, N2q, e2⟩ := hQ2
  have N2 := Fr.app N1 N2q
  obtain ⟨T3, X3, e3, st3⟩ := getS2 X2 hx hZ hown (host := "") (Or.inl (hw _ (List.mem_of_getElem? (i := 9) rfl))) Via.refl e2 (G.1.ext O0.2) (g := (mkF m 31 #[.val (.int p1), .val (.int p2), .val (.int p1), .val (.int (1 : Int32))] [])) rfl (hb hby at_31)
  obtain ⟨cq4, kq4, q4a, q4b, q4c⟩ := isOf hZ e3 (G.2.1.ext O0.2)
  obtain ⟨_, _, ⟨T4, L4, k4, n4⟩, -, X4, ⟨Lc4, hQ4, l4, y4, z4⟩, st4⟩ := X3.virtualBack hx (y := (⟨"com/example/credlib/credlib/policy/NameRule", "isStart", "(I)Z"⟩ : MethodName)) (z := (⟨"com/example/credlib/credlib/policy/NameRule", "isStart", "(I)Z"⟩ : MethodName)) hown (mvT hZ (hw _ (List.mem_of_getElem? (i := 11) rfl))) (mvT hZ (hw _ (List.mem_of_getElem? (i := 12) rfl))) (notFace_of_selects (args := #[]) (mvT hZ (hw _ (List.mem_of_getElem? (i := 14) rfl)))) (mvT hZ (hw _ (List.mem_of_getElem? (i := 14) rfl))) (mvT hZ (hw _ (List.mem_of_getElem? (i := 13) rfl))) (by decide) (backOf (W := 0) (own_isStart_22 l Z a0 hw [] wENTITY wROLE_NAME G h0 n0 O0 p1 aa0 aa1 aa2 aa3 aa4 aa5 aa6 aa7 aa8 aa9 aa10) hZ (hw _ (List.mem_of_getElem? (i := 15) rfl)) (hw _ (List.mem_of_getElem? (i := 2) rfl)) (by decide) (by decide)) q4a q4c (g := (mkF m 35 #[.val (.int p1), .val (.int p2), .val (.int p1), .val (.int (1 : Int32))] [(.int p1), (.ref wENTITY)])) rfl (by rw [hml]; rfl) (Steps.refl _) (argsL := [(.int p1)]) (rest := []) (lenOf own_pd_0 rfl) rfl (by show 2 * 0 + _ ≤ _; exact Nat.le_of_eq rfl) (hb hby at_35) (fun _ _ => ⟨rfl, e3, (by decide : 0 + 0 ≤ _), (by decide : 0 + 0 ≤ _)⟩)
  dsimp only [Pt.U, Pt.locs, Pt.cells, Pt.slots] at X4 l4 y4 z4 st4 hQ4
  subst l4 y4 z4
  obtain ⟨rfl, N4q, e4⟩ := hQ4
  have N4 := Fr.app N2 N4q
  obtain ⟨T5, X5, e5, st5⟩ := getS2 X4 hx hZ hown (host := "") (Or.inl (hw _ (List.mem_of_getElem? (i := 18) rfl))) Via.refl e4 (G.2.2.1.ext O0.2) (g := (mkF m 47 #[.val (.int p1), .val (.int p2), .val (.int p1), .val (.int (1 : Int32))] [])) rfl (hb hby at_47)
  obtain ⟨cq6, kq6, q6a, q6b, q6c⟩ := isOf hZ e5 (G.2.2.2.1.ext O0.2)
  obtain ⟨_, _, ⟨T6, L6, k6, n6⟩, -, X6, ⟨Lc6, hQ6, l6, y6, z6⟩, st6⟩ := X5.virtualBack hx (y := (⟨"com/example/credlib/credlib/policy/NameRule", "isStart", "(I)Z"⟩ : MethodName)) (z := (⟨"com/example/credlib/credlib/policy/NameRule", "isStart", "(I)Z"⟩ : MethodName)) hown (mvT hZ (hw _ (List.mem_of_getElem? (i := 11) rfl))) (mvT hZ (hw _ (List.mem_of_getElem? (i := 12) rfl))) (notFace_of_selects (args := #[]) (mvT hZ (hw _ (List.mem_of_getElem? (i := 14) rfl)))) (mvT hZ (hw _ (List.mem_of_getElem? (i := 14) rfl))) (mvT hZ (hw _ (List.mem_of_getElem? (i := 13) rfl))) (by decide) (backOf (W := 0) (own_isStart_23 l Z a0 hw [] wENTITY wROLE_NAME G h0 n0 O0 p1 aa0 aa1 aa2 aa3 aa4 aa5 aa6 aa7 aa8 aa9 aa10) hZ (hw _ (List.mem_of_getElem? (i := 15) rfl)) (hw _ (List.mem_of_getElem? (i := 2) rfl)) (by decide) (by decide)) q6a q6c (g := (mkF m 51 #[.val (.int p1), .val (.int p2), .val (.int p1), .val (.int (1 : Int32))] [(.int p1), (.ref wROLE_NAME)])) rfl (by rw [hml]; rfl) (Steps.refl _) (argsL := [(.int p1)]) (rest := []) (lenOf own_pd_0 rfl) rfl (by show 2 * 0 + _ ≤ _; exact Nat.le_of_eq rfl) (hb hby at_51) (fun _ _ => ⟨rfl, e5, (by decide : 0 + 0 ≤ _), (by decide : 0 + 0 ≤ _)⟩)
  dsimp only [Pt.U, Pt.locs, Pt.cells, Pt.slots] at X6 l6 y6 z6 st6 hQ6
  subst l6 y6 z6
  obtain ⟨rfl, N6q, e6⟩ := hQ6
  have N6 := Fr.app N4 N6q
  obtain ⟨fs, hr, hrun, hended, hW, hsame⟩ := X6.leave (v := some (.int (1 : Int32))) (fun h => by rw [Bd.returns] at h; cases h)
  refine ⟨_, _, pre0 _ ?_, hrun, hended, _, _, rfl, ?_, ⟨_, rfl⟩, hW, hsame.mono (by decide) (by decide)⟩
  · show Steps p.tables e below (s₁.setTop (mkF m 0 #[.val (.int p1), .val (.int p2), .unset, .unset] [])) _
    refine XS.iloadN X0.here hx rfl (hb hby at_0) rfl ?_
    show Steps p.tables e below (s₁.setTop (mkF m 1 #[.val (.int p1), .val (.int p2), .unset, .unset] [(.int p2)])) _
    refine XS.iconst X0.here hx rfl (hb hby at_1) ?_
    show Steps p.tables e below (s₁.setTop (mkF m 2 #[.val (.int p1), .val (.int p2), .unset, .unset] [(.int (1 : Int32)), (.int p2)])) _
    refine XS.iand X0.here hx rfl (hb hby at_2) rfl ?_
    show Steps p.tables e below (s₁.setTop (mkF m 3 #[.val (.int p1), .val (.int p2), .unset, .unset] [(.int (p2 &&& (1 : Int32)))])) _
    refine XS.ifNo X0.here hx rfl (hb hby at_3) rfl ((if0 _ _).trans (feq (he : ¬ ((p2 &&& (1 : Int32)) = (0 : Int32)))).1) ?_
    show Steps p.tables e below (s₁.setTop (mkF m 6 #[.val (.int p1), .val (.int p2), .unset, .unset] [])) _
    refine XS.iloadN X0.here hx rfl (hb hby at_6) rfl ?_
    show Steps p.tables e below (s₁.setTop (mkF m 7 #[.val (.int p1), .val (.int p2), .unset, .unset] [(.int p1)])) _
    refine XS.goto X0.here hx rfl (pc0 := 7) (pc' := 15) rfl (hb hby at_7) (by decide) (by decide) ?_
    show Steps p.tables e below (s₁.setTop (mkF m 15 #[.val (.int p1), .val (.int p2), .unset, .unset] [(.int p1)])) _
    refine XS.istoreN X0.here hx rfl (hb hby at_15) rfl (l' := #[.val (.int p1), .val (.int p2), .val (.int p1), .unset]) rfl ?_
    show Steps p.tables e below (s₁.setTop (mkF m 16 #[.val (.int p1), .val (.int p2), .val (.int p1), .unset] [])) _
    refine XS.iloadN X0.here hx rfl (hb hby at_16) rfl ?_
    show Steps p.tables e below (s₁.setTop (mkF m 17 #[.val (.int p1), .val (.int p2), .val (.int p1), .unset] [(.int p1)])) _
    refine st1 _ ?_
    show Steps p.tables e below (T1.setTop (mkF m 20 #[.val (.int p1), .val (.int p2), .val (.int p1), .unset] [(.int (1 : Int32))])) _
    refine XS.istoreN X1.here hx rfl (hb hby at_20) rfl (l' := #[.val (.int p1), .val (.int p2), .val (.int p1), .val (.int (1 : Int32))]) rfl ?_
    show Steps p.tables e below (T1.setTop (mkF m 21 #[.val (.int p1), .val (.int p2), .val (.int p1), .val (.int (1 : Int32))] [])) _
    refine XS.iloadN X1.here hx rfl (hb hby at_21) rfl ?_
    show Steps p.tables e below (T1.setTop (mkF m 22 #[.val (.int p1), .val (.int p2), .val (.int p1), .val (.int (1 : Int32))] [(.int (1 : Int32))])) _
    refine XS.iloadN X1.here hx rfl (hb hby at_22) rfl ?_
    show Steps p.tables e below (T1.setTop (mkF m 23 #[.val (.int p1), .val (.int p2), .val (.int p1), .val (.int (1 : Int32))] [(.int p1), (.int (1 : Int32))])) _
    refine st2 _ ?_
    show Steps p.tables e below (T2.setTop (mkF m 26 #[.val (.int p1), .val (.int p2), .val (.int p1), .val (.int (1 : Int32))] [(.int (1 : Int32)), (.int (1 : Int32))])) _
    refine XS.icmpYes X2.here hx rfl (pc0 := 26) (pc' := 31) rfl (hb hby at_26) rfl (by decide) (by decide) (by decide) ?_
    show Steps p.tables e below (T2.setTop (mkF m 31 #[.val (.int p1), .val (.int p2), .val (.int p1), .val (.int (1 : Int32))] [])) _
    refine st3 _ ?_
    show Steps p.tables e below (T3.setTop (mkF m 34 #[.val (.int p1), .val (.int p2), .val (.int p1), .val (.int (1 : Int32))] [(.ref wENTITY)])) _
    refine XS.iloadN X3.here hx rfl (hb hby at_34) rfl ?_
    show Steps p.tables e below (T3.setTop (mkF m 35 #[.val (.int p1), .val (.int p2), .val (.int p1), .val (.int (1 : Int32))] [(.int p1), (.ref wENTITY)])) _
    refine st4.trans ?_
    show Steps p.tables e below (T4.setTop (mkF m 38 #[.val (.int p1), .val (.int p2), .val (.int p1), .val (.int (1 : Int32))] [(.int (0 : Int32))])) _
    refine XS.ifYes X4.here hx rfl (pc0 := 38) (pc' := 47) rfl (hb hby at_38) rfl (by decide) (by decide) (by decide) ?_
    show Steps p.tables e below (T4.setTop (mkF m 47 #[.val (.int p1), .val (.int p2), .val (.int p1), .val (.int (1 : Int32))] [])) _
    refine st5 _ ?_
    show Steps p.tables e below (T5.setTop (mkF m 50 #[.val (.int p1), .val (.int p2), .val (.int p1), .val (.int (1 : Int32))] [(.ref wROLE_NAME)])) _
    refine XS.iloadN X5.here hx rfl (hb hby at_50) rfl ?_
    show Steps p.tables e below (T5.setTop (mkF m 51 #[.val (.int p1), .val (.int p2), .val (.int p1), .val (.int (1 : Int32))] [(.int p1), (.ref wROLE_NAME)])) _
    refine st6.trans ?_
    show Steps p.tables e below (T6.setTop (mkF m 54 #[.val (.int p1), .val (.int p2), .val (.int p1), .val (.int (1 : Int32))] [(.int (0 : Int32))])) _
    refine XS.ifYes X6.here hx rfl (pc0 := 54) (pc' := 63) rfl (hb hby at_54) rfl (by decide) (by decide) (by decide) ?_
    show Steps p.tables e below (T6.setTop (mkF m 63 #[.val (.int p1), .val (.int p2), .val (.int p1), .val (.int (1 : Int32))] [])) _
    refine XS.iconst X6.here hx rfl (hb hby at_63) ?_
    show Steps p.tables e below (T6.setTop (mkF m 64 #[.val (.int p1), .val (.int p2), .val (.int p1), .val (.int (1 : Int32))] [(.int (1 : Int32))])) _
    exact retN X6 hx (t := .boolean) Bd.returns (by simp) (hb hby at_64) hr
  · exact ⟨rfl, N6⟩
set_option maxRecDepth 65536 in
set_option maxHeartbeats 40000000 in
theorem own_law_16 (l : Launch) (Z : State) (a0 : Array Value) (hw : ∀ d ∈ tables_1, d.before a0 Z = true) (ws : List Jvm.Cond) (wENTITY : Addr) (wROLE_NAME : Addr) (G : OwnG Z wENTITY wROLE_NAME) (h0 : Heap) (n0 : Nat) (O0 : Old Z n0 h0) (p1 : Int32) (p2 : Int32) (he : ¬ ((p2 &&& (1 : Int32)) = (0 : Int32))) (aa0 : ¬ (p1 < (65 : Int32))) (aa1 : (90 : Int32) < p1) (aa2 : p1 < (97 : Int32)) (aa3 : ¬ ((122 : Int32) < p1)) (aa4 : ¬ (p1 < (48 : Int32))) (aa5 : (57 : Int32) < p1) (aa6 : ¬ (p1 = (95 : Int32))) (aa7 : (p1 ||| (32 : Int32)) < (97 : Int32)) (aa8 : ¬ ((122 : Int32) < (p1 ||| (32 : Int32)))) (aa9 : ¬ ((lcmpW ((p1.toInt64) - (48 : Int64)) (0 : Int64)) < (0 : Int32))) (aa10 : ¬ ((lcmpW ((p1.toInt64) - (48 : Int64)) (10 : Int64)) < (0 : Int32))) :
    MetFree l x (head1 (Jvm.Cond.code x code maxLocals ret :: ws) room_1) (fun a U => a = #[(.int p1), (.int p2)] ∧ Z.Warmed39 U.vm ∧ U.heap = h0) (fun _ _ _ _ _ => True) (fun _ U o U' => ∃ v L, o = .returned v ∧ (v = some (.int 1) ∧ Fr n0 L) ∧ FrameEnd U o U' L room_1.cells room_1.slots) := by
  refine MetFree.of_bodySF (plainFor_of_name own_pn_0) hisR ?_
  intro p e s m args below meth c s₁ Bd hml0 hP hK
  obtain ⟨rfl, hZ, hh⟩ := hP
  have hx := Bd.exec
  have hby := Bd.bytes
  have hml : c.maxLocals = 4 := hml0
  have hown : s.vm.findClass "com/example/credlib/credlib/policy/NameRuleIsPartPinLaw" = some m.cls := findClass_of_methodNamed Bd.named
  have hnm := (name_of_methodNamed Bd.named Bd.method).1
  have X0 : Stand p l e room_1 s m #[(.int p1), (.int p2)] below meth c s₁ [] 0 0 := Stand.of_body Bd
  have e0 : s₁.heap = h0 := by rw [← hh, Bd.state]; rfl
  have N0 := Fr.nil n0
  have pre0 : ∀ t, Steps p.tables e below (s₁.setTop (mkF m 0 #[.val (.int p1), .val (.int p2), .unset, .unset] [])) t → Steps p.tables e below (s₁.setTop (entryFrame m #[(.int p1), (.int p2)] maxLocals)) t := fun t k => castTop (own_ef_0_II m p1 p2) k
  obtain ⟨_, _, ⟨T1, L1, k1, n1⟩, -, X1, ⟨Lc1, hQ1, l1, y1, z1⟩, st1⟩ := Jvm.LawKit.callS X0 hx (y := (⟨"com/example/credlib/credlib/policy/NameRule", "isPart", "(I)Z"⟩ : MethodName)) hown (mvT hZ (hw _ (List.mem_of_getElem? (i := 0) rfl))) (mvT hZ (hw _ (List.mem_of_getElem? (i := 1) rfl))) (mvT hZ (hw _ (List.mem_of_getElem? (i := 2) rfl))) (mvT hZ (hw _ (List.mem_of_getElem? (i := 3) rfl))) (by decide) (backOf (W := 0) (own_isPart_24 l Z a0 hw [] wENTITY wROLE_NAME G h0 n0 O0 p1 aa0 aa1 aa2 aa3 aa4 aa5 aa6 aa7 aa8 aa9 aa10) hZ (hw _ (List.mem_of_getElem? (i := 3) rfl)) (hw _ (List.mem_of_getElem? (i := 2) rfl)) (by decide) (by decide)) (g := (mkF m 17 #[.val (.int p1), .val (.int p2), .val (.int p1), .unset] [(.int p1)])) rfl (by rw [hml]; rfl) (argsL := [(.int p1)]) (rest := []) (lenOf own_pd_0 rfl) rfl (by show 2 * 0 + _ ≤ _; exact Nat.le_of_eq rfl) (hb hby at_17) (fun _ _ => ⟨rfl, e0, (by decide : 0 + 0 ≤ _), (by decide : 0 + 0 ≤ _)⟩)
  dsimp only [Pt.U, Pt.locs, Pt.cells, Pt.slots] at X1 l1 y1 z1 st1 hQ1
  subst l1 y1 z1
  obtain ⟨rfl, N1q, e1⟩ := hQ1
  have N1 := Fr.app N0 N1q
  obtain ⟨_, _, ⟨T2, L2, k2, n2⟩, -, X2, ⟨Lc2, hQ2, l2, y2, z2⟩, st2⟩ := Jvm.LawKit.callS X1 hx (y := (⟨"com/example/credlib/credlib/policy/NameRuleIsPartPinLaw", "expected", "(I)Z"⟩ : MethodName)) hown (mvT hZ (hw _ (List.mem_of_getElem? (i := 4) rfl))) (mvT hZ (hw _ (List.mem_of_getElem? (i := 5) rfl))) (mvT hZ (hw _ (List.mem_of_getElem? (i := 6) rfl))) (mvT hZ (hw _ (List.mem_of_getElem? (i := 7) rfl))) (by decide) (backOf (W := 1) (own_expected_25 l Z a0 hw [] wENTITY wROLE_NAME G h0 n0 O0 p1 aa0 aa1 aa2 aa3 aa4 aa5 aa6 aa7 aa8 aa9 aa10) hZ (hw _ (List.mem_of_getElem? (i := 7) rfl)) (hw _ (List.mem_of_getElem? (i := 6) rfl)) (by decide) (by decide)) (g := (mkF m 23 #[.val (.int p1), .val (.int p2), .val (.int p1), .val (.int (0 : Int32))] [(.int p1), (.int (0 : Int32))])) rfl (by rw [hml]; rfl) (argsL := [(.int p1)]) (rest := [(.int (0 : Int32))]) (lenOf own_pd_0 rfl) rfl (by show 2 * 0 + _ ≤ _; exact Nat.le_of_eq rfl) (hb hby at_23) (fun _ _ => ⟨rfl, e1, (by decide : 0 + 0 ≤ _), (by decide : 0 + 0 ≤ _)⟩)
  dsimp only [Pt.U, Pt.locs, Pt.cells, Pt.slots] at X2 l2 y2 z2 st2 hQ2
  subst l2 y2 z2
  obtain ⟨rfl, N2q, e2⟩ := hQ2
  have N2 := Fr.app N1 N2q
  obtain ⟨T3, X3, e3, st3⟩ := getS2 X2 hx hZ hown (host := "") (Or.inl (hw _ (List.mem_of_getElem? (i := 9) rfl))) Via.refl e2 (G.1.ext O0.2) (g := (mkF m 31 #[.val (.int p1), .val (.int p2), .val (.int p1), .val (.int (0 : Int32))] [])) rfl (hb hby at_31)
  obtain ⟨cq4, kq4, q4a, q4b, q4c⟩ := isOf hZ e3 (G.2.1.ext O0.2)
  obtain ⟨_, _, ⟨T4, L4, k4, n4⟩, -, X4, ⟨Lc4, hQ4, l4, y4, z4⟩, st4⟩ := X3.virtualBack hx (y := (⟨"com/example/credlib/credlib/policy/NameRule", "isStart", "(I)Z"⟩ : MethodName)) (z := (⟨"com/example/credlib/credlib/policy/NameRule", "isStart", "(I)Z"⟩ : MethodName)) hown (mvT hZ (hw _ (List.mem_of_getElem? (i := 11) rfl))) (mvT hZ (hw _ (List.mem_of_getElem? (i := 12) rfl))) (notFace_of_selects (args := #[]) (mvT hZ (hw _ (List.mem_of_getElem? (i := 14) rfl)))) (mvT hZ (hw _ (List.mem_of_getElem? (i := 14) rfl))) (mvT hZ (hw _ (List.mem_of_getElem? (i := 13) rfl))) (by decide) (backOf (W := 0) (own_isStart_26 l Z a0 hw [] wENTITY wROLE_NAME G h0 n0 O0 p1 aa0 aa1 aa2 aa3 aa4 aa5 aa6 aa7 aa8 aa9 aa10) hZ (hw _ (List.mem_of_getElem? (i := 15) rfl)) (hw _ (List.mem_of_getElem? (i := 2) rfl)) (by decide) (by decide)) q4a q4c (g := (mkF m 35 #[.val (.int p1), .val (.int p2), .val (.int p1), .val (.int (0 : Int32))] [(.int p1), (.ref wENTITY)])) rfl (by rw [hml]; rfl) (Steps.refl _) (argsL := [(.int p1)]) (rest := []) (lenOf own_pd_0 rfl) rfl (by show 2 * 0 + _ ≤ _; exact Nat.le_of_eq rfl) (hb hby at_35) (fun _ _ => ⟨rfl, e3, (by decide : 0 + 0 ≤ _), (by decide : 0 + 0 ≤ _)⟩)
  dsimp only [Pt.U, Pt.locs, Pt.cells, Pt.slots] at X4 l4 y4 z4 st4 hQ4
  subst l4 y4 z4
  obtain ⟨rfl, N4q, e4⟩ := hQ4
  have N4 := Fr.app N2 N4q
  obtain ⟨T5, X5, e5, st5⟩ := getS2 X4 hx hZ hown (host := "") (Or.inl (hw _ (List.mem_of_getElem? (i := 18) rfl))) Via.refl e4 (G.2.2.1.ext O0.2) (g := (mkF m 47 #[.val (.int p1), .val (.int p2), .val (.int p1), .val (.int (0 : Int32))] [])) rfl (hb hby at_47)
  obtain ⟨cq6, kq6, q6a, q6b, q6c⟩ := isOf hZ e5 (G.2.2.2.1.ext O0.2)
  obtain ⟨_, _, ⟨T6, L6, k6, n6⟩, -, X6, ⟨Lc6, hQ6, l6, y6, z6⟩, st6⟩ := X5.virtualBack hx (y := (⟨"com/example/credlib/credlib/policy/NameRule", "isStart", "(I)Z"⟩ : MethodName)) (z := (⟨"com/example/credlib/credlib/policy/NameRule", "isStart", "(I)Z"⟩ : MethodName)) hown (mvT hZ (hw _ (List.mem_of_getElem? (i := 11) rfl))) (mvT hZ (hw _ (List.mem_of_getElem? (i := 12) rfl))) (notFace_of_selects (args := #[]) (mvT hZ (hw _ (List.mem_of_getElem? (i := 14) rfl)))) (mvT hZ (hw _ (List.mem_of_getElem? (i := 14) rfl))) (mvT hZ (hw _ (List.mem_of_getElem? (i := 13) rfl))) (by decide) (backOf (W := 0) (own_isStart_27 l Z a0 hw [] wENTITY wROLE_NAME G h0 n0 O0 p1 aa0 aa1 aa2 aa3 aa4 aa5 aa6 aa7 aa8 aa9 aa10) hZ (hw _ (List.mem_of_getElem? (i := 15) rfl)) (hw _ (List.mem_of_getElem? (i := 2) rfl)) (by decide) (by decide)) q6a q6c (g := (mkF m 51 #[.val (.int p1), .val (.int p2), .val (.int p1), .val (.int (0 : Int32))] [(.int p1), (.ref wROLE_NAME)])) rfl (by rw [hml]; rfl) (Steps.refl _) (argsL := [(.int p1)]) (rest := []) (lenOf own_pd_0 rfl) rfl (by show 2 * 0 + _ ≤ _; exact Nat.le_of_eq rfl) (hb hby at_51) (fun _ _ => ⟨rfl, e5, (by decide : 0 + 0 ≤ _), (by decide : 0 + 0 ≤ _)⟩)
  dsimp only [Pt.U, Pt.locs, Pt.cells, Pt.slots] at X6 l6 y6 z6 st6 hQ6
  subst l6 y6 z6
  obtain ⟨rfl, N6q, e6⟩ := hQ6
  have N6 := Fr.app N4 N6q
  obtain ⟨fs, hr, hrun, hended, hW, hsame⟩ := X6.leave (v := some (.int (1 : Int32))) (fun h => by rw [Bd.returns] at h; cases h)
  refine ⟨_, _, pre0 _ ?_, hrun, hended, _, _, rfl, ?_, ⟨_, rfl⟩, hW, hsame.mono (by decide) (by decide)⟩
  · show Steps p.tables e below (s₁.setTop (mkF m 0 #[.val (.int p1), .val (.int p2), .unset, .unset] [])) _
    refine XS.iloadN X0.here hx rfl (hb hby at_0) rfl ?_
    show Steps p.tables e below (s₁.setTop (mkF m 1 #[.val (.int p1), .val (.int p2), .unset, .unset] [(.int p2)])) _
    refine XS.iconst X0.here hx rfl (hb hby at_1) ?_
    show Steps p.tables e below (s₁.setTop (mkF m 2 #[.val (.int p1), .val (.int p2), .unset, .unset] [(.int (1 : Int32)), (.int p2)])) _
    refine XS.iand X0.here hx rfl (hb hby at_2) rfl ?_
    show Steps p.tables e below (s₁.setTop (mkF m 3 #[.val (.int p1), .val (.int p2), .unset, .unset] [(.int (p2 &&& (1 : Int32)))])) _
    refine XS.ifNo X0.here hx rfl (hb hby at_3) rfl ((if0 _ _).trans (feq (he : ¬ ((p2 &&& (1 : Int32)) = (0 : Int32)))).1) ?_
    show Steps p.tables e below (s₁.setTop (mkF m 6 #[.val (.int p1), .val (.int p2), .unset, .unset] [])) _
    refine XS.iloadN X0.here hx rfl (hb hby at_6) rfl ?_
    show Steps p.tables e below (s₁.setTop (mkF m 7 #[.val (.int p1), .val (.int p2), .unset, .unset] [(.int p1)])) _
    refine XS.goto X0.here hx rfl (pc0 := 7) (pc' := 15) rfl (hb hby at_7) (by decide) (by decide) ?_
    show Steps p.tables e below (s₁.setTop (mkF m 15 #[.val (.int p1), .val (.int p2), .unset, .unset] [(.int p1)])) _
    refine XS.istoreN X0.here hx rfl (hb hby at_15) rfl (l' := #[.val (.int p1), .val (.int p2), .val (.int p1), .unset]) rfl ?_
    show Steps p.tables e below (s₁.setTop (mkF m 16 #[.val (.int p1), .val (.int p2), .val (.int p1), .unset] [])) _
    refine XS.iloadN X0.here hx rfl (hb hby at_16) rfl ?_
    show Steps p.tables e below (s₁.setTop (mkF m 17 #[.val (.int p1), .val (.int p2), .val (.int p1), .unset] [(.int p1)])) _
    refine st1 _ ?_
    show Steps p.tables e below (T1.setTop (mkF m 20 #[.val (.int p1), .val (.int p2), .val (.int p1), .unset] [(.int (0 : Int32))])) _
    refine XS.istoreN X1.here hx rfl (hb hby at_20) rfl (l' := #[.val (.int p1), .val (.int p2), .val (.int p1), .val (.int (0 : Int32))]) rfl ?_
    show Steps p.tables e below (T1.setTop (mkF m 21 #[.val (.int p1), .val (.int p2), .val (.int p1), .val (.int (0 : Int32))] [])) _
    refine XS.iloadN X1.here hx rfl (hb hby at_21) rfl ?_
    show Steps p.tables e below (T1.setTop (mkF m 22 #[.val (.int p1), .val (.int p2), .val (.int p1), .val (.int (0 : Int32))] [(.int (0 : Int32))])) _
    refine XS.iloadN X1.here hx rfl (hb hby at_22) rfl ?_
    show Steps p.tables e below (T1.setTop (mkF m 23 #[.val (.int p1), .val (.int p2), .val (.int p1), .val (.int (0 : Int32))] [(.int p1), (.int (0 : Int32))])) _
    refine st2 _ ?_
    show Steps p.tables e below (T2.setTop (mkF m 26 #[.val (.int p1), .val (.int p2), .val (.int p1), .val (.int (0 : Int32))] [(.int (0 : Int32)), (.int (0 : Int32))])) _
    refine XS.icmpYes X2.here hx rfl (pc0 := 26) (pc' := 31) rfl (hb hby at_26) rfl (by decide) (by decide) (by decide) ?_
    show Steps p.tables e below (T2.setTop (mkF m 31 #[.val (.int p1), .val (.int p2), .val (.int p1), .val (.int (0 : Int32))] [])) _
    refine st3 _ ?_
    show Steps p.tables e below (T3.setTop (mkF m 34 #[.val (.int p1), .val (.int p2), .val (.int p1), .val (.int (0 : Int32))] [(.ref wENTITY)])) _
    refine XS.iloadN X3.here hx rfl (hb hby at_34) rfl ?_
    show Steps p.tables e below (T3.setTop (mkF m 35 #[.val (.int p1), .val (.int p2), .val (.int p1), .val (.int (0 : Int32))] [(.int p1), (.ref wENTITY)])) _
    refine st4.trans ?_
    show Steps p.tables e below (T4.setTop (mkF m 38 #[.val (.int p1), .val (.int p2), .val (.int p1), .val (.int (0 : Int32))] [(.int (0 : Int32))])) _
    refine XS.ifYes X4.here hx rfl (pc0 := 38) (pc' := 47) rfl (hb hby at_38) rfl (by decide) (by decide) (by decide) ?_
    show Steps p.tables e below (T4.setTop (mkF m 47 #[.val (.int p1), .val (.int p2), .val (.int p1), .val (.int (0 : Int32))] [])) _
    refine st5 _ ?_
    show Steps p.tables e below (T5.setTop (mkF m 50 #[.val (.int p1), .val (.int p2), .val (.int p1), .val (.int (0 : Int32))] [(.ref wROLE_NAME)])) _
    refine XS.iloadN X5.here hx rfl (hb hby at_50) rfl ?_
    show Steps p.tables e below (T5.setTop (mkF m 51 #[.val (.int p1), .val (.int p2), .val (.int p1), .val (.int (0 : Int32))] [(.int p1), (.ref wROLE_NAME)])) _
    refine st6.trans ?_
    show Steps p.tables e below (T6.setTop (mkF m 54 #[.val (.int p1), .val (.int p2), .val (.int p1), .val (.int (0 : Int32))] [(.int (0 : Int32))])) _
    refine XS.ifYes X6.here hx rfl (pc0 := 54) (pc' := 63) rfl (hb hby at_54) rfl (by decide) (by decide) (by decide) ?_
    show Steps p.tables e below (T6.setTop (mkF m 63 #[.val (.int p1), .val (.int p2), .val (.int p1), .val (.int (0 : Int32))] [])) _
    refine XS.iconst X6.here hx rfl (hb hby at_63) ?_
    show Steps p.tables e below (T6.setTop (mkF m 64 #[.val (.int p1), .val (.int p2), .val (.int p1), .val (.int (0 : Int32))] [(.int (1 : Int32))])) _
    exact retN X6 hx (t := .boolean) Bd.returns (by simp) (hb hby at_64) hr
  · exact ⟨rfl, N6⟩
set_option maxRecDepth 65536 in
set_option maxHeartbeats 40000000 in
theorem own_law_17 (l : Launch) (Z : State) (a0 : Array Value) (hw : ∀ d ∈ tables_1, d.before a0 Z = true) (ws : List Jvm.Cond) (wENTITY : Addr) (wROLE_NAME : Addr) (G : OwnG Z wENTITY wROLE_NAME) (h0 : Heap) (n0 : Nat) (O0 : Old Z n0 h0) (p1 : Int32) (p2 : Int32) (he : ¬ ((p2 &&& (1 : Int32)) = (0 : Int32))) (aa0 : ¬ (p1 < (65 : Int32))) (aa1 : (90 : Int32) < p1) (aa2 : ¬ (p1 < (97 : Int32))) (aa3 : ¬ ((122 : Int32) < p1)) (aa4 : ¬ (p1 < (48 : Int32))) (aa5 : (57 : Int32) < p1) (aa6 : ¬ (p1 = (95 : Int32))) (aa7 : ¬ ((p1 ||| (32 : Int32)) < (97 : Int32))) (aa8 : ¬ ((122 : Int32) < (p1 ||| (32 : Int32)))) (aa9 : ¬ ((lcmpW ((p1.toInt64) - (48 : Int64)) (0 : Int64)) < (0 : Int32))) (aa10 : ¬ ((lcmpW ((p1.toInt64) - (48 : Int64)) (10 : Int64)) < (0 : Int32))) :
    MetFree l x (head1 (Jvm.Cond.code x code maxLocals ret :: ws) room_1) (fun a U => a = #[(.int p1), (.int p2)] ∧ Z.Warmed39 U.vm ∧ U.heap = h0) (fun _ _ _ _ _ => True) (fun _ U o U' => ∃ v L, o = .returned v ∧ (v = some (.int 1) ∧ Fr n0 L) ∧ FrameEnd U o U' L room_1.cells room_1.slots) := by
  refine MetFree.of_bodySF (plainFor_of_name own_pn_0) hisR ?_
  intro p e s m args below meth c s₁ Bd hml0 hP hK
  obtain ⟨rfl, hZ, hh⟩ := hP
  have hx := Bd.exec
  have hby := Bd.bytes
  have hml : c.maxLocals = 4 := hml0
  have hown : s.vm.findClass "com/example/credlib/credlib/policy/NameRuleIsPartPinLaw" = some m.cls := findClass_of_methodNamed Bd.named
  have hnm := (name_of_methodNamed Bd.named Bd.method).1
  have X0 : Stand p l e room_1 s m #[(.int p1), (.int p2)] below meth c s₁ [] 0 0 := Stand.of_body Bd
  have e0 : s₁.heap = h0 := by rw [← hh, Bd.state]; rfl
  have N0 := Fr.nil n0
  have pre0 : ∀ t, Steps p.tables e below (s₁.setTop (mkF m 0 #[.val (.int p1), .val (.int p2), .unset, .unset] [])) t → Steps p.tables e below (s₁.setTop (entryFrame m #[(.int p1), (.int p2)] maxLocals)) t := fun t k => castTop (own_ef_0_II m p1 p2) k
  obtain ⟨_, _, ⟨T1, L1, k1, n1⟩, -, X1, ⟨Lc1, hQ1, l1, y1, z1⟩, st1⟩ := Jvm.LawKit.callS X0 hx (y := (⟨"com/example/credlib/credlib/policy/NameRule", "isPart", "(I)Z"⟩ : MethodName)) hown (mvT hZ (hw _ (List.mem_of_getElem? (i := 0) rfl))) (mvT hZ (hw _ (List.mem_of_getElem? (i := 1) rfl))) (mvT hZ (hw _ (List.mem_of_getElem? (i := 2) rfl))) (mvT hZ (hw _ (List.mem_of_getElem? (i := 3) rfl))) (by decide) (backOf (W := 0) (own_isPart_28 l Z a0 hw [] wENTITY wROLE_NAME G h0 n0 O0 p1 aa0 aa1 aa2 aa3 aa4 aa5 aa6 aa7 aa8 aa9 aa10) hZ (hw _ (List.mem_of_getElem? (i := 3) rfl)) (hw _ (List.mem_of_getElem? (i := 2) rfl)) (by decide) (by decide)) (g := (mkF m 17 #[.val (.int p1), .val (.int p2), .val (.int p1), .unset] [(.int p1)])) rfl (by rw [hml]; rfl) (argsL := [(.int p1)]) (rest := []) (lenOf own_pd_0 rfl) rfl (by show 2 * 0 + _ ≤ _; exact Nat.le_of_eq rfl) (hb hby at_17) (fun _ _ => ⟨rfl, e0, (by decide : 0 + 0 ≤ _), (by decide : 0 + 0 ≤ _)⟩)
  dsimp only [Pt.U, Pt.locs, Pt.cells, Pt.slots] at X1 l1 y1 z1 st1 hQ1
  subst l1 y1 z1
  obtain ⟨rfl, N1q, e1⟩ := hQ1
  have N1 := Fr.app N0 N1q
  obtain ⟨_, _, ⟨T2, L2, k2, n2⟩, -, X2, ⟨Lc2, hQ2, l2, y2, z2⟩, st2⟩ := Jvm.LawKit.callS X1 hx (y := (⟨"com/example/credlib/credlib/policy/NameRuleIsPartPinLaw", "expected", "(I)Z"⟩ : MethodName)) hown (mvT hZ (hw _ (List.mem_of_getElem? (i := 4) rfl))) (mvT hZ (hw _ (List.mem_of_getElem? (i := 5) rfl))) (mvT hZ (hw _ (List.mem_of_getElem? (i := 6) rfl))) (mvT hZ (hw _ (List.mem_of_getElem? (i := 7) rfl))) (by decide) (backOf (W := 1) (own_expected_29 l Z a0 hw [] wENTITY wROLE_NAME G h0 n0 O0 p1 aa0 aa1 aa2 aa3 aa4 aa5 aa6 aa7 aa8 aa9 aa10) hZ (hw _ (List.mem_of_getElem? (i := 7) rfl)) (hw _ (List.mem_of_getElem? (i := 6) rfl)) (by decide) (by decide)) (g := (mkF m 23 #[.val (.int p1), .val (.int p2), .val (.int p1), .val (.int (1 : Int32))] [(.int p1), (.int (1 : Int32))])) rfl (by rw [hml]; rfl) (argsL := [(.int p1)]) (rest := [(.int (1 : Int32))]) (lenOf own_pd_0 rfl) rfl (by show 2 * 0 + _ ≤ _; exact Nat.le_of_eq rfl) (hb hby at_23) (fun _ _ => ⟨rfl, e1, (by decide : 0 + 0 ≤ _), (by decide : 0 + 0 ≤ _)⟩)
  dsimp only [Pt.U, Pt.locs, Pt.cells, Pt.slots] at X2 l2 y2 z2 st2 hQ2
  subst l2 y2 z2
  obtain ⟨rfl, N2q, e2⟩ := hQ2
  have N2 := Fr.app N1 N2q
  obtain ⟨T3, X3, e3, st3⟩ := getS2 X2 hx hZ hown (host := "") (Or.inl (hw _ (List.mem_of_getElem? (i := 9) rfl))) Via.refl e2 (G.1.ext O0.2) (g := (mkF m 31 #[.val (.int p1), .val (.int p2), .val (.int p1), .val (.int (1 : Int32))] [])) rfl (hb hby at_31)
  obtain ⟨cq4, kq4, q4a, q4b, q4c⟩ := isOf hZ e3 (G.2.1.ext O0.2)
  obtain ⟨_, _, ⟨T4, L4, k4, n4⟩, -, X4, ⟨Lc4, hQ4, l4, y4, z4⟩, st4⟩ := X3.virtualBack hx (y := (⟨"com/example/credlib/credlib/policy/NameRule", "isStart", "(I)Z"⟩ : MethodName)) (z := (⟨"com/example/credlib/credlib/policy/NameRule", "isStart", "(I)Z"⟩ : MethodName)) hown (mvT hZ (hw _ (List.mem_of_getElem? (i := 11) rfl))) (mvT hZ (hw _ (List.mem_of_getElem? (i := 12) rfl))) (notFace_of_selects (args := #[]) (mvT hZ (hw _ (List.mem_of_getElem? (i := 14) rfl)))) (mvT hZ (hw _ (List.mem_of_getElem? (i := 14) rfl))) (mvT hZ (hw _ (List.mem_of_getElem? (i := 13) rfl))) (by decide) (backOf (W := 0) (own_isStart_30 l Z a0 hw [] wENTITY wROLE_NAME G h0 n0 O0 p1 aa0 aa1 aa2 aa3 aa4 aa5 aa6 aa7 aa8 aa9 aa10) hZ (hw _ (List.mem_of_getElem? (i := 15) rfl)) (hw _ (List.mem_of_getElem? (i := 2) rfl)) (by decide) (by decide)) q4a q4c (g := (mkF m 35 #[.val (.int p1), .val (.int p2), .val (.int p1), .val (.int (1 : Int32))] [(.int p1), (.ref wENTITY)])) rfl (by rw [hml]; rfl) (Steps.refl _) (argsL := [(.int p1)]) (rest := []) (lenOf own_pd_0 rfl) rfl (by show 2 * 0 + _ ≤ _; exact Nat.le_of_eq rfl) (hb hby at_35) (fun _ _ => ⟨rfl, e3, (by decide : 0 + 0 ≤ _), (by decide : 0 + 0 ≤ _)⟩)
  dsimp only [Pt.U, Pt.locs, Pt.cells, Pt.slots] at X4 l4 y4 z4 st4 hQ4
  subst l4 y4 z4
  obtain ⟨rfl, N4q, e4⟩ := hQ4
  have N4 := Fr.app N2 N4q
  obtain ⟨T5, X5, e5, st5⟩ := getS2 X4 hx hZ hown (host := "") (Or.inl (hw _ (List.mem_of_getElem? (i := 18) rfl))) Via.refl e4 (G.2.2.1.ext O0.2) (g := (mkF m 47 #[.val (.int p1), .val (.int p2), .val (.int p1), .val (.int (1 : Int32))] [])) rfl (hb hby at_47)
  obtain ⟨cq6, kq6, q6a, q6b, q6c⟩ := isOf hZ e5 (G.2.2.2.1.ext O0.2)
  obtain ⟨_, _, ⟨T6, L6, k6, n6⟩, -, X6, ⟨Lc6, hQ6, l6, y6, z6⟩, st6⟩ := X5.virtualBack hx (y := (⟨"com/example/credlib/credlib/policy/NameRule", "isStart", "(I)Z"⟩ : MethodName)) (z := (⟨"com/example/credlib/credlib/policy/NameRule", "isStart", "(I)Z"⟩ : MethodName)) hown (mvT hZ (hw _ (List.mem_of_getElem? (i := 11) rfl))) (mvT hZ (hw _ (List.mem_of_getElem? (i := 12) rfl))) (notFace_of_selects (args := #[]) (mvT hZ (hw _ (List.mem_of_getElem? (i := 14) rfl)))) (mvT hZ (hw _ (List.mem_of_getElem? (i := 14) rfl))) (mvT hZ (hw _ (List.mem_of_getElem? (i := 13) rfl))) (by decide) (backOf (W := 0) (own_isStart_31 l Z a0 hw [] wENTITY wROLE_NAME G h0 n0 O0 p1 aa0 aa1 aa2 aa3 aa4 aa5 aa6 aa7 aa8 aa9 aa10) hZ (hw _ (List.mem_of_getElem? (i := 15) rfl)) (hw _ (List.mem_of_getElem? (i := 2) rfl)) (by decide) (by decide)) q6a q6c (g := (mkF m 51 #[.val (.int p1), .val (.int p2), .val (.int p1), .val (.int (1 : Int32))] [(.int p1), (.ref wROLE_NAME)])) rfl (by rw [hml]; rfl) (Steps.refl _) (argsL := [(.int p1)]) (rest := []) (lenOf own_pd_0 rfl) rfl (by show 2 * 0 + _ ≤ _; exact Nat.le_of_eq rfl) (hb hby at_51) (fun _ _ => ⟨rfl, e5, (by decide : 0 + 0 ≤ _), (by decide : 0 + 0 ≤ _)⟩)
  dsimp only [Pt.U, Pt.locs, Pt.cells, Pt.slots] at X6 l6 y6 z6 st6 hQ6
  subst l6 y6 z6
  obtain ⟨rfl, N6q, e6⟩ := hQ6
  have N6 := Fr.app N4 N6q
  obtain ⟨fs, hr, hrun, hended, hW, hsame⟩ := X6.leave (v := some (.int (1 : Int32))) (fun h => by rw [Bd.returns] at h; cases h)
  refine ⟨_, _, pre0 _ ?_, hrun, hended, _, _, rfl, ?_, ⟨_, rfl⟩, hW, hsame.mono (by decide) (by decide)⟩
  · show Steps p.tables e below (s₁.setTop (mkF m 0 #[.val (.int p1), .val (.int p2), .unset, .unset] [])) _
    refine XS.iloadN X0.here hx rfl (hb hby at_0) rfl ?_
    show Steps p.tables e below (s₁.setTop (mkF m 1 #[.val (.int p1), .val (.int p2), .unset, .unset] [(.int p2)])) _
    refine XS.iconst X0.here hx rfl (hb hby at_1) ?_
    show Steps p.tables e below (s₁.setTop (mkF m 2 #[.val (.int p1), .val (.int p2), .unset, .unset] [(.int (1 : Int32)), (.int p2)])) _
    refine XS.iand X0.here hx rfl (hb hby at_2) rfl ?_
    show Steps p.tables e below (s₁.setTop (mkF m 3 #[.val (.int p1), .val (.int p2), .unset, .unset] [(.int (p2 &&& (1 : Int32)))])) _
    refine XS.ifNo X0.here hx rfl (hb hby at_3) rfl ((if0 _ _).trans (feq (he : ¬ ((p2 &&& (1 : Int32)) = (0 : Int32)))).1) ?_
    show Steps p.tables e below (s₁.setTop (mkF m 6 #[.val (.int p1), .val (.int p2), .unset, .unset] [])) _
    refine XS.iloadN X0.here hx rfl (hb hby at_6) rfl ?_
    show Steps p.tables e below (s₁.setTop (mkF m 7 #[.val (.int p1), .val (.int p2), .unset, .unset] [(.int p1)])) _
    refine XS.goto X0.here hx rfl (pc0 := 7) (pc' := 15) rfl (hb hby at_7) (by decide) (by decide) ?_
    show Steps p.tables e below (s₁.setTop (mkF m 15 #[.val (.int p1), .val (.int p2), .unset, .unset] [(.int p1)])) _
    refine XS.istoreN X0.here hx rfl (hb hby at_15) rfl (l' := #[.val (.int p1), .val (.int p2), .val (.int p1), .unset]) rfl ?_
    show Steps p.tables e below (s₁.setTop (mkF m 16 #[.val (.int p1), .val (.int p2), .val (.int p1), .unset] [])) _
    refine XS.iloadN X0.here hx rfl (hb hby at_16) rfl ?_
    show Steps p.tables e below (s₁.setTop (mkF m 17 #[.val (.int p1), .val (.int p2), .val (.int p1), .unset] [(.int p1)])) _
    refine st1 _ ?_
    show Steps p.tables e below (T1.setTop (mkF m 20 #[.val (.int p1), .val (.int p2), .val (.int p1), .unset] [(.int (1 : Int32))])) _
    refine XS.istoreN X1.here hx rfl (hb hby at_20) rfl (l' := #[.val (.int p1), .val (.int p2), .val (.int p1), .val (.int (1 : Int32))]) rfl ?_
    show Steps p.tables e below (T1.setTop (mkF m 21 #[.val (.int p1), .val (.int p2), .val (.int p1), .val (.int (1 : Int32))] [])) _
    refine XS.iloadN X1.here hx rfl (hb hby at_21) rfl ?_
    show Steps p.tables e below (T1.setTop (mkF m 22 #[.val (.int p1), .val (.int p2), .val (.int p1), .val (.int (1 : Int32))] [(.int (1 : Int32))])) _
    refine XS.iloadN X1.here hx rfl (hb hby at_22) rfl ?_
    show Steps p.tables e below (T1.setTop (mkF m 23 #[.val (.int p1), .val (.int p2), .val (.int p1), .val (.int (1 : Int32))] [(.int p1), (.int (1 : Int32))])) _
    refine st2 _ ?_
    show Steps p.tables e below (T2.setTop (mkF m 26 #[.val (.int p1), .val (.int p2), .val (.int p1), .val (.int (1 : Int32))] [(.int (1 : Int32)), (.int (1 : Int32))])) _
    refine XS.icmpYes X2.here hx rfl (pc0 := 26) (pc' := 31) rfl (hb hby at_26) rfl (by decide) (by decide) (by decide) ?_
    show Steps p.tables e below (T2.setTop (mkF m 31 #[.val (.int p1), .val (.int p2), .val (.int p1), .val (.int (1 : Int32))] [])) _
    refine st3 _ ?_
    show Steps p.tables e below (T3.setTop (mkF m 34 #[.val (.int p1), .val (.int p2), .val (.int p1), .val (.int (1 : Int32))] [(.ref wENTITY)])) _
    refine XS.iloadN X3.here hx rfl (hb hby at_34) rfl ?_
    show Steps p.tables e below (T3.setTop (mkF m 35 #[.val (.int p1), .val (.int p2), .val (.int p1), .val (.int (1 : Int32))] [(.int p1), (.ref wENTITY)])) _
    refine st4.trans ?_
    show Steps p.tables e below (T4.setTop (mkF m 38 #[.val (.int p1), .val (.int p2), .val (.int p1), .val (.int (1 : Int32))] [(.int (0 : Int32))])) _
    refine XS.ifYes X4.here hx rfl (pc0 := 38) (pc' := 47) rfl (hb hby at_38) rfl (by decide) (by decide) (by decide) ?_
    show Steps p.tables e below (T4.setTop (mkF m 47 #[.val (.int p1), .val (.int p2), .val (.int p1), .val (.int (1 : Int32))] [])) _
    refine st5 _ ?_
    show Steps p.tables e below (T5.setTop (mkF m 50 #[.val (.int p1), .val (.int p2), .val (.int p1), .val (.int (1 : Int32))] [(.ref wROLE_NAME)])) _
    refine XS.iloadN X5.here hx rfl (hb hby at_50) rfl ?_
    show Steps p.tables e below (T5.setTop (mkF m 51 #[.val (.int p1), .val (.int p2), .val (.int p1), .val (.int (1 : Int32))] [(.int p1), (.ref wROLE_NAME)])) _
    refine st6.trans ?_
    show Steps p.tables e below (T6.setTop (mkF m 54 #[.val (.int p1), .val (.int p2), .val (.int p1), .val (.int (1 : Int32))] [(.int (1 : Int32))])) _
    refine XS.ifNo X6.here hx rfl (hb hby at_54) rfl (by decide) ?_
    show Steps p.tables e below (T6.setTop (mkF m 57 #[.val (.int p1), .val (.int p2), .val (.int p1), .val (.int (1 : Int32))] [])) _
    refine XS.iloadN X6.here hx rfl (hb hby at_57) rfl ?_
    show Steps p.tables e below (T6.setTop (mkF m 58 #[.val (.int p1), .val (.int p2), .val (.int p1), .val (.int (1 : Int32))] [(.int (1 : Int32))])) _
    refine XS.ifYes X6.here hx rfl (pc0 := 58) (pc' := 63) rfl (hb hby at_58) rfl (by decide) (by decide) (by decide) ?_
    show Steps p.tables e below (T6.setTop (mkF m 63 #[.val (.int p1), .val (.int p2), .val (.int p1), .val (.int (1 : Int32))] [])) _
    refine XS.iconst X6.here hx rfl (hb hby at_63) ?_
    show Steps p.tables e below (T6.setTop (mkF m 64 #[.val (.int p1), .val (.int p2), .val (.int p1), .val (.int (1 : Int32))] [(.int (1 : Int32))])) _
    exact retN X6 hx (t := .boolean) Bd.returns (by simp) (hb hby at_64) hr
  · exact ⟨rfl, N6⟩
set_option maxRecDepth 65536 in
set_option maxHeartbeats 40000000 in
theorem own_law_18 (l : Launch) (Z : State) (a0 : Array Value) (hw : ∀ d ∈ tables_1, d.before a0 Z = true) (ws : List Jvm.Cond) (wENTITY : Addr) (wROLE_NAME : Addr) (G : OwnG Z wENTITY wROLE_NAME) (h0 : Heap) (n0 : Nat) (O0 : Old Z n0 h0) (p1 : Int32) (p2 : Int32) (he : ¬ ((p2 &&& (1 : Int32)) = (0 : Int32))) (aa0 : ¬ (p1 < (65 : Int32))) (aa1 : (90 : Int32) < p1) (aa2 : ¬ (p1 < (97 : Int32))) (aa3 : (122 : Int32) < p1) (aa4 : ¬ (p1 < (48 : Int32))) (aa5 : (57 : Int32) < p1) (aa6 : ¬ (p1 = (95 : Int32))) (aa7 : ¬ ((p1 ||| (32 : Int32)) < (97 : Int32))) (aa8 : (122 : Int32) < (p1 ||| (32 : Int32))) (aa9 : ¬ ((lcmpW ((p1.toInt64) - (48 : Int64)) (0 : Int64)) < (0 : Int32))) (aa10 : ¬ ((lcmpW ((p1.toInt64) - (48 : Int64)) (10 : Int64)) < (0 : Int32))) :
    MetFree l x (head1 (Jvm.Cond.code x code maxLocals ret :: ws) room_1) (fun a U => a = #[(.int p1), (.int p2)] ∧ Z.Warmed39 U.vm ∧ U.heap = h0) (fun _ _ _ _ _ => True) (fun _ U o U' => ∃ v L, o = .returned v ∧ (v = some (.int 1) ∧ Fr n0 L) ∧ FrameEnd U o U' L room_1.cells room_1.slots) := by
  refine MetFree.of_bodySF (plainFor_of_name own_pn_0) hisR ?_
  intro p e s m args below meth c s₁ Bd hml0 hP hK
  obtain ⟨rfl, hZ, hh⟩ := hP
  have hx := Bd.exec
  have hby := Bd.bytes
  have hml : c.maxLocals = 4 := hml0
  have hown : s.vm.findClass "com/example/credlib/credlib/policy/NameRuleIsPartPinLaw" = some m.cls := findClass_of_methodNamed Bd.named
  have hnm := (name_of_methodNamed Bd.named Bd.method).1
  have X0 : Stand p l e room_1 s m #[(.int p1), (.int p2)] below meth c s₁ [] 0 0 := Stand.of_body Bd
  have e0 : s₁.heap = h0 := by rw [← hh, Bd.state]; rfl
  have N0 := Fr.nil n0
  have pre0 : ∀ t, Steps p.tables e below (s₁.setTop (mkF m 0 #[.val (.int p1), .val (.int p2), .unset, .unset] [])) t → Steps p.tables e below (s₁.setTop (entryFrame m #[(.int p1), (.int p2)] maxLocals)) t := fun t k => castTop (own_ef_0_II m p1 p2) k
  obtain ⟨_, _, ⟨T1, L1, k1, n1⟩, -, X1, ⟨Lc1, hQ1, l1, y1, z1⟩, st1⟩ := Jvm.LawKit.callS X0 hx (y := (⟨"com/example/credlib/credlib/policy/NameRule", "isPart", "(I)Z"⟩ : MethodName)) hown (mvT hZ (hw _ (List.mem_of_getElem? (i := 0) rfl))) (mvT hZ (hw _ (List.mem_of_getElem? (i := 1) rfl))) (mvT hZ (hw _ (List.mem_of_getElem? (i := 2) rfl))) (mvT hZ (hw _ (List.mem_of_getElem? (i := 3) rfl))) (by decide) (backOf (W := 0) (own_isPart_32 l Z a0 hw [] wENTITY wROLE_NAME G h0 n0 O0 p1 aa0 aa1 aa2 aa3 aa4 aa5 aa6 aa7 aa8 aa9 aa10) hZ (hw _ (List.mem_of_getElem? (i := 3) rfl)) (hw _ (List.mem_of_getElem? (i := 2) rfl)) (by decide) (by decide)) (g := (mkF m 17 #[.val (.int p1), .val (.int p2), .val (.int p1), .unset] [(.int p1)])) rfl (by rw [hml]; rfl) (argsL := [(.int p1)]) (rest := []) (lenOf own_pd_0 rfl) rfl (by show 2 * 0 + _ ≤ _; exact Nat.le_of_eq rfl) (hb hby at_17) (fun _ _ => ⟨rfl, e0, (by decide : 0 + 0 ≤ _), (by decide : 0 + 0 ≤ _)⟩)
  dsimp only [Pt.U, Pt.locs, Pt.cells, Pt.slots] at X1 l1 y1 z1 st1 hQ1
  subst l1 y1 z1
  obtain ⟨rfl, N1q, e1⟩ := hQ1
  have N1 := Fr.app N0 N1q
  obtain ⟨_, _, ⟨T2, L2, k2, n2⟩, -, X2, ⟨Lc2, hQ2, l2, y2, z2⟩, st2⟩ := Jvm.LawKit.callS X1 hx (y := (⟨"com/example/credlib/credlib/policy/NameRuleIsPartPinLaw", "expected", "(I)Z"⟩ : MethodName)) hown (mvT hZ (hw _ (List.mem_of_getElem? (i := 4) rfl))) (mvT hZ (hw _ (List.mem_of_getElem? (i := 5) rfl))) (mvT hZ (hw _ (List.mem_of_getElem? (i := 6) rfl))) (mvT hZ (hw _ (List.mem_of_getElem? (i := 7) rfl))) (by decide) (backOf (W := 1) (own_expected_33 l Z a0 hw [] wENTITY wROLE_NAME G h0 n0 O0 p1 aa0 aa1 aa2 aa3 aa4 aa5 aa6 aa7 aa8 aa9 aa10) hZ (hw _ (List.mem_of_getElem? (i := 7) rfl)) (hw _ (List.mem_of_getElem? (i := 6) rfl)) (by decide) (by decide)) (g := (mkF m 23 #[.val (.int p1), .val (.int p2), .val (.int p1), .val (.int (0 : Int32))] [(.int p1), (.int (0 : Int32))])) rfl (by rw [hml]; rfl) (argsL := [(.int p1)]) (rest := [(.int (0 : Int32))]) (lenOf own_pd_0 rfl) rfl (by show 2 * 0 + _ ≤ _; exact Nat.le_of_eq rfl) (hb hby at_23) (fun _ _ => ⟨rfl, e1, (by decide : 0 + 0 ≤ _), (by decide : 0 + 0 ≤ _)⟩)
  dsimp only [Pt.U, Pt.locs, Pt.cells, Pt.slots] at X2 l2 y2 z2 st2 hQ2
  subst l2 y2 z2
  obtain ⟨rfl, N2q, e2⟩ := hQ2
  have N2 := Fr.app N1 N2q
  obtain ⟨T3, X3, e3, st3⟩ := getS2 X2 hx hZ hown (host := "") (Or.inl (hw _ (List.mem_of_getElem? (i := 9) rfl))) Via.refl e2 (G.1.ext O0.2) (g := (mkF m 31 #[.val (.int p1), .val (.int p2), .val (.int p1), .val (.int (0 : Int32))] [])) rfl (hb hby at_31)
  obtain ⟨cq4, kq4, q4a, q4b, q4c⟩ := isOf hZ e3 (G.2.1.ext O0.2)
  obtain ⟨_, _, ⟨T4, L4, k4, n4⟩, -, X4, ⟨Lc4, hQ4, l4, y4, z4⟩, st4⟩ := X3.virtualBack hx (y := (⟨"com/example/credlib/credlib/policy/NameRule", "isStart", "(I)Z"⟩ : MethodName)) (z := (⟨"com/example/credlib/credlib/policy/NameRule", "isStart", "(I)Z"⟩ : MethodName)) hown (mvT hZ (hw _ (List.mem_of_getElem? (i := 11) rfl))) (mvT hZ (hw _ (List.mem_of_getElem? (i := 12) rfl))) (notFace_of_selects (args := #[]) (mvT hZ (hw _ (List.mem_of_getElem? (i := 14) rfl)))) (mvT hZ (hw _ (List.mem_of_getElem? (i := 14) rfl))) (mvT hZ (hw _ (List.mem_of_getElem? (i := 13) rfl))) (by decide) (backOf (W := 0) (own_isStart_34 l Z a0 hw [] wENTITY wROLE_NAME G h0 n0 O0 p1 aa0 aa1 aa2 aa3 aa4 aa5 aa6 aa7 aa8 aa9 aa10) hZ (hw _ (List.mem_of_getElem? (i := 15) rfl)) (hw _ (List.mem_of_getElem? (i := 2) rfl)) (by decide) (by decide)) q4a q4c (g := (mkF m 35 #[.val (.int p1), .val (.int p2), .val (.int p1), .val (.int (0 : Int32))] [(.int p1), (.ref wENTITY)])) rfl (by rw [hml]; rfl) (Steps.refl _) (argsL := [(.int p1)]) (rest := []) (lenOf own_pd_0 rfl) rfl (by show 2 * 0 + _ ≤ _; exact Nat.le_of_eq rfl) (hb hby at_35) (fun _ _ => ⟨rfl, e3, (by decide : 0 + 0 ≤ _), (by decide : 0 + 0 ≤ _)⟩)
  dsimp only [Pt.U, Pt.locs, Pt.cells, Pt.slots] at X4 l4 y4 z4 st4 hQ4
  subst l4 y4 z4
  obtain ⟨rfl, N4q, e4⟩ := hQ4
  have N4 := Fr.app N2 N4q
  obtain ⟨T5, X5, e5, st5⟩ := getS2 X4 hx hZ hown (host := "") (Or.inl (hw _ (List.mem_of_getElem? (i := 18) rfl))) Via.refl e4 (G.2.2.1.ext O0.2) (g := (mkF m 47 #[.val (.int p1), .val (.int p2), .val (.int p1), .val (.int (0 : Int32))] [])) rfl (hb hby at_47)
  obtain ⟨cq6, kq6, q6a, q6b, q6c⟩ := isOf hZ e5 (G.2.2.2.1.ext O0.2)
  obtain ⟨_, _, ⟨T6, L6, k6, n6⟩, -, X6, ⟨Lc6, hQ6, l6, y6, z6⟩, st6⟩ := X5.virtualBack hx (y := (⟨"com/example/credlib/credlib/policy/NameRule", "isStart", "(I)Z"⟩ : MethodName)) (z := (⟨"com/example/credlib/credlib/policy/NameRule", "isStart", "(I)Z"⟩ : MethodName)) hown (mvT hZ (hw _ (List.mem_of_getElem? (i := 11) rfl))) (mvT hZ (hw _ (List.mem_of_getElem? (i := 12) rfl))) (notFace_of_selects (args := #[]) (mvT hZ (hw _ (List.mem_of_getElem? (i := 14) rfl)))) (mvT hZ (hw _ (List.mem_of_getElem? (i := 14) rfl))) (mvT hZ (hw _ (List.mem_of_getElem? (i := 13) rfl))) (by decide) (backOf (W := 0) (own_isStart_35 l Z a0 hw [] wENTITY wROLE_NAME G h0 n0 O0 p1 aa0 aa1 aa2 aa3 aa4 aa5 aa6 aa7 aa8 aa9 aa10) hZ (hw _ (List.mem_of_getElem? (i := 15) rfl)) (hw _ (List.mem_of_getElem? (i := 2) rfl)) (by decide) (by decide)) q6a q6c (g := (mkF m 51 #[.val (.int p1), .val (.int p2), .val (.int p1), .val (.int (0 : Int32))] [(.int p1), (.ref wROLE_NAME)])) rfl (by rw [hml]; rfl) (Steps.refl _) (argsL := [(.int p1)]) (rest := []) (lenOf own_pd_0 rfl) rfl (by show 2 * 0 + _ ≤ _; exact Nat.le_of_eq rfl) (hb hby at_51) (fun _ _ => ⟨rfl, e5, (by decide : 0 + 0 ≤ _), (by decide : 0 + 0 ≤ _)⟩)
  dsimp only [Pt.U, Pt.locs, Pt.cells, Pt.slots] at X6 l6 y6 z6 st6 hQ6
  subst l6 y6 z6
  obtain ⟨rfl, N6q, e6⟩ := hQ6
  have N6 := Fr.app N4 N6q
  obtain ⟨fs, hr, hrun, hended, hW, hsame⟩ := X6.leave (v := some (.int (1 : Int32))) (fun h => by rw [Bd.returns] at h; cases h)
  refine ⟨_, _, pre0 _ ?_, hrun, hended, _, _, rfl, ?_, ⟨_, rfl⟩, hW, hsame.mono (by decide) (by decide)⟩
  · show Steps p.tables e below (s₁.setTop (mkF m 0 #[.val (.int p1), .val (.int p2), .unset, .unset] [])) _
    refine XS.iloadN X0.here hx rfl (hb hby at_0) rfl ?_
    show Steps p.tables e below (s₁.setTop (mkF m 1 #[.val (.int p1), .val (.int p2), .unset, .unset] [(.int p2)])) _
    refine XS.iconst X0.here hx rfl (hb hby at_1) ?_
    show Steps p.tables e below (s₁.setTop (mkF m 2 #[.val (.int p1), .val (.int p2), .unset, .unset] [(.int (1 : Int32)), (.int p2)])) _
    refine XS.iand X0.here hx rfl (hb hby at_2) rfl ?_
    show Steps p.tables e below (s₁.setTop (mkF m 3 #[.val (.int p1), .val (.int p2), .unset, .unset] [(.int (p2 &&& (1 : Int32)))])) _
    refine XS.ifNo X0.here hx rfl (hb hby at_3) rfl ((if0 _ _).trans (feq (he : ¬ ((p2 &&& (1 : Int32)) = (0 : Int32)))).1) ?_
    show Steps p.tables e below (s₁.setTop (mkF m 6 #[.val (.int p1), .val (.int p2), .unset, .unset] [])) _
    refine XS.iloadN X0.here hx rfl (hb hby at_6) rfl ?_
    show Steps p.tables e below (s₁.setTop (mkF m 7 #[.val (.int p1), .val (.int p2), .unset, .unset] [(.int p1)])) _
    refine XS.goto X0.here hx rfl (pc0 := 7) (pc' := 15) rfl (hb hby at_7) (by decide) (by decide) ?_
    show Steps p.tables e below (s₁.setTop (mkF m 15 #[.val (.int p1), .val (.int p2), .unset, .unset] [(.int p1)])) _
    refine XS.istoreN X0.here hx rfl (hb hby at_15) rfl (l' := #[.val (.int p1), .val (.int p2), .val (.int p1), .unset]) rfl ?_
    show Steps p.tables e below (s₁.setTop (mkF m 16 #[.val (.int p1), .val (.int p2), .val (.int p1), .unset] [])) _
    refine XS.iloadN X0.here hx rfl (hb hby at_16) rfl ?_
    show Steps p.tables e below (s₁.setTop (mkF m 17 #[.val (.int p1), .val (.int p2), .val (.int p1), .unset] [(.int p1)])) _
    refine st1 _ ?_
    show Steps p.tables e below (T1.setTop (mkF m 20 #[.val (.int p1), .val (.int p2), .val (.int p1), .unset] [(.int (0 : Int32))])) _
    refine XS.istoreN X1.here hx rfl (hb hby at_20) rfl (l' := #[.val (.int p1), .val (.int p2), .val (.int p1), .val (.int (0 : Int32))]) rfl ?_
    show Steps p.tables e below (T1.setTop (mkF m 21 #[.val (.int p1), .val (.int p2), .val (.int p1), .val (.int (0 : Int32))] [])) _
    refine XS.iloadN X1.here hx rfl (hb hby at_21) rfl ?_
    show Steps p.tables e below (T1.setTop (mkF m 22 #[.val (.int p1), .val (.int p2), .val (.int p1), .val (.int (0 : Int32))] [(.int (0 : Int32))])) _
    refine XS.iloadN X1.here hx rfl (hb hby at_22) rfl ?_
    show Steps p.tables e below (T1.setTop (mkF m 23 #[.val (.int p1), .val (.int p2), .val (.int p1), .val (.int (0 : Int32))] [(.int p1), (.int (0 : Int32))])) _
    refine st2 _ ?_
    show Steps p.tables e below (T2.setTop (mkF m 26 #[.val (.int p1), .val (.int p2), .val (.int p1), .val (.int (0 : Int32))] [(.int (0 : Int32)), (.int (0 : Int32))])) _
    refine XS.icmpYes X2.here hx rfl (pc0 := 26) (pc' := 31) rfl (hb hby at_26) rfl (by decide) (by decide) (by decide) ?_
    show Steps p.tables e below (T2.setTop (mkF m 31 #[.val (.int p1), .val (.int p2), .val (.int p1), .val (.int (0 : Int32))] [])) _
    refine st3 _ ?_
    show Steps p.tables e below (T3.setTop (mkF m 34 #[.val (.int p1), .val (.int p2), .val (.int p1), .val (.int (0 : Int32))] [(.ref wENTITY)])) _
    refine XS.iloadN X3.here hx rfl (hb hby at_34) rfl ?_
    show Steps p.tables e below (T3.setTop (mkF m 35 #[.val (.int p1), .val (.int p2), .val (.int p1), .val (.int (0 : Int32))] [(.int p1), (.ref wENTITY)])) _
    refine st4.trans ?_
    show Steps p.tables e below (T4.setTop (mkF m 38 #[.val (.int p1), .val (.int p2), .val (.int p1), .val (.int (0 : Int32))] [(.int (0 : Int32))])) _
    refine XS.ifYes X4.here hx rfl (pc0 := 38) (pc' := 47) rfl (hb hby at_38) rfl (by decide) (by decide) (by decide) ?_
    show Steps p.tables e below (T4.setTop (mkF m 47 #[.val (.int p1), .val (.int p2), .val (.int p1), .val (.int (0 : Int32))] [])) _
    refine st5 _ ?_
    show Steps p.tables e below (T5.setTop (mkF m 50 #[.val (.int p1), .val (.int p2), .val (.int p1), .val (.int (0 : Int32))] [(.ref wROLE_NAME)])) _
    refine XS.iloadN X5.here hx rfl (hb hby at_50) rfl ?_
    show Steps p.tables e below (T5.setTop (mkF m 51 #[.val (.int p1), .val (.int p2), .val (.int p1), .val (.int (0 : Int32))] [(.int p1), (.ref wROLE_NAME)])) _
    refine st6.trans ?_
    show Steps p.tables e below (T6.setTop (mkF m 54 #[.val (.int p1), .val (.int p2), .val (.int p1), .val (.int (0 : Int32))] [(.int (0 : Int32))])) _
    refine XS.ifYes X6.here hx rfl (pc0 := 54) (pc' := 63) rfl (hb hby at_54) rfl (by decide) (by decide) (by decide) ?_
    show Steps p.tables e below (T6.setTop (mkF m 63 #[.val (.int p1), .val (.int p2), .val (.int p1), .val (.int (0 : Int32))] [])) _
    refine XS.iconst X6.here hx rfl (hb hby at_63) ?_
    show Steps p.tables e below (T6.setTop (mkF m 64 #[.val (.int p1), .val (.int p2), .val (.int p1), .val (.int (0 : Int32))] [(.int (1 : Int32))])) _
    exact retN X6 hx (t := .boolean) Bd.returns (by simp) (hb hby at_64) hr
  · exact ⟨rfl, N6⟩
theorem own_or32 (x : Int32) : ((x ||| (32 : Int32)).toInt = x.toInt ∧ 32 ≤ x.toInt % 64) ∨ ((x ||| (32 : Int32)).toInt = x.toInt + 32 ∧ x.toInt % 64 < 32) := by
  have hn : x.toInt = if 2 * x.toBitVec.toNat < 2 ^ 32 then (x.toBitVec.toNat : Int) else (x.toBitVec.toNat : Int) - (2 ^ 32 : Nat) := BitVec.toInt_eq_toNat_cond x.toBitVec
  have hlt : x.toBitVec.toNat < 2 ^ 32 := x.toBitVec.isLt
  have ho : (x ||| (32 : Int32)).toInt = (x.toBitVec ||| 32#32).toInt := rfl
  have hb : x.toBitVec.getLsbD 5 = decide (x.toBitVec.toNat / 2 ^ 5 % 2 = 1) := Nat.testBit_eq_decide_div_mod_eq
  have h32 : ∀ i : Nat, (32#32).getLsbD i = decide (i = 5) := by
    intro i
    have : (32#32) = BitVec.twoPow 32 5 := by decide
    rw [this, BitVec.getLsbD_twoPow]
    by_cases q : i = 5
    · subst q; decide
    · have q' : ¬ 5 = i := fun z => q z.symm
      simp [q, q']
  by_cases q : x.toBitVec.getLsbD 5 = true
  · left
    have e : x.toBitVec ||| 32#32 = x.toBitVec := by
      apply BitVec.eq_of_getLsbD_eq
      intro i hi
      rw [BitVec.getLsbD_or, h32]
      by_cases z : i = 5
      · subst z; simp [q]
      · simp [z]
    rw [q] at hb
    have hb' := of_decide_eq_true hb.symm
    refine ⟨by rw [ho, e]; rfl, ?_⟩
    rw [hn]
    split <;> omega
  · right
    have qf : x.toBitVec.getLsbD 5 = false := by simpa using q
    have e0 : x.toBitVec &&& 32#32 = 0#32 := by
      apply BitVec.eq_of_getLsbD_eq
      intro i hi
      rw [BitVec.getLsbD_and, h32]
      by_cases z : i = 5
      · subst z; rw [qf]; rfl
      · simp [z]
    have e : x.toBitVec ||| 32#32 = x.toBitVec + 32#32 := (BitVec.add_eq_or_of_and_eq_zero _ _ e0).symm
    rw [qf] at hb
    have hb' := of_decide_eq_false hb.symm
    have en : (x.toBitVec + 32#32).toNat = (x.toBitVec.toNat + 32) % 2 ^ 32 := by rw [BitVec.toNat_add]; rfl
    have ei : (x.toBitVec + 32#32).toInt = if 2 * (x.toBitVec + 32#32).toNat < 2 ^ 32 then ((x.toBitVec + 32#32).toNat : Int) else ((x.toBitVec + 32#32).toNat : Int) - (2 ^ 32 : Nat) := BitVec.toInt_eq_toNat_cond _
    rw [en] at ei
    rw [ho, e, ei, hn]
    constructor
    · split <;> split <;> omega
    · split <;> omega
theorem own_reg_0 (x : Int32) (h2 : x.toInt ≤ 47) : (x < (65 : Int32)) ∧ ¬ ((90 : Int32) < x) ∧ (x < (97 : Int32)) ∧ ¬ ((122 : Int32) < x) ∧ (x < (48 : Int32)) ∧ ¬ ((57 : Int32) < x) ∧ ¬ (x = (95 : Int32)) ∧ ((x ||| (32 : Int32)) < (97 : Int32)) ∧ ¬ ((122 : Int32) < (x ||| (32 : Int32))) ∧ ((lcmpW ((x.toInt64) - (48 : Int64)) (0 : Int64)) < (0 : Int32)) ∧ ((lcmpW ((x.toInt64) - (48 : Int64)) (10 : Int64)) < (0 : Int32)) := by
  have ho := own_or32 x
  have hl := c_lsub x.toInt64 48
  have hr := rng64 (x.toInt64 - 48)
  have hx := c_i2l x
  have h3 := rng32 x
  have e65 : (65 : Int32).toInt = 65 := by decide
  have e90 : (90 : Int32).toInt = 90 := by decide
  have e97 : (97 : Int32).toInt = 97 := by decide
  have e122 : (122 : Int32).toInt = 122 := by decide
  have e48 : (48 : Int32).toInt = 48 := by decide
  have e57 : (57 : Int32).toInt = 57 := by decide
  have e95 : (95 : Int32).toInt = 95 := by decide
  have l48 : (48 : Int64).toInt = 48 := by decide
  have l0 : (0 : Int64).toInt = 0 := by decide
  have l10 : (10 : Int64).toInt = 10 := by decide
  rw [lw_lt, lw_lt]
  simp only [Int32.lt_iff_toInt_lt, Int64.lt_iff_toInt_lt, ← Int32.toInt_inj]
  refine ⟨?_, ?_, ?_, ?_, ?_, ?_, ?_, ?_, ?_, ?_, ?_⟩ <;> omega
theorem own_reg_1 (x : Int32) (h1 : 48 ≤ x.toInt) (h2 : x.toInt ≤ 57) : (x < (65 : Int32)) ∧ ¬ ((90 : Int32) < x) ∧ (x < (97 : Int32)) ∧ ¬ ((122 : Int32) < x) ∧ ¬ (x < (48 : Int32)) ∧ ¬ ((57 : Int32) < x) ∧ ¬ (x = (95 : Int32)) ∧ ((x ||| (32 : Int32)) < (97 : Int32)) ∧ ¬ ((122 : Int32) < (x ||| (32 : Int32))) ∧ ¬ ((lcmpW ((x.toInt64) - (48 : Int64)) (0 : Int64)) < (0 : Int32)) ∧ ((lcmpW ((x.toInt64) - (48 : Int64)) (10 : Int64)) < (0 : Int32)) := by
  have ho := own_or32 x
  have hl := c_lsub x.toInt64 48
  have hr := rng64 (x.toInt64 - 48)
  have hx := c_i2l x
  have h3 := rng32 x
  have e65 : (65 : Int32).toInt = 65 := by decide
  have e90 : (90 : Int32).toInt = 90 := by decide
  have e97 : (97 : Int32).toInt = 97 := by decide
  have e122 : (122 : Int32).toInt = 122 := by decide
  have e48 : (48 : Int32).toInt = 48 := by decide
  have e57 : (57 : Int32).toInt = 57 := by decide
  have e95 : (95 : Int32).toInt = 95 := by decide
  have l48 : (48 : Int64).toInt = 48 := by decide
  have l0 : (0 : Int64).toInt = 0 := by decide
  have l10 : (10 : Int64).toInt = 10 := by decide
  rw [lw_lt, lw_lt]
  simp only [Int32.lt_iff_toInt_lt, Int64.lt_iff_toInt_lt, ← Int32.toInt_inj]
  refine ⟨?_, ?_, ?_, ?_, ?_, ?_, ?_, ?_, ?_, ?_, ?_⟩ <;> omega
theorem own_reg_2 (x : Int32) (h1 : 58 ≤ x.toInt) (h2 : x.toInt ≤ 64) : (x < (65 : Int32)) ∧ ¬ ((90 : Int32) < x) ∧ (x < (97 : Int32)) ∧ ¬ ((122 : Int32) < x) ∧ ¬ (x < (48 : Int32)) ∧ ((57 : Int32) < x) ∧ ¬ (x = (95 : Int32)) ∧ ((x ||| (32 : Int32)) < (97 : Int32)) ∧ ¬ ((122 : Int32) < (x ||| (32 : Int32))) ∧ ¬ ((lcmpW ((x.toInt64) - (48 : Int64)) (0 : Int64)) < (0 : Int32)) ∧ ¬ ((lcmpW ((x.toInt64) - (48 : Int64)) (10 : Int64)) < (0 : Int32)) := by
  have ho := own_or32 x
  have hl := c_lsub x.toInt64 48
  have hr := rng64 (x.toInt64 - 48)
  have hx := c_i2l x
  have h3 := rng32 x
  have e65 : (65 : Int32).toInt = 65 := by decide
  have e90 : (90 : Int32).toInt = 90 := by decide
  have e97 : (97 : Int32).toInt = 97 := by decide
  have e122 : (122 : Int32).toInt = 122 := by decide
  have e48 : (48 : Int32).toInt = 48 := by decide
  have e57 : (57 : Int32).toInt = 57 := by decide
  have e95 : (95 : Int32).toInt = 95 := by decide
  have l48 : (48 : Int64).toInt = 48 := by decide
  have l0 : (0 : Int64).toInt = 0 := by decide
  have l10 : (10 : Int64).toInt = 10 := by decide
  rw [lw_lt, lw_lt]
  simp only [Int32.lt_iff_toInt_lt, Int64.lt_iff_toInt_lt, ← Int32.toInt_inj]
  refine ⟨?_, ?_, ?_, ?_, ?_, ?_, ?_, ?_, ?_, ?_, ?_⟩ <;> omega
theorem own_reg_3 (x : Int32) (h1 : 65 ≤ x.toInt) (h2 : x.toInt ≤ 90) : ¬ (x < (65 : Int32)) ∧ ¬ ((90 : Int32) < x) ∧ (x < (97 : Int32)) ∧ ¬ ((122 : Int32) < x) ∧ ¬ (x < (48 : Int32)) ∧ ((57 : Int32) < x) ∧ ¬ (x = (95 : Int32)) ∧ ¬ ((x ||| (32 : Int32)) < (97 : Int32)) ∧ ¬ ((122 : Int32) < (x ||| (32 : Int32))) ∧ ¬ ((lcmpW ((x.toInt64) - (48 : Int64)) (0 : Int64)) < (0 : Int32)) ∧ ¬ ((lcmpW ((x.toInt64) - (48 : Int64)) (10 : Int64)) < (0 : Int32)) := by
  have ho := own_or32 x
  have hl := c_lsub x.toInt64 48
  have hr := rng64 (x.toInt64 - 48)
  have hx := c_i2l x
  have h3 := rng32 x
  have e65 : (65 : Int32).toInt = 65 := by decide
  have e90 : (90 : Int32).toInt = 90 := by decide
  have e97 : (97 : Int32).toInt = 97 := by decide
  have e122 : (122 : Int32).toInt = 122 := by decide
  have e48 : (48 : Int32).toInt = 48 := by decide
  have e57 : (57 : Int32).toInt = 57 := by decide
  have e95 : (95 : Int32).toInt = 95 := by decide
  have l48 : (48 : Int64).toInt = 48 := by decide
  have l0 : (0 : Int64).toInt = 0 := by decide
  have l10 : (10 : Int64).toInt = 10 := by decide
  rw [lw_lt, lw_lt]
  simp only [Int32.lt_iff_toInt_lt, Int64.lt_iff_toInt_lt, ← Int32.toInt_inj]
  refine ⟨?_, ?_, ?_, ?_, ?_, ?_, ?_, ?_, ?_, ?_, ?_⟩ <;> omega
theorem own_reg_4 (x : Int32) (h1 : 91 ≤ x.toInt) (h2 : x.toInt ≤ 94) : ¬ (x < (65 : Int32)) ∧ ((90 : Int32) < x) ∧ (x < (97 : Int32)) ∧ ¬ ((122 : Int32) < x) ∧ ¬ (x < (48 : Int32)) ∧ ((57 : Int32) < x) ∧ ¬ (x = (95 : Int32)) ∧ ¬ ((x ||| (32 : Int32)) < (97 : Int32)) ∧ ((122 : Int32) < (x ||| (32 : Int32))) ∧ ¬ ((lcmpW ((x.toInt64) - (48 : Int64)) (0 : Int64)) < (0 : Int32)) ∧ ¬ ((lcmpW ((x.toInt64) - (48 : Int64)) (10 : Int64)) < (0 : Int32)) := by
  have ho := own_or32 x
  have hl := c_lsub x.toInt64 48
  have hr := rng64 (x.toInt64 - 48)
  have hx := c_i2l x
  have h3 := rng32 x
  have e65 : (65 : Int32).toInt = 65 := by decide
  have e90 : (90 : Int32).toInt = 90 := by decide
  have e97 : (97 : Int32).toInt = 97 := by decide
  have e122 : (122 : Int32).toInt = 122 := by decide
  have e48 : (48 : Int32).toInt = 48 := by decide
  have e57 : (57 : Int32).toInt = 57 := by decide
  have e95 : (95 : Int32).toInt = 95 := by decide
  have l48 : (48 : Int64).toInt = 48 := by decide
  have l0 : (0 : Int64).toInt = 0 := by decide
  have l10 : (10 : Int64).toInt = 10 := by decide
  rw [lw_lt, lw_lt]
  simp only [Int32.lt_iff_toInt_lt, Int64.lt_iff_toInt_lt, ← Int32.toInt_inj]
  refine ⟨?_, ?_, ?_, ?_, ?_, ?_, ?_, ?_, ?_, ?_, ?_⟩ <;> omega
theorem own_reg_5 (x : Int32) (h1 : 95 ≤ x.toInt) (h2 : x.toInt ≤ 95) : ¬ (x < (65 : Int32)) ∧ ((90 : Int32) < x) ∧ (x < (97 : Int32)) ∧ ¬ ((122 : Int32) < x) ∧ ¬ (x < (48 : Int32)) ∧ ((57 : Int32) < x) ∧ (x = (95 : Int32)) ∧ ¬ ((x ||| (32 : Int32)) < (97 : Int32)) ∧ ((122 : Int32) < (x ||| (32 : Int32))) ∧ ¬ ((lcmpW ((x.toInt64) - (48 : Int64)) (0 : Int64)) < (0 : Int32)) ∧ ¬ ((lcmpW ((x.toInt64) - (48 : Int64)) (10 : Int64)) < (0 : Int32)) := by
  have ho := own_or32 x
  have hl := c_lsub x.toInt64 48
  have hr := rng64 (x.toInt64 - 48)
  have hx := c_i2l x
  have h3 := rng32 x
  have e65 : (65 : Int32).toInt = 65 := by decide
  have e90 : (90 : Int32).toInt = 90 := by decide
  have e97 : (97 : Int32).toInt = 97 := by decide
  have e122 : (122 : Int32).toInt = 122 := by decide
  have e48 : (48 : Int32).toInt = 48 := by decide
  have e57 : (57 : Int32).toInt = 57 := by decide
  have e95 : (95 : Int32).toInt = 95 := by decide
  have l48 : (48 : Int64).toInt = 48 := by decide
  have l0 : (0 : Int64).toInt = 0 := by decide
  have l10 : (10 : Int64).toInt = 10 := by decide
  rw [lw_lt, lw_lt]
  simp only [Int32.lt_iff_toInt_lt, Int64.lt_iff_toInt_lt, ← Int32.toInt_inj]
  refine ⟨?_, ?_, ?_, ?_, ?_, ?_, ?_, ?_, ?_, ?_, ?_⟩ <;> omega
theorem own_reg_6 (x : Int32) (h1 : 96 ≤ x.toInt) (h2 : x.toInt ≤ 96) : ¬ (x < (65 : Int32)) ∧ ((90 : Int32) < x) ∧ (x < (97 : Int32)) ∧ ¬ ((122 : Int32) < x) ∧ ¬ (x < (48 : Int32)) ∧ ((57 : Int32) < x) ∧ ¬ (x = (95 : Int32)) ∧ ((x ||| (32 : Int32)) < (97 : Int32)) ∧ ¬ ((122 : Int32) < (x ||| (32 : Int32))) ∧ ¬ ((lcmpW ((x.toInt64) - (48 : Int64)) (0 : Int64)) < (0 : Int32)) ∧ ¬ ((lcmpW ((x.toInt64) - (48 : Int64)) (10 : Int64)) < (0 : Int32)) := by
  have ho := own_or32 x
  have hl := c_lsub x.toInt64 48
  have hr := rng64 (x.toInt64 - 48)
  have hx := c_i2l x
  have h3 := rng32 x
  have e65 : (65 : Int32).toInt = 65 := by decide
  have e90 : (90 : Int32).toInt = 90 := by decide
  have e97 : (97 : Int32).toInt = 97 := by decide
  have e122 : (122 : Int32).toInt = 122 := by decide
  have e48 : (48 : Int32).toInt = 48 := by decide
  have e57 : (57 : Int32).toInt = 57 := by decide
  have e95 : (95 : Int32).toInt = 95 := by decide
  have l48 : (48 : Int64).toInt = 48 := by decide
  have l0 : (0 : Int64).toInt = 0 := by decide
  have l10 : (10 : Int64).toInt = 10 := by decide
  rw [lw_lt, lw_lt]
  simp only [Int32.lt_iff_toInt_lt, Int64.lt_iff_toInt_lt, ← Int32.toInt_inj]
  refine ⟨?_, ?_, ?_, ?_, ?_, ?_, ?_, ?_, ?_, ?_, ?_⟩ <;> omega
theorem own_reg_7 (x : Int32) (h1 : 97 ≤ x.toInt) (h2 : x.toInt ≤ 122) : ¬ (x < (65 : Int32)) ∧ ((90 : Int32) < x) ∧ ¬ (x < (97 : Int32)) ∧ ¬ ((122 : Int32) < x) ∧ ¬ (x < (48 : Int32)) ∧ ((57 : Int32) < x) ∧ ¬ (x = (95 : Int32)) ∧ ¬ ((x ||| (32 : Int32)) < (97 : Int32)) ∧ ¬ ((122 : Int32) < (x ||| (32 : Int32))) ∧ ¬ ((lcmpW ((x.toInt64) - (48 : Int64)) (0 : Int64)) < (0 : Int32)) ∧ ¬ ((lcmpW ((x.toInt64) - (48 : Int64)) (10 : Int64)) < (0 : Int32)) := by
  have ho := own_or32 x
  have hl := c_lsub x.toInt64 48
  have hr := rng64 (x.toInt64 - 48)
  have hx := c_i2l x
  have h3 := rng32 x
  have e65 : (65 : Int32).toInt = 65 := by decide
  have e90 : (90 : Int32).toInt = 90 := by decide
  have e97 : (97 : Int32).toInt = 97 := by decide
  have e122 : (122 : Int32).toInt = 122 := by decide
  have e48 : (48 : Int32).toInt = 48 := by decide
  have e57 : (57 : Int32).toInt = 57 := by decide
  have e95 : (95 : Int32).toInt = 95 := by decide
  have l48 : (48 : Int64).toInt = 48 := by decide
  have l0 : (0 : Int64).toInt = 0 := by decide
  have l10 : (10 : Int64).toInt = 10 := by decide
  rw [lw_lt, lw_lt]
  simp only [Int32.lt_iff_toInt_lt, Int64.lt_iff_toInt_lt, ← Int32.toInt_inj]
  refine ⟨?_, ?_, ?_, ?_, ?_, ?_, ?_, ?_, ?_, ?_, ?_⟩ <;> omega
theorem own_reg_8 (x : Int32) (h1 : 123 ≤ x.toInt) : ¬ (x < (65 : Int32)) ∧ ((90 : Int32) < x) ∧ ¬ (x < (97 : Int32)) ∧ ((122 : Int32) < x) ∧ ¬ (x < (48 : Int32)) ∧ ((57 : Int32) < x) ∧ ¬ (x = (95 : Int32)) ∧ ¬ ((x ||| (32 : Int32)) < (97 : Int32)) ∧ ((122 : Int32) < (x ||| (32 : Int32))) ∧ ¬ ((lcmpW ((x.toInt64) - (48 : Int64)) (0 : Int64)) < (0 : Int32)) ∧ ¬ ((lcmpW ((x.toInt64) - (48 : Int64)) (10 : Int64)) < (0 : Int32)) := by
  have ho := own_or32 x
  have hl := c_lsub x.toInt64 48
  have hr := rng64 (x.toInt64 - 48)
  have hx := c_i2l x
  have h3 := rng32 x
  have e65 : (65 : Int32).toInt = 65 := by decide
  have e90 : (90 : Int32).toInt = 90 := by decide
  have e97 : (97 : Int32).toInt = 97 := by decide
  have e122 : (122 : Int32).toInt = 122 := by decide
  have e48 : (48 : Int32).toInt = 48 := by decide
  have e57 : (57 : Int32).toInt = 57 := by decide
  have e95 : (95 : Int32).toInt = 95 := by decide
  have l48 : (48 : Int64).toInt = 48 := by decide
  have l0 : (0 : Int64).toInt = 0 := by decide
  have l10 : (10 : Int64).toInt = 10 := by decide
  rw [lw_lt, lw_lt]
  simp only [Int32.lt_iff_toInt_lt, Int64.lt_iff_toInt_lt, ← Int32.toInt_inj]
  refine ⟨?_, ?_, ?_, ?_, ?_, ?_, ?_, ?_, ?_, ?_, ?_⟩ <;> omega
theorem own_law (l : Launch) (Z : State) (a0 : Array Value) (hw : ∀ d ∈ tables_1, d.before a0 Z = true) (ws : List Jvm.Cond) (wENTITY : Addr) (wROLE_NAME : Addr) (G : OwnG Z wENTITY wROLE_NAME) (h0 : Heap) (n0 : Nat) (O0 : Old Z n0 h0) (p1 : Int32) (p2 : Int32) :
    MetFree l x (head1 (Jvm.Cond.code x code maxLocals ret :: ws) room_1) (fun a U => a = #[(.int p1), (.int p2)] ∧ Z.Warmed39 U.vm ∧ U.heap = h0) (fun _ _ _ _ _ => True) (fun _ U o U' => ∃ v L, o = .returned v ∧ (v = some (.int 1) ∧ Fr n0 L) ∧ FrameEnd U o U' L room_1.cells room_1.slots) := by
  by_cases he : (p2 &&& (1 : Int32)) = (0 : Int32)
  · have hn : ((p1 &&& (255 : Int32)).toInt ≤ 47) ∨ (48 ≤ (p1 &&& (255 : Int32)).toInt ∧ (p1 &&& (255 : Int32)).toInt ≤ 57) ∨ (58 ≤ (p1 &&& (255 : Int32)).toInt ∧ (p1 &&& (255 : Int32)).toInt ≤ 64) ∨ (65 ≤ (p1 &&& (255 : Int32)).toInt ∧ (p1 &&& (255 : Int32)).toInt ≤ 90) ∨ (91 ≤ (p1 &&& (255 : Int32)).toInt ∧ (p1 &&& (255 : Int32)).toInt ≤ 94) ∨ (95 ≤ (p1 &&& (255 : Int32)).toInt ∧ (p1 &&& (255 : Int32)).toInt ≤ 95) ∨ (96 ≤ (p1 &&& (255 : Int32)).toInt ∧ (p1 &&& (255 : Int32)).toInt ≤ 96) ∨ (97 ≤ (p1 &&& (255 : Int32)).toInt ∧ (p1 &&& (255 : Int32)).toInt ≤ 122) ∨ (123 ≤ (p1 &&& (255 : Int32)).toInt) := by omega
    rcases hn with h | ⟨h, h'⟩ | ⟨h, h'⟩ | ⟨h, h'⟩ | ⟨h, h'⟩ | ⟨h, h'⟩ | ⟨h, h'⟩ | ⟨h, h'⟩ | h
    · obtain ⟨aa0, aa1, aa2, aa3, aa4, aa5, aa6, aa7, aa8, aa9, aa10⟩ := own_reg_0 (p1 &&& (255 : Int32)) h
      exact own_law_00 l Z a0 hw ws wENTITY wROLE_NAME G h0 n0 O0 p1 p2 he aa0 aa1 aa2 aa3 aa4 aa5 aa6 aa7 aa8 aa9 aa10
    · obtain ⟨aa0, aa1, aa2, aa3, aa4, aa5, aa6, aa7, aa8, aa9, aa10⟩ := own_reg_1 (p1 &&& (255 : Int32)) h h'
      exact own_law_01 l Z a0 hw ws wENTITY wROLE_NAME G h0 n0 O0 p1 p2 he aa0 aa1 aa2 aa3 aa4 aa5 aa6 aa7 aa8 aa9 aa10
    · obtain ⟨aa0, aa1, aa2, aa3, aa4, aa5, aa6, aa7, aa8, aa9, aa10⟩ := own_reg_2 (p1 &&& (255 : Int32)) h h'
      exact own_law_02 l Z a0 hw ws wENTITY wROLE_NAME G h0 n0 O0 p1 p2 he aa0 aa1 aa2 aa3 aa4 aa5 aa6 aa7 aa8 aa9 aa10
    · obtain ⟨aa0, aa1, aa2, aa3, aa4, aa5, aa6, aa7, aa8, aa9, aa10⟩ := own_reg_3 (p1 &&& (255 : Int32)) h h'
      exact own_law_03 l Z a0 hw ws wENTITY wROLE_NAME G h0 n0 O0 p1 p2 he aa0 aa1 aa2 aa3 aa4 aa5 aa6 aa7 aa8 aa9 aa10
    · obtain ⟨aa0, aa1, aa2, aa3, aa4, aa5, aa6, aa7, aa8, aa9, aa10⟩ := own_reg_4 (p1 &&& (255 : Int32)) h h'
      exact own_law_04 l Z a0 hw ws wENTITY wROLE_NAME G h0 n0 O0 p1 p2 he aa0 aa1 aa2 aa3 aa4 aa5 aa6 aa7 aa8 aa9 aa10
    · obtain ⟨aa0, aa1, aa2, aa3, aa4, aa5, aa6, aa7, aa8, aa9, aa10⟩ := own_reg_5 (p1 &&& (255 : Int32)) h h'
      exact own_law_05 l Z a0 hw ws wENTITY wROLE_NAME G h0 n0 O0 p1 p2 he aa0 aa1 aa2 aa3 aa4 aa5 aa6 aa7 aa8 aa9 aa10
    · obtain ⟨aa0, aa1, aa2, aa3, aa4, aa5, aa6, aa7, aa8, aa9, aa10⟩ := own_reg_6 (p1 &&& (255 : Int32)) h h'
      exact own_law_06 l Z a0 hw ws wENTITY wROLE_NAME G h0 n0 O0 p1 p2 he aa0 aa1 aa2 aa3 aa4 aa5 aa6 aa7 aa8 aa9 aa10
    · obtain ⟨aa0, aa1, aa2, aa3, aa4, aa5, aa6, aa7, aa8, aa9, aa10⟩ := own_reg_7 (p1 &&& (255 : Int32)) h h'
      exact own_law_07 l Z a0 hw ws wENTITY wROLE_NAME G h0 n0 O0 p1 p2 he aa0 aa1 aa2 aa3 aa4 aa5 aa6 aa7 aa8 aa9 aa10
    · obtain ⟨aa0, aa1, aa2, aa3, aa4, aa5, aa6, aa7, aa8, aa9, aa10⟩ := own_reg_8 (p1 &&& (255 : Int32)) h
      exact own_law_08 l Z a0 hw ws wENTITY wROLE_NAME G h0 n0 O0 p1 p2 he aa0 aa1 aa2 aa3 aa4 aa5 aa6 aa7 aa8 aa9 aa10
  · have hn : (p1.toInt ≤ 47) ∨ (48 ≤ p1.toInt ∧ p1.toInt ≤ 57) ∨ (58 ≤ p1.toInt ∧ p1.toInt ≤ 64) ∨ (65 ≤ p1.toInt ∧ p1.toInt ≤ 90) ∨ (91 ≤ p1.toInt ∧ p1.toInt ≤ 94) ∨ (95 ≤ p1.toInt ∧ p1.toInt ≤ 95) ∨ (96 ≤ p1.toInt ∧ p1.toInt ≤ 96) ∨ (97 ≤ p1.toInt ∧ p1.toInt ≤ 122) ∨ (123 ≤ p1.toInt) := by omega
    rcases hn with h | ⟨h, h'⟩ | ⟨h, h'⟩ | ⟨h, h'⟩ | ⟨h, h'⟩ | ⟨h, h'⟩ | ⟨h, h'⟩ | ⟨h, h'⟩ | h
    · obtain ⟨aa0, aa1, aa2, aa3, aa4, aa5, aa6, aa7, aa8, aa9, aa10⟩ := own_reg_0 p1 h
      exact own_law_10 l Z a0 hw ws wENTITY wROLE_NAME G h0 n0 O0 p1 p2 he aa0 aa1 aa2 aa3 aa4 aa5 aa6 aa7 aa8 aa9 aa10
    · obtain ⟨aa0, aa1, aa2, aa3, aa4, aa5, aa6, aa7, aa8, aa9, aa10⟩ := own_reg_1 p1 h h'
      exact own_law_11 l Z a0 hw ws wENTITY wROLE_NAME G h0 n0 O0 p1 p2 he aa0 aa1 aa2 aa3 aa4 aa5 aa6 aa7 aa8 aa9 aa10
    · obtain ⟨aa0, aa1, aa2, aa3, aa4, aa5, aa6, aa7, aa8, aa9, aa10⟩ := own_reg_2 p1 h h'
      exact own_law_12 l Z a0 hw ws wENTITY wROLE_NAME G h0 n0 O0 p1 p2 he aa0 aa1 aa2 aa3 aa4 aa5 aa6 aa7 aa8 aa9 aa10
    · obtain ⟨aa0, aa1, aa2, aa3, aa4, aa5, aa6, aa7, aa8, aa9, aa10⟩ := own_reg_3 p1 h h'
      exact own_law_13 l Z a0 hw ws wENTITY wROLE_NAME G h0 n0 O0 p1 p2 he aa0 aa1 aa2 aa3 aa4 aa5 aa6 aa7 aa8 aa9 aa10
    · obtain ⟨aa0, aa1, aa2, aa3, aa4, aa5, aa6, aa7, aa8, aa9, aa10⟩ := own_reg_4 p1 h h'
      exact own_law_14 l Z a0 hw ws wENTITY wROLE_NAME G h0 n0 O0 p1 p2 he aa0 aa1 aa2 aa3 aa4 aa5 aa6 aa7 aa8 aa9 aa10
    · obtain ⟨aa0, aa1, aa2, aa3, aa4, aa5, aa6, aa7, aa8, aa9, aa10⟩ := own_reg_5 p1 h h'
      exact own_law_15 l Z a0 hw ws wENTITY wROLE_NAME G h0 n0 O0 p1 p2 he aa0 aa1 aa2 aa3 aa4 aa5 aa6 aa7 aa8 aa9 aa10
    · obtain ⟨aa0, aa1, aa2, aa3, aa4, aa5, aa6, aa7, aa8, aa9, aa10⟩ := own_reg_6 p1 h h'
      exact own_law_16 l Z a0 hw ws wENTITY wROLE_NAME G h0 n0 O0 p1 p2 he aa0 aa1 aa2 aa3 aa4 aa5 aa6 aa7 aa8 aa9 aa10
    · obtain ⟨aa0, aa1, aa2, aa3, aa4, aa5, aa6, aa7, aa8, aa9, aa10⟩ := own_reg_7 p1 h h'
      exact own_law_17 l Z a0 hw ws wENTITY wROLE_NAME G h0 n0 O0 p1 p2 he aa0 aa1 aa2 aa3 aa4 aa5 aa6 aa7 aa8 aa9 aa10
    · obtain ⟨aa0, aa1, aa2, aa3, aa4, aa5, aa6, aa7, aa8, aa9, aa10⟩ := own_reg_8 p1 h
      exact own_law_18 l Z a0 hw ws wENTITY wROLE_NAME G h0 n0 O0 p1 p2 he aa0 aa1 aa2 aa3 aa4 aa5 aa6 aa7 aa8 aa9 aa10
set_option maxRecDepth 65536 in
set_option maxHeartbeats 40000000 in
theorem comes_1 {Post : Tables → Env → Array Value → State → Outcome → State → Prop} (hpost : ∀ tb e args s v u, (limb_1_1.after args s (.returned v) u = true ∧ limb_1_2.after args s (.returned v) u = true ∧ True) → FrameEnd s (.returned v) u (Jvm.fieldLocs frame_1_writes args s ++ Jvm.arrayLocs frame_1_arrays args s ++ Jvm.staticLocs frame_1_statics s) 0 0 → Post tb e args s (.returned v) u) :
    ArmFor flags0 classFile x code maxLocals ret World_1 tables_1 room_1 Calls_1 rest_1 Pre_1 Post := by
  intro l hfl _ _ p e ha hc hk s m args below hf hA hF happ hP
  obtain ⟨hcalls, hrest, hpre⟩ := hP
  obtain ⟨-, -, -, hnamed, -, -, -, hat⟩ := (Spec.applies_iff hf).mp happ
  obtain ⟨hg, hn⟩ := and_e (Cond.before_iff.mp (show (Jvm.Cond.and given_1 narrow_1).before args s = true from hpre))
  obtain ⟨hgv0, hgm0⟩ := and_e hg
  obtain ⟨hgv1, hgm1⟩ := and_e hgm0
  have hgv2 := hgm1
  obtain ⟨w0, w1, rfl⟩ : ∃ w0 w1 : Value, args = #[w0, w1] := by
    have hs : args.size = 2 := by simpa [Cond.value, given_1] using hgv0
    obtain ⟨L⟩ := args
    match L, hs with
    | [w0, w1], _ => exact ⟨w0, w1, rfl⟩
  have hw := fun d (hd : d ∈ tables_1) => atoms_spec (ws := Jvm.Cond.code x code maxLocals ret :: tables_1) hat d (List.mem_cons_of_mem _ hd)
  have hfit : Fit s := fun {y c} hc i hi => by
    obtain ⟨ha, rfl⟩ := Array.getElem?_eq_some_iff.mp hc
    have q := List.all_eq_true.mp ((Array.all_eq_true_iff_forall_mem.mp hF) _ (Array.getElem_mem ha)) i (List.mem_range.mpr hi)
    simpa [Array.getElem?_eq_getElem hi] using q
  obtain ⟨i0, ei0⟩ := is_v hgv1
  obtain rfl : w0 = (.int i0) := Option.some.inj ei0
  obtain ⟨i1, ei1⟩ := is_v hgv2
  obtain rfl : w1 = (.int i1) := Option.some.inj ei1
  obtain ⟨hc0, hm0⟩ := and_e hn
  obtain ⟨hc1, hm1⟩ := and_e hm0
  obtain ⟨hc2, hm2⟩ := and_e hm1
  obtain ⟨hc3, hm3⟩ := and_e hm2
  obtain ⟨hc4, hm4⟩ := and_e hm3
  have hc5 := hm4
  obtain ⟨wENTITY, ev_wENTITY⟩ := exa_v hc0
  obtain ⟨wROLE_NAME, ev_wROLE_NAME⟩ := exa_v hc2
  have gf0 := Sta.start ev_wENTITY (Or.inr ⟨(hw _ (List.mem_of_getElem? (i := 2) rfl)), (hw _ (List.mem_of_getElem? (i := 10) rfl))⟩)
  have gf1 := Exa.start ev_wENTITY hc0
  have gf2 := Sta.start ev_wROLE_NAME (Or.inr ⟨(hw _ (List.mem_of_getElem? (i := 2) rfl)), (hw _ (List.mem_of_getElem? (i := 19) rfl))⟩)
  have gf3 := Exa.start ev_wROLE_NAME hc2
  have gf4 := Fld.start ((fld_at ev_wENTITY).symm.trans (own_eqi hc1))
  have gf5 := Fld.start ((fld_at ev_wROLE_NAME).symm.trans (own_eqi hc3))
  have gf6 := Fld.start ((fld_at ev_wENTITY).symm.trans (own_eqi hc4))
  have gf7 := Fld.start ((fld_at ev_wROLE_NAME).symm.trans (own_eqi hc5))
  have G : OwnG s wENTITY wROLE_NAME := ⟨gf0, gf1, gf2, gf3, gf4, gf5, gf6, gf7, Fld.ne gf4 gf5 (by decide)⟩
  obtain ⟨n, o, h1, h2, h3, _, L, rfl, ⟨rfl, N⟩, hq⟩ := own_law l s _ hw tables_1 wENTITY wROLE_NAME G s.heap s.heap.size (Old.start s) i0 i1 p e ha hc hk s m _ below hf ((Spec.applies_iff_loose hf).mp happ).1 ⟨rfl, State.Warmed39.refl s, rfl⟩ trivial
  exact ⟨n, _, h1, h2, h3, hpost _ _ _ _ _ _ ⟨Cond.after_iff.mpr rfl, Cond.after_iff.mpr (eq_i res_at (Term.int_eval (1)) rfl), trivial⟩ ⟨hq.1, hq.2.1, (hq.2.2.sift fun y hy => Or.inr (N y hy)).mono (by decide) (by decide)⟩⟩
theorem main_1_1 : Claimed_1_1 := comes_1 fun _ _ _ _ _ _ h hF => ⟨h.1, hF⟩
theorem main_1_2 : Claimed_1_2 := comes_1 fun _ _ _ _ _ _ h hF => ⟨h.2.1, hF⟩
end Jvm.Pilot.@@N@@
namespace Jvm.Pilot.@@N@@
open Jvm Jvm.ClassFile Sem Op Lib Jvm.Free Jvm.Stand Jvm.Pilot.@@N@@.Jvm.D
/-! MADE BY PROGRAM (witnessworld.py) out of the Statement's table words and the real class files: 12 classes; the members and pool entries that the words name. The judged class is class 1, her method 2. -/
namespace start1
open Jvm.ClassFile
def u (s : String) : CpInfo := .utf8 (stringToUtf16 s)
/-- a pool by its gaps: so many unusable entries, then the entry; so many at the end -/
def gap : Nat → List CpInfo → List CpInfo
  | 0, r => r
  | n + 1, r => .unusable :: gap n r
def poolList (es : List (Nat × CpInfo)) (last : Nat) : List CpInfo := es.foldr (fun e r => gap e.1 (e.2 :: r)) (gap last [])
def pool (es : List (Nat × CpInfo)) (last : Nat) : Array CpInfo := ⟨poolList es last⟩
def fileOf (pool : Array CpInfo) (this : Nat) (attrs : Array Attribute := #[]) (ms : Array MethodInfo := #[]) (fl : Nat := 33) (sup : Nat := 0) (ifs : Array Nat := #[]) (fds : Array FieldInfo := #[]) : ClassFile where
  minorVersion := 0
  majorVersion := 65
  constantPool := pool
  accessFlags := fl
  thisClass := this
  superClass := sup
  interfaces := ifs
  fields := fds
  methods := ms
  attributes := attrs
def plain (name : String) (sup : Option ClassId) : Class where
  name := name
  kind := .ordinary
  loader := none
  accessFlags := 33
  super := sup
  interfaces := #[]
  cf := none
  fields := #[]
  methods := #[]
  instanceTypes := #[]
  staticTypes := #[]
  resolved := #[]
  callSites := []
  init := .initialized
  statics := none
  mirror := none

def pool0 : Array CpInfo := pool [(5, u "<init>"), (0, u "()V"), (1, .class_ 10), (1, u "java/lang/Object")] 113

def k0m0 : Method := { name := "<init>", desc := "()V", sig := { parameters := [], returnType := none }, accessFlags := 1, code := none }
/-- java/lang/Object -/
def k0 : Class := { plain "java/lang/Object" none with
  accessFlags := 33
  interfaces := #[]
  cf := some (fileOf pool0 8 #[] #[{ accessFlags := 1, nameIndex := 5, descriptorIndex := 6, attributes := #[] }] 33 0 #[] #[])
  fields := #[]
  methods := #[k0m0]
  instanceTypes := #[]
  staticTypes := #[]
  resolved := Array.replicate 124 none
  statics := none }

def pool1 : Array CpInfo := pool [(2, .class_ 4), (1, u "java/lang/Object"), (0, u "<init>"), (0, u "()V"), (0, .long 48), (1, .long 10), (1, .methodref 12 13), (0, .class_ 14), (0, .nameAndType 15 16), (0, u "com/example/credlib/credlib/policy/NameRule"), (0, u "isPart"), (0, u "(I)Z"), (0, .methodref 18 19), (0, .class_ 20), (0, .nameAndType 21 16), (0, u "com/example/credlib/credlib/policy/NameRuleIsPartPinLaw"), (0, u "expected"), (0, .fieldref 12 23), (0, .nameAndType 24 25), (0, u "ENTITY"), (0, u "Lcom/example/credlib/credlib/policy/NameRule;"), (0, .methodref 12 27), (0, .nameAndType 28 16), (0, u "isStart"), (0, .fieldref 12 30), (0, .nameAndType 31 25), (0, u "ROLE_NAME"), (3, u "law"), (0, u "(II)Z")] 2

def k1m0 : Method := { name := "<init>", desc := "()V", sig := { parameters := [], returnType := none }, accessFlags := 2, code := none }
def k1c1 : Code := { maxStack := 4, maxLocals := 7, code := method_2_code, exceptionTable := #[], attributes := #[] }
def k1m1 : Method := { name := "expected", desc := "(I)Z", sig := { parameters := [.int], returnType := some .boolean }, accessFlags := 10, code := some k1c1 }
def k1c2 : Code := { maxStack := 2, maxLocals := 4, code := code, exceptionTable := #[], attributes := #[] }
def k1m2 : Method := { name := "law", desc := "(II)Z", sig := { parameters := [.int, .int], returnType := some .boolean }, accessFlags := 9, code := some k1c2 }
/-- com/example/credlib/credlib/policy/NameRuleIsPartPinLaw -/
def k1 : Class := { plain "com/example/credlib/credlib/policy/NameRuleIsPartPinLaw" (some 0) with
  accessFlags := 49
  interfaces := #[]
  cf := some (fileOf pool1 18 #[] #[{ accessFlags := 2, nameIndex := 5, descriptorIndex := 6, attributes := #[] }, { accessFlags := 10, nameIndex := 21, descriptorIndex := 16, attributes := #[] }, { accessFlags := 9, nameIndex := 35, descriptorIndex := 36, attributes := #[] }] 49 2 #[] #[])
  fields := #[]
  methods := #[k1m0, k1m1, k1m2]
  instanceTypes := #[]
  staticTypes := #[]
  resolved := Array.replicate 39 none
  statics := none }

def pool2 : Array CpInfo := pool [(1, .class_ 2), (0, u "java/lang/constant/Constable"), (0, .class_ 4), (0, u "java/lang/Object")] 6

/-- java/lang/constant/Constable -/
def k2 : Class := { plain "java/lang/constant/Constable" (some 0) with
  accessFlags := 1537
  interfaces := #[]
  cf := some (fileOf pool2 1 #[] #[] 1537 3 #[] #[])
  fields := #[]
  methods := #[]
  instanceTypes := #[]
  staticTypes := #[]
  resolved := Array.replicate 11 none
  statics := none }

def pool3 : Array CpInfo := pool [(1, .class_ 2), (0, u "java/lang/Comparable"), (0, .class_ 4), (0, u "java/lang/Object")] 7

/-- java/lang/Comparable -/
def k3 : Class := { plain "java/lang/Comparable" (some 0) with
  accessFlags := 1537
  interfaces := #[]
  cf := some (fileOf pool3 1 #[] #[] 1537 3 #[] #[])
  fields := #[]
  methods := #[]
  instanceTypes := #[]
  staticTypes := #[]
  resolved := Array.replicate 12 none
  statics := none }

def pool4 : Array CpInfo := pool [(1, .class_ 2), (0, u "java/io/Serializable"), (0, .class_ 4), (0, u "java/lang/Object")] 2

/-- java/io/Serializable -/
def k4 : Class := { plain "java/io/Serializable" (some 0) with
  accessFlags := 1537
  interfaces := #[]
  cf := some (fileOf pool4 1 #[] #[] 1537 3 #[] #[])
  fields := #[]
  methods := #[]
  instanceTypes := #[]
  staticTypes := #[]
  resolved := Array.replicate 7 none
  statics := none }

def pool5 : Array CpInfo := pool [(2, .class_ 4), (1, u "java/lang/Enum"), (0, u "name"), (0, u "Ljava/lang/String;"), (2, u "ordinal"), (0, u "I"), (1, .class_ 14), (1, u "java/lang/Object"), (4, u "hash"), (86, .class_ 108), (1, u "java/lang/Enum$EnumDesc"), (2, .class_ 112), (0, u "java/lang/constant/Constable"), (0, .class_ 114), (0, u "java/lang/Comparable"), (0, .class_ 116), (0, u "java/io/Serializable")] 87

/-- java/lang/Enum -/
def k5 : Class := { plain "java/lang/Enum" (some 0) with
  accessFlags := 1057
  interfaces := #[2, 3, 4]
  cf := some (fileOf pool5 2 #[.nestMembers #[106]] #[] 1057 12 #[111, 113, 115] #[{ accessFlags := 18, nameIndex := 5, descriptorIndex := 6, attributes := #[] }, { accessFlags := 18, nameIndex := 9, descriptorIndex := 10, attributes := #[] }, { accessFlags := 2, nameIndex := 19, descriptorIndex := 10, attributes := #[] }])
  fields := #[{ name := "name", type := (.object "java/lang/String"), accessFlags := 18, slot := 0, constantValue := 0 }, { name := "ordinal", type := .int, accessFlags := 18, slot := 1, constantValue := 0 }, { name := "hash", type := .int, accessFlags := 2, slot := 2, constantValue := 0 }]
  methods := #[]
  instanceTypes := #[(.object "java/lang/String"), .int, .int]
  staticTypes := #[]
  resolved := Array.replicate 204 none
  statics := none }

def pool6 : Array CpInfo := pool [(1, .class_ 2), (0, u "com/example/credlib/credlib/policy/NameRule"), (2, u "ENTITY"), (0, u "Lcom/example/credlib/credlib/policy/NameRule;"), (2, u "ROLE_NAME"), (2, u "$VALUES"), (0, u "[Lcom/example/credlib/credlib/policy/NameRule;"), (6, .class_ 22), (1, u "java/lang/Enum"), (8, u "noun"), (0, u "Ljava/lang/String;"), (2, u "start"), (0, .fieldref 1 37), (0, .nameAndType 38 39), (0, u "firstStart"), (0, u "C"), (0, .fieldref 1 41), (0, .nameAndType 42 39), (0, u "lastStart"), (32, u "isStart"), (0, u "(I)Z"), (6, u "isPart")] 59

def k6c0 : Code := { maxStack := 2, maxLocals := 2, code := prog_30_method_6_code, exceptionTable := #[], attributes := #[] }
def k6m0 : Method := { name := "isStart", desc := "(I)Z", sig := { parameters := [.int], returnType := some .boolean }, accessFlags := 0, code := some k6c0 }
def k6c1 : Code := { maxStack := 2, maxLocals := 1, code := prog_30_method_7_code, exceptionTable := #[], attributes := #[] }
def k6m1 : Method := { name := "isPart", desc := "(I)Z", sig := { parameters := [.int], returnType := some .boolean }, accessFlags := 8, code := some k6c1 }
/-- com/example/credlib/credlib/policy/NameRule -/
def k6 : Class := { plain "com/example/credlib/credlib/policy/NameRule" (some 5) with
  accessFlags := 16432
  interfaces := #[]
  cf := some (fileOf pool6 1 #[] #[{ accessFlags := 0, nameIndex := 75, descriptorIndex := 76, attributes := #[] }, { accessFlags := 8, nameIndex := 83, descriptorIndex := 76, attributes := #[] }] 16432 20 #[] #[{ accessFlags := 16409, nameIndex := 5, descriptorIndex := 6, attributes := #[] }, { accessFlags := 16409, nameIndex := 9, descriptorIndex := 6, attributes := #[] }, { accessFlags := 18, nameIndex := 31, descriptorIndex := 32, attributes := #[] }, { accessFlags := 18, nameIndex := 35, descriptorIndex := 32, attributes := #[] }, { accessFlags := 18, nameIndex := 38, descriptorIndex := 39, attributes := #[] }, { accessFlags := 18, nameIndex := 42, descriptorIndex := 39, attributes := #[] }, { accessFlags := 4122, nameIndex := 12, descriptorIndex := 13, attributes := #[] }])
  fields := #[{ name := "ENTITY", type := (.object "com/example/credlib/credlib/policy/NameRule"), accessFlags := 16409, slot := 0, constantValue := 0 }, { name := "ROLE_NAME", type := (.object "com/example/credlib/credlib/policy/NameRule"), accessFlags := 16409, slot := 1, constantValue := 0 }, { name := "noun", type := (.object "java/lang/String"), accessFlags := 18, slot := 3, constantValue := 0 }, { name := "start", type := (.object "java/lang/String"), accessFlags := 18, slot := 4, constantValue := 0 }, { name := "firstStart", type := .char, accessFlags := 18, slot := 5, constantValue := 0 }, { name := "lastStart", type := .char, accessFlags := 18, slot := 6, constantValue := 0 }, { name := "$VALUES", type := (.array (.object "com/example/credlib/credlib/policy/NameRule")), accessFlags := 4122, slot := 2, constantValue := 0 }]
  methods := #[k6m0, k6m1]
  instanceTypes := #[(.object "java/lang/String"), .int, .int, (.object "java/lang/String"), (.object "java/lang/String"), .char, .char]
  staticTypes := #[(.object "com/example/credlib/credlib/policy/NameRule"), (.object "com/example/credlib/credlib/policy/NameRule"), (.array (.object "com/example/credlib/credlib/policy/NameRule"))]
  resolved := Array.replicate 143 none
  statics := some 0 }

def pool7 : Array CpInfo := pool [(1, u "java/lang/Cloneable"), (0, .class_ 1), (0, u "java/lang/Object"), (0, .class_ 3)] 3

/-- java/lang/Cloneable -/
def k7 : Class := { plain "java/lang/Cloneable" (some 0) with
  accessFlags := 1537
  interfaces := #[]
  cf := some (fileOf pool7 2 #[] #[] 1537 4 #[] #[])
  fields := #[]
  methods := #[]
  instanceTypes := #[]
  staticTypes := #[]
  resolved := Array.replicate 8 none
  statics := none }

/-- the primitive byte -/
def k8 : Class := { plain "byte" none with kind := .primitive 'B', accessFlags := 0x411 }
/-- [B -/
def k9 : Class := { plain "[B" (some 0) with kind := .array 8 .byte, interfaces := #[7, 4], accessFlags := 1041 }

/-- the primitive int -/
def k10 : Class := { plain "int" none with kind := .primitive 'I', accessFlags := 0x411 }
/-- [I -/
def k11 : Class := { plain "[I" (some 0) with kind := .array 10 .int, interfaces := #[7, 4], accessFlags := 1041 }

def heap : Heap := #[{ cls := 6, slots := #[.ref 1, .ref 2, .null], vm := .statics 6 },
  { cls := 6, slots := #[.null, .int 0, .int 0, .null, .null, .int 65, .int 90], vm := .none },
  { cls := 6, slots := #[.null, .int 0, .int 0, .null, .null, .int 97, .int 122], vm := .none }]
def classes : Array Class := #[k0, k1, k2, k3, k4, k5, k6, k7, k8, k9, k10, k11]
def interned : List (Array UInt16 × Addr) := []
def slotsUsed : Nat := 17
def theMethod : MethodId := ⟨1, 2⟩
def args0 : Array Value := #[.int 70, .int 1]
def aboutOver (below : List Frame) : State where
  vm := { classes := classes, interned := interned.toArray }
  heap := heap
  slotsUsed := slotsUsed
  threads := #[{ frames := .invoking theMethod args0 :: below }]
def below0 : List Frame := [.native { method := ⟨0, 0⟩, args := #[] }]
def about1 : State := aboutOver below0
def p0 : Program := .bare "" "" ""
def e0 : Env := launch0.env 0 0 0
theorem w_frames : about1.frames = Frame.invoking theMethod args0 :: below0 := rfl
set_option maxRecDepth 65536 in
theorem w_args : argsFit about1.vm theMethod args0 = true := by decide +kernel
set_option maxRecDepth 65536 in
theorem w_heap : heapFits about1 = true := by decide +kernel
set_option maxRecDepth 65536 in
theorem w_runnable : about1.curStatus? = some .runnable := by decide +kernel
set_option maxRecDepth 65536 in
theorem w_alone : about1.alone = true := by decide +kernel
set_option maxRecDepth 65536 in
theorem w_named : about1.methodNamed? x = some theMethod := by decide +kernel
set_option maxRecDepth 65536 in
theorem w_hears : about1.hears theMethod below0 = true := by decide +kernel
set_option maxRecDepth 65536 in
theorem w_ripe : about1.ripe theMethod args0 below0 = true := by decide +kernel
theorem w_running : about1.status = .running := rfl
set_option maxRecDepth 65536 in
theorem w_room : about1.hasRoom e0.platform room_1 = true :=
  launch0.hasRoom_least _ room_1 (by decide +kernel) (by decide +kernel) (by decide +kernel) (by decide +kernel) (by decide +kernel) (by decide +kernel)
theorem allAtoms_all (ts : List Jvm.Cond) (a : Array Jvm.Value) (st : Jvm.State) : (allAtoms ts).before a st = ts.all (fun c => c.before a st) := by
  induction ts with
  | nil => rfl
  | cons c t ih =>
    show (Jvm.Cond.and c (allAtoms t)).before a st = _
    rw [Jvm.Cond.before_and, ih, List.all_cons]
def words1 : List Jvm.Cond := Jvm.Cond.code x code maxLocals ret :: tables_1
/-- a 'code' word, met by the world's own term for the bytes: nothing is compared byte by byte -/
theorem code_word {y : MethodName} {bytes : ByteArray} {mx : Nat} {rt : Option FieldType} {a : Array Value} {s : State} {m : MethodId} {meth : Method} {c : Code} (h1 : s.methodNamed? y = some m) (h2 : s.vm.method? m = some meth) (h3 : meth.code = some c) (h4 : c.code = bytes)
    (h5 : (c.maxLocals == mx && c.exceptionTable.isEmpty && decide (c.maxStack ≤ mostOperands) && decide (meth.sig.returnType = rt) && !meth.locks && decide (parseMethodDescriptor y.desc = some meth.sig)) = true) : (Jvm.Cond.code y bytes mx rt).before a s = true := by
  simp only [Bool.and_eq_true, beq_iff_eq, Bool.not_eq_true', decide_eq_true_eq] at h5
  obtain ⟨⟨⟨⟨⟨g1, g2⟩, g3⟩, g4⟩, g5⟩, g6⟩ := h5
  simp [Cond.before, Cond.holds, Cond.value, h1, h2, h3, h4, g1, g2, g3, g4, g5, g6]
def isCode : Jvm.Cond → Bool
  | .code _ _ _ _ => true
  | _ => false
theorem all_split {L : List Jvm.Cond} {P : Jvm.Cond → Bool} (h1 : L.all (fun c => isCode c || P c) = true) (h2 : ∀ c ∈ L.filter isCode, P c = true) : L.all P = true := by
  refine List.all_eq_true.mpr fun c hc => ?_
  have h := List.all_eq_true.mp h1 c hc
  rcases Bool.eq_false_or_eq_true (isCode c) with hi | hi
  · exact h2 c (List.mem_filter.mpr ⟨hc, hi⟩)
  · simpa [hi] using h
set_option maxRecDepth 65536 in
theorem w_c0 : (Jvm.Cond.code x code maxLocals ret).before args0 about1 = true := code_word (m := ⟨1, 2⟩) (meth := k1m2) (c := k1c2) (by decide +kernel) rfl rfl rfl (by decide +kernel)
set_option maxRecDepth 65536 in
theorem w_c1 : (Jvm.Cond.code ({ cls := "com/example/credlib/credlib/policy/NameRule", name := "isPart", desc := "(I)Z" } : Jvm.MethodName) prog_30_method_7_code (1 : Nat) (Option.some Jvm.ClassFile.FieldType.boolean)).before args0 about1 = true := code_word (m := ⟨6, 1⟩) (meth := k6m1) (c := k6c1) (by decide +kernel) rfl rfl rfl (by decide +kernel)
set_option maxRecDepth 65536 in
theorem w_c2 : (Jvm.Cond.code ({ cls := "com/example/credlib/credlib/policy/NameRuleIsPartPinLaw", name := "expected", desc := "(I)Z" } : Jvm.MethodName) method_2_code (7 : Nat) (Option.some Jvm.ClassFile.FieldType.boolean)).before args0 about1 = true := code_word (m := ⟨1, 1⟩) (meth := k1m1) (c := k1c1) (by decide +kernel) rfl rfl rfl (by decide +kernel)
set_option maxRecDepth 65536 in
theorem w_c3 : (Jvm.Cond.code ({ cls := "com/example/credlib/credlib/policy/NameRule", name := "isStart", desc := "(I)Z" } : Jvm.MethodName) prog_30_method_6_code (2 : Nat) (Option.some Jvm.ClassFile.FieldType.boolean)).before args0 about1 = true := code_word (m := ⟨6, 0⟩) (meth := k6m0) (c := k6c0) (by decide +kernel) rfl rfl rfl (by decide +kernel)
def codes1 : List Jvm.Cond := [Jvm.Cond.code x code maxLocals ret, Jvm.Cond.code ({ cls := "com/example/credlib/credlib/policy/NameRule", name := "isPart", desc := "(I)Z" } : Jvm.MethodName) prog_30_method_7_code (1 : Nat) (Option.some Jvm.ClassFile.FieldType.boolean), Jvm.Cond.code ({ cls := "com/example/credlib/credlib/policy/NameRuleIsPartPinLaw", name := "expected", desc := "(I)Z" } : Jvm.MethodName) method_2_code (7 : Nat) (Option.some Jvm.ClassFile.FieldType.boolean), Jvm.Cond.code ({ cls := "com/example/credlib/credlib/policy/NameRule", name := "isStart", desc := "(I)Z" } : Jvm.MethodName) prog_30_method_6_code (2 : Nat) (Option.some Jvm.ClassFile.FieldType.boolean)]
set_option maxRecDepth 65536 in
theorem codes_eq : words1.filter isCode = codes1 := rfl
theorem w_codes : ∀ c ∈ words1.filter isCode, c.before args0 about1 = true := by
  rw [codes_eq]
  intro c hc
  simp only [codes1, List.mem_cons, List.not_mem_nil, or_false] at hc
  rcases hc with rfl | rfl | rfl | rfl
  · exact w_c0
  · exact w_c1
  · exact w_c2
  · exact w_c3
set_option maxRecDepth 65536 in
theorem w_t1 : words1.all (fun c => isCode c || c.before args0 about1) = true := by decide +kernel
theorem w_tables : (allAtoms (Jvm.Cond.code x code maxLocals ret :: tables_1)).before args0 about1 = true := by
  rw [allAtoms_all]
  show words1.all (fun c => c.before args0 about1) = true
  refine all_split ?_ w_codes
  rw [w_t1]
set_option maxRecDepth 65536 in
theorem w_case : (Jvm.Cond.and given_1 narrow_1).before args0 about1 = true := by decide +kernel
theorem w_applies : (headSpec (Jvm.Cond.code x code maxLocals ret :: tables_1) room_1).applies x e0.platform about1 = true :=
  (Spec.applies_iff w_frames).mpr ⟨w_running, w_runnable, w_alone, w_named, w_hears, w_ripe, w_room, w_tables⟩
theorem atStart : AtStart classFile x code maxLocals ret World_1 tables_1 room_1 Calls_1 rest_1 Pre_1 launch0 p0 e0 about1 theMethod args0 below0 :=
  ⟨lists_1, trivial, launch0.admits_env _ _ _, launch0.least_env, fairChoices_fair.cas, fairChoices_fair.clock, w_frames, w_args, w_heap, w_applies, trivial, trivial, w_case⟩
end start1
theorem witness_1 : WitnessClaimed_1 := ⟨start1.p0, start1.e0, start1.about1, start1.theMethod, start1.args0, start1.below0, start1.atStart⟩
end Jvm.Pilot.@@N@@
