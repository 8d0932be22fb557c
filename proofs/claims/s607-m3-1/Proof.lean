import JvmDerived
import JvmDerived.Pilot.@@N@@Statement
import JvmDerived.Pilot.@@N@@Code
set_option linter.unusedVariables false
set_option linter.unusedSimpArgs false
namespace Jvm.RoadKit
open Sem ClassFile Op Lib Jvm.Stand Jvm.Free Jvm.LawKit
section New
variable {p : Program} {l : Launch} {e : Env} {R : Room} {s : State} {m : MethodId} {args : Array Value} {below : List Frame} {meth : Method} {c : Code} {T : State} {locs : List Loc} {cells slots : Nat}
theorem retI (X : Stand p l e R s m args below meth c T locs cells slots) (hx : p.tables.exec = Jvm.exec) {pc : Nat} {Ls : Array Slot} {z : Int32} {rest : List Value} (hret : meth.sig.returnType = some .int) (hd : decode c.code pc = .ok (.ireturn, 1)) {fs : List Frame}
    (hl : ∀ (f : JFrame) (acts : List Action), f.method = m → f.locked = none → f.entered = [] → (doReturn e (T.setTop f) acts (some (.int z))).1 = T.setFrames fs) : Steps p.tables e below (T.setTop (mkF m pc Ls (.int z :: rest))) (T.setFrames fs) := by
  have hm' : T.vm.method? m = some meth := X.method'
  have hn : narrow .int (.int z) = .int z := rfl
  show Steps p.tables e below (T.setTop { method := m, pc := pc, locals := Ls, stack := _ :: rest, locked := none }) _
  jvm_step X.here [X.here.top, hx, hd, hm', hret, hn]
  first | (intro acts; rw [hl _ acts rfl rfl rfl]) | rw [hl _ _ rfl rfl rfl]
  exact Steps.refl _
end New
end Jvm.RoadKit
namespace Jvm.Pilot.@@N@@
open Jvm Jvm.ClassFile Sem Op Lib Jvm.Free Jvm.Stand Jvm.LawKit Jvm.RoadKit Bundle Jvm.Pilot.@@N@@.Jvm.D
def OwnQ (r : Option Value) (h0 : Heap) (n0 : Nat) (v : Option Value) (h : Heap) (L : List Loc) : Prop := v = r ∧ Fr n0 L ∧ h = h0
theorem own_sz {Z : State} {n0 : Nat} {h : Heap} (O : Old Z n0 h) : n0 ≤ h.size := O.1 ▸ O.2.1
theorem own_new {Z : State} {n0 : Nat} {h : Heap} {b : Addr} (O : Old Z n0 h) (g : b = h.size) : n0 ≤ b := Nat.le_trans (own_sz O) (Nat.le_of_eq g.symm)
theorem own_eqi {args : Array Value} {first s : State} {o : Option Outcome} {idx : List Nat} {a : Term} {k : Int32} (h : (Cond.eq a (Term.int k)).value args first o s idx = some true) : a.eval args first o idx s = some (.int k) := by
  obtain ⟨x, y, h1, h2, h3, -⟩ := cmp_v (Or.inl h)
  have e2 : y = .int k := (Option.some.inj ((Term.int_eval k).symm.trans h2)).symm
  subst e2
  cases x with
  | int z =>
    have q : z = k := by
      have h4 := h
      simp only [Cond.value, h1, h2] at h4
      simpa using h4
    rw [h1, q]
  | _ => first | (obtain ⟨z, hz⟩ := h3; cases hz) | (cases h3.2)
def OwnG (Z : State) (wW1 : Addr) (wW2 : Addr) (wW3 : Addr) (wW4 : Addr) (wW5 : Addr) (wW6 : Addr) (wCW1 : Addr) (wCW2 : Addr) (wCW3 : Addr) (wCW4 : Addr) (wCW5 : Addr) (wCW6 : Addr) : Prop := Sta Z Z.heap "com/example/credlib/credlib/engine/Rule" "W1" "Lcom/example/credlib/credlib/engine/Rule;" (.ref wW1) ∧
  Exa Z Z.heap wW1 "com/example/credlib/credlib/engine/Rule" ∧
  Sta Z Z.heap "com/example/credlib/credlib/engine/Rule" "W2" "Lcom/example/credlib/credlib/engine/Rule;" (.ref wW2) ∧
  Exa Z Z.heap wW2 "com/example/credlib/credlib/engine/Rule" ∧
  Sta Z Z.heap "com/example/credlib/credlib/engine/Rule" "W3" "Lcom/example/credlib/credlib/engine/Rule;" (.ref wW3) ∧
  Exa Z Z.heap wW3 "com/example/credlib/credlib/engine/Rule" ∧
  Sta Z Z.heap "com/example/credlib/credlib/engine/Rule" "W4" "Lcom/example/credlib/credlib/engine/Rule;" (.ref wW4) ∧
  Exa Z Z.heap wW4 "com/example/credlib/credlib/engine/Rule" ∧
  Sta Z Z.heap "com/example/credlib/credlib/engine/Rule" "W5" "Lcom/example/credlib/credlib/engine/Rule;" (.ref wW5) ∧
  Exa Z Z.heap wW5 "com/example/credlib/credlib/engine/Rule" ∧
  Sta Z Z.heap "com/example/credlib/credlib/engine/Rule" "W6" "Lcom/example/credlib/credlib/engine/Rule;" (.ref wW6) ∧
  Exa Z Z.heap wW6 "com/example/credlib/credlib/engine/Rule" ∧
  Sta Z Z.heap "com/example/credlib/credlib/engine/Rule" "CW1" "Lcom/example/credlib/credlib/engine/Rule;" (.ref wCW1) ∧
  Exa Z Z.heap wCW1 "com/example/credlib/credlib/engine/Rule" ∧
  Sta Z Z.heap "com/example/credlib/credlib/engine/Rule" "CW2" "Lcom/example/credlib/credlib/engine/Rule;" (.ref wCW2) ∧
  Exa Z Z.heap wCW2 "com/example/credlib/credlib/engine/Rule" ∧
  Sta Z Z.heap "com/example/credlib/credlib/engine/Rule" "CW3" "Lcom/example/credlib/credlib/engine/Rule;" (.ref wCW3) ∧
  Exa Z Z.heap wCW3 "com/example/credlib/credlib/engine/Rule" ∧
  Sta Z Z.heap "com/example/credlib/credlib/engine/Rule" "CW4" "Lcom/example/credlib/credlib/engine/Rule;" (.ref wCW4) ∧
  Exa Z Z.heap wCW4 "com/example/credlib/credlib/engine/Rule" ∧
  Sta Z Z.heap "com/example/credlib/credlib/engine/Rule" "CW5" "Lcom/example/credlib/credlib/engine/Rule;" (.ref wCW5) ∧
  Exa Z Z.heap wCW5 "com/example/credlib/credlib/engine/Rule" ∧
  Sta Z Z.heap "com/example/credlib/credlib/engine/Rule" "CW6" "Lcom/example/credlib/credlib/engine/Rule;" (.ref wCW6) ∧
  Exa Z Z.heap wCW6 "com/example/credlib/credlib/engine/Rule" ∧
  Fld Z Z.heap wW1 "java/lang/Enum" "ordinal" "I" (.int (0 : Int32)) ∧
  Fld Z Z.heap wCW1 "java/lang/Enum" "ordinal" "I" (.int (6 : Int32)) ∧
  Fld Z Z.heap wW4 "java/lang/Enum" "ordinal" "I" (.int (3 : Int32)) ∧
  Fld Z Z.heap wCW4 "java/lang/Enum" "ordinal" "I" (.int (9 : Int32)) ∧
  Fld Z Z.heap wW3 "java/lang/Enum" "ordinal" "I" (.int (2 : Int32)) ∧
  Fld Z Z.heap wCW3 "java/lang/Enum" "ordinal" "I" (.int (8 : Int32)) ∧
  Fld Z Z.heap wCW2 "java/lang/Enum" "ordinal" "I" (.int (7 : Int32)) ∧
  Fld Z Z.heap wCW6 "java/lang/Enum" "ordinal" "I" (.int (11 : Int32)) ∧
  Fld Z Z.heap wW5 "java/lang/Enum" "ordinal" "I" (.int (4 : Int32)) ∧
  Fld Z Z.heap wCW5 "java/lang/Enum" "ordinal" "I" (.int (10 : Int32)) ∧
  Fld Z Z.heap wW2 "java/lang/Enum" "ordinal" "I" (.int (1 : Int32)) ∧
  Fld Z Z.heap wW6 "java/lang/Enum" "ordinal" "I" (.int (5 : Int32)) ∧
  wW1 ≠ wCW1 ∧
  wW1 ≠ wW4 ∧
  wW1 ≠ wCW4 ∧
  wW1 ≠ wW3 ∧
  wW1 ≠ wCW3 ∧
  wW1 ≠ wCW2 ∧
  wW1 ≠ wCW6 ∧
  wW1 ≠ wW5 ∧
  wW1 ≠ wCW5 ∧
  wW1 ≠ wW2 ∧
  wW1 ≠ wW6 ∧
  wCW1 ≠ wCW4 ∧
  wCW1 ≠ wCW3 ∧
  wCW1 ≠ wCW2 ∧
  wCW1 ≠ wCW6 ∧
  wCW1 ≠ wCW5 ∧
  wW4 ≠ wCW1 ∧
  wW4 ≠ wCW4 ∧
  wW4 ≠ wCW3 ∧
  wW4 ≠ wCW2 ∧
  wW4 ≠ wCW6 ∧
  wW4 ≠ wW5 ∧
  wW4 ≠ wCW5 ∧
  wW4 ≠ wW6 ∧
  wCW4 ≠ wCW6 ∧
  wCW4 ≠ wCW5 ∧
  wW3 ≠ wCW1 ∧
  wW3 ≠ wW4 ∧
  wW3 ≠ wCW4 ∧
  wW3 ≠ wCW3 ∧
  wW3 ≠ wCW2 ∧
  wW3 ≠ wCW6 ∧
  wW3 ≠ wW5 ∧
  wW3 ≠ wCW5 ∧
  wW3 ≠ wW6 ∧
  wCW3 ≠ wCW4 ∧
  wCW3 ≠ wCW6 ∧
  wCW3 ≠ wCW5 ∧
  wCW2 ≠ wCW4 ∧
  wCW2 ≠ wCW3 ∧
  wCW2 ≠ wCW6 ∧
  wCW2 ≠ wCW5 ∧
  wW5 ≠ wCW1 ∧
  wW5 ≠ wCW4 ∧
  wW5 ≠ wCW3 ∧
  wW5 ≠ wCW2 ∧
  wW5 ≠ wCW6 ∧
  wW5 ≠ wCW5 ∧
  wW5 ≠ wW6 ∧
  wCW5 ≠ wCW6 ∧
  wW2 ≠ wCW1 ∧
  wW2 ≠ wW4 ∧
  wW2 ≠ wCW4 ∧
  wW2 ≠ wW3 ∧
  wW2 ≠ wCW3 ∧
  wW2 ≠ wCW2 ∧
  wW2 ≠ wCW6 ∧
  wW2 ≠ wW5 ∧
  wW2 ≠ wCW5 ∧
  wW2 ≠ wW6 ∧
  wW6 ≠ wCW1 ∧
  wW6 ≠ wCW4 ∧
  wW6 ≠ wCW3 ∧
  wW6 ≠ wCW2 ∧
  wW6 ≠ wCW6 ∧
  wW6 ≠ wCW5
theorem own_pn_0 : plainName "com/example/credlib/credlib/engine/RuleStatesCredentialPinLaw" = true := by first | (simp [plainName, overriddenIn]; done) | decide +kernel
theorem own_ef_0_I (m : MethodId) (x0 : Int32) : entryFrame m #[(.int x0)] maxLocals = mkF m 0 #[.val (.int x0), .unset, .unset, .unset, .unset, .unset, .unset] [] := by first | (simp [entryFrame, mkF, argsToLocals, Value.category, maxLocals]; done) | rfl
theorem own_pn_1 : plainName "com/example/credlib/credlib/engine/Rule" = true := by first | (simp [plainName, overriddenIn]; done) | decide +kernel
theorem own_ef_1_R (m : MethodId) (x0 : Addr) : entryFrame m #[(.ref x0)] 1 = mkF m 0 #[.val (.ref x0)] [] := by first | (simp [entryFrame, mkF, argsToLocals, Value.category]; done) | rfl
theorem own_d1_0 : decode prog_18_method_4_code 0 = .ok (.aload_n 0, 1) := by decide +kernel
theorem own_d1_1 : decode prog_18_method_4_code 1 = .ok (.getstatic 3, 3) := by decide +kernel
theorem own_d1_4 : decode prog_18_method_4_code 4 = .ok (.if_acmp .eq 10, 3) := by decide +kernel
theorem own_d1_14 : decode prog_18_method_4_code 14 = .ok (.iconst 1, 1) := by decide +kernel
theorem own_d1_15 : decode prog_18_method_4_code 15 = .ok (.goto 4, 3) := by decide +kernel
theorem own_d1_19 : decode prog_18_method_4_code 19 = .ok (.ireturn, 1) := by decide +kernel
set_option maxRecDepth 65536 in
set_option maxHeartbeats 40000000 in
theorem own_statesCredential_0 (l : Launch) (Z : State) (a0 : Array Value) (hw : ∀ d ∈ tables_1, d.before a0 Z = true) (ws : List Jvm.Cond) (wW1 : Addr) (wW2 : Addr) (wW3 : Addr) (wW4 : Addr) (wW5 : Addr) (wW6 : Addr) (wCW1 : Addr) (wCW2 : Addr) (wCW3 : Addr) (wCW4 : Addr) (wCW5 : Addr) (wCW6 : Addr) (G : OwnG Z wW1 wW2 wW3 wW4 wW5 wW6 wCW1 wCW2 wCW3 wCW4 wCW5 wCW6) (h0 : Heap) (n0 : Nat) (O0 : Old Z n0 h0) :
    MetFree l (⟨"com/example/credlib/credlib/engine/Rule", "statesCredential", "()Z"⟩ : MethodName) (head1 (Jvm.Cond.code (⟨"com/example/credlib/credlib/engine/Rule", "statesCredential", "()Z"⟩ : MethodName) prog_18_method_4_code 1 (some .boolean) :: ws) ({ frames := 0, cells := 0, slots := 0, locals := 0 } : Room)) (fun a U => a = #[(.ref wW1)] ∧ Z.Warmed39 U.vm ∧ U.heap = h0) (fun _ _ _ _ _ => True) (fun _ U o U' => ∃ v L, o = .returned v ∧ OwnQ (some (.int (1 : Int32))) h0 n0 v U'.heap L ∧ FrameEnd U o U' L ({ frames := 0, cells := 0, slots := 0, locals := 0 } : Room).cells ({ frames := 0, cells := 0, slots := 0, locals := 0 } : Room).slots) := by
  refine MetFree.of_bodySF (plainFor_of_name own_pn_1) hisR ?_
  intro p e s m args below meth c s₁ Bd hml0 hP hK
  obtain ⟨rfl, hZ, hh⟩ := hP
  have hx := Bd.exec
  have hby := Bd.bytes
  have hml : c.maxLocals = 1 := hml0
  have hown : s.vm.findClass "com/example/credlib/credlib/engine/Rule" = some m.cls := findClass_of_methodNamed Bd.named
  have hnm := (name_of_methodNamed Bd.named Bd.method).1
  have X0 : Stand p l e ({ frames := 0, cells := 0, slots := 0, locals := 0 } : Room) s m #[(.ref wW1)] below meth c s₁ [] 0 0 := Stand.of_body Bd
  have e0 : s₁.heap = h0 := by rw [← hh, Bd.state]; rfl
  have N0 := Fr.nil n0
  have pre0 : ∀ t, Steps p.tables e below (s₁.setTop (mkF m 0 #[.val (.ref wW1)] [])) t → Steps p.tables e below (s₁.setTop (entryFrame m #[(.ref wW1)] 1)) t := fun t k => castTop (own_ef_1_R m wW1) k
  obtain ⟨T1, X1, e1, st1⟩ := getS2 X0 hx hZ hown (host := "") (Or.inl (hw _ (List.mem_of_getElem? (i := 34) rfl))) Via.refl e0 (G.1.ext O0.2) (g := (mkF m 1 #[.val (.ref wW1)] [(.ref wW1)])) rfl (hb hby own_d1_1)
  obtain ⟨fs, hr, hrun, hended, hW, hsame⟩ := X1.leave (v := some (.int (1 : Int32))) (fun h => by rw [Bd.returns] at h; cases h)
  refine ⟨_, _, pre0 _ ?_, hrun, hended, _, _, rfl, ?_, ⟨_, rfl⟩, hW, hsame.mono (by decide) (by decide)⟩
  · show Steps p.tables e below (s₁.setTop (mkF m 0 #[.val (.ref wW1)] [])) _
    refine XS.aloadN X0.here hx rfl (hb hby own_d1_0) rfl rfl ?_
    show Steps p.tables e below (s₁.setTop (mkF m 1 #[.val (.ref wW1)] [(.ref wW1)])) _
    refine st1 _ ?_
    show Steps p.tables e below (T1.setTop (mkF m 4 #[.val (.ref wW1)] [(.ref wW1), (.ref wW1)])) _
    refine Jvm.RoadKit.acmp (g := (mkF m 4 #[.val (.ref wW1)] [(.ref wW1), (.ref wW1)])) X1 hx rfl rfl rfl (pc0 := 4) (pc' := 14) (same := true) rfl (hb hby own_d1_4) rfl (decide_eq_true rfl) (by decide) (by decide) ?_
    show Steps p.tables e below (T1.setTop (mkF m 14 #[.val (.ref wW1)] [])) _
    refine XS.iconst X1.here hx rfl (hb hby own_d1_14) ?_
    show Steps p.tables e below (T1.setTop (mkF m 15 #[.val (.ref wW1)] [(.int (1 : Int32))])) _
    refine XS.goto X1.here hx rfl (pc0 := 15) (pc' := 19) rfl (hb hby own_d1_15) (by decide) (by decide) ?_
    show Steps p.tables e below (T1.setTop (mkF m 19 #[.val (.ref wW1)] [(.int (1 : Int32))])) _
    exact retN X1 hx (t := .boolean) Bd.returns (by simp) (hb hby own_d1_19) hr
  · show OwnQ _ h0 n0 _ T1.heap _
    exact ⟨rfl, N0, e1⟩
theorem own_pd_0 : parseMethodDescriptor "()Z" = some ⟨[], some .boolean⟩ := by decide +kernel
theorem own_ef_2_R (m : MethodId) (x0 : Addr) : entryFrame m #[(.ref x0)] 1 = mkF m 0 #[.val (.ref x0)] [] := by first | (simp [entryFrame, mkF, argsToLocals, Value.category]; done) | rfl
theorem own_pn_3 : plainName "java/lang/Enum" = true := by first | (simp [plainName, overriddenIn]; done) | decide +kernel
theorem own_ef_3_R (m : MethodId) (x0 : Addr) : entryFrame m #[(.ref x0)] 1 = mkF m 0 #[.val (.ref x0)] [] := by first | (simp [entryFrame, mkF, argsToLocals, Value.category]; done) | rfl
theorem own_d3_0 : decode jdk_37_method_2_code 0 = .ok (.aload_n 0, 1) := by decide +kernel
theorem own_d3_1 : decode jdk_37_method_2_code 1 = .ok (.getfield 7, 3) := by decide +kernel
theorem own_d3_4 : decode jdk_37_method_2_code 4 = .ok (.ireturn, 1) := by decide +kernel
set_option maxRecDepth 65536 in
set_option maxHeartbeats 40000000 in
theorem own_ordinal_2 (l : Launch) (Z : State) (a0 : Array Value) (hw : ∀ d ∈ tables_1, d.before a0 Z = true) (ws : List Jvm.Cond) (wW1 : Addr) (wW2 : Addr) (wW3 : Addr) (wW4 : Addr) (wW5 : Addr) (wW6 : Addr) (wCW1 : Addr) (wCW2 : Addr) (wCW3 : Addr) (wCW4 : Addr) (wCW5 : Addr) (wCW6 : Addr) (G : OwnG Z wW1 wW2 wW3 wW4 wW5 wW6 wCW1 wCW2 wCW3 wCW4 wCW5 wCW6) (h0 : Heap) (n0 : Nat) (O0 : Old Z n0 h0) :
    MetFree l (⟨"java/lang/Enum", "ordinal", "()I"⟩ : MethodName) (head1 (Jvm.Cond.code (⟨"java/lang/Enum", "ordinal", "()I"⟩ : MethodName) jdk_37_method_2_code 1 (some .int) :: ws) ({ frames := 0, cells := 0, slots := 0, locals := 0 } : Room)) (fun a U => a = #[(.ref wW1)] ∧ Z.Warmed39 U.vm ∧ U.heap = h0) (fun _ _ _ _ _ => True) (fun _ U o U' => ∃ v L, o = .returned v ∧ OwnQ (some (.int (0 : Int32))) h0 n0 v U'.heap L ∧ FrameEnd U o U' L ({ frames := 0, cells := 0, slots := 0, locals := 0 } : Room).cells ({ frames := 0, cells := 0, slots := 0, locals := 0 } : Room).slots) := by
  refine MetFree.of_bodySF (plainFor_of_name own_pn_3) hisR ?_
  intro p e s m args below meth c s₁ Bd hml0 hP hK
  obtain ⟨rfl, hZ, hh⟩ := hP
  have hx := Bd.exec
  have hby := Bd.bytes
  have hml : c.maxLocals = 1 := hml0
  have hown : s.vm.findClass "java/lang/Enum" = some m.cls := findClass_of_methodNamed Bd.named
  have hnm := (name_of_methodNamed Bd.named Bd.method).1
  have X0 : Stand p l e ({ frames := 0, cells := 0, slots := 0, locals := 0 } : Room) s m #[(.ref wW1)] below meth c s₁ [] 0 0 := Stand.of_body Bd
  have e0 : s₁.heap = h0 := by rw [← hh, Bd.state]; rfl
  have N0 := Fr.nil n0
  have pre0 : ∀ t, Steps p.tables e below (s₁.setTop (mkF m 0 #[.val (.ref wW1)] [])) t → Steps p.tables e below (s₁.setTop (entryFrame m #[(.ref wW1)] 1)) t := fun t k => castTop (own_ef_3_R m wW1) k
  obtain ⟨T1, X1, e1, st1⟩ := getF X0 hx hZ hown (host := "") (Or.inl (hw _ (List.mem_of_getElem? (i := 47) rfl))) Via.refl e0 (G.2.2.2.2.2.2.2.2.2.2.2.2.2.2.2.2.2.2.2.2.2.2.2.2.1.ext O0.2) (g := (mkF m 1 #[.val (.ref wW1)] [(.ref wW1)])) rfl rfl (hb hby own_d3_1)
  obtain ⟨fs, hr, hrun, hended, hW, hsame⟩ := X1.leave (v := some (.int (0 : Int32))) (fun h => by rw [Bd.returns] at h; cases h)
  refine ⟨_, _, pre0 _ ?_, hrun, hended, _, _, rfl, ?_, ⟨_, rfl⟩, hW, hsame.mono (by decide) (by decide)⟩
  · show Steps p.tables e below (s₁.setTop (mkF m 0 #[.val (.ref wW1)] [])) _
    refine XS.aloadN X0.here hx rfl (hb hby own_d3_0) rfl rfl ?_
    show Steps p.tables e below (s₁.setTop (mkF m 1 #[.val (.ref wW1)] [(.ref wW1)])) _
    refine st1 _ ?_
    show Steps p.tables e below (T1.setTop (mkF m 4 #[.val (.ref wW1)] [(.int (0 : Int32))])) _
    exact retI X1 hx Bd.returns (hb hby own_d3_4) hr
  · show OwnQ _ h0 n0 _ T1.heap _
    exact ⟨rfl, N0, e1⟩
theorem own_pd_1 : parseMethodDescriptor "()I" = some ⟨[], some .int⟩ := by decide +kernel
theorem own_d2_0 : decode prog_18_method_5_code 0 = .ok (.aload_n 0, 1) := by decide +kernel
theorem own_d2_1 : decode prog_18_method_5_code 1 = .ok (.invokevirtual 59, 3) := by decide +kernel
theorem own_d2_4 : decode prog_18_method_5_code 4 = .ok (.tableswitch 76 0 5 #[40, 46, 52, 58, 64, 70], 40) := by decide +kernel
theorem own_d2_44 : decode prog_18_method_5_code 44 = .ok (.getstatic 22, 3) := by decide +kernel
theorem own_d2_47 : decode prog_18_method_5_code 47 = .ok (.goto 34, 3) := by decide +kernel
theorem own_d2_81 : decode prog_18_method_5_code 81 = .ok (.areturn, 1) := by decide +kernel
set_option maxRecDepth 65536 in
set_option maxHeartbeats 40000000 in
theorem own_atInstant_1 (l : Launch) (Z : State) (a0 : Array Value) (hw : ∀ d ∈ tables_1, d.before a0 Z = true) (ws : List Jvm.Cond) (wW1 : Addr) (wW2 : Addr) (wW3 : Addr) (wW4 : Addr) (wW5 : Addr) (wW6 : Addr) (wCW1 : Addr) (wCW2 : Addr) (wCW3 : Addr) (wCW4 : Addr) (wCW5 : Addr) (wCW6 : Addr) (G : OwnG Z wW1 wW2 wW3 wW4 wW5 wW6 wCW1 wCW2 wCW3 wCW4 wCW5 wCW6) (h0 : Heap) (n0 : Nat) (O0 : Old Z n0 h0) :
    MetFree l (⟨"com/example/credlib/credlib/engine/Rule", "atInstant", "()Lcom/example/credlib/credlib/engine/Rule;"⟩ : MethodName) (head1 (Jvm.Cond.code (⟨"com/example/credlib/credlib/engine/Rule", "atInstant", "()Lcom/example/credlib/credlib/engine/Rule;"⟩ : MethodName) prog_18_method_5_code 1 (some (.object "com/example/credlib/credlib/engine/Rule")) :: ws) ({ frames := 1, cells := 0, slots := 0, locals := 12 } : Room)) (fun a U => a = #[(.ref wW1)] ∧ Z.Warmed39 U.vm ∧ U.heap = h0) (fun _ _ _ _ _ => True) (fun _ U o U' => ∃ v L, o = .returned v ∧ OwnQ (some (.ref wCW1)) h0 n0 v U'.heap L ∧ FrameEnd U o U' L ({ frames := 1, cells := 0, slots := 0, locals := 12 } : Room).cells ({ frames := 1, cells := 0, slots := 0, locals := 12 } : Room).slots) := by
  refine MetFree.of_bodySF (plainFor_of_name own_pn_1) hisR ?_
  intro p e s m args below meth c s₁ Bd hml0 hP hK
  obtain ⟨rfl, hZ, hh⟩ := hP
  have hx := Bd.exec
  have hby := Bd.bytes
  have hml : c.maxLocals = 1 := hml0
  have hown : s.vm.findClass "com/example/credlib/credlib/engine/Rule" = some m.cls := findClass_of_methodNamed Bd.named
  have hnm := (name_of_methodNamed Bd.named Bd.method).1
  have X0 : Stand p l e ({ frames := 1, cells := 0, slots := 0, locals := 12 } : Room) s m #[(.ref wW1)] below meth c s₁ [] 0 0 := Stand.of_body Bd
  have e0 : s₁.heap = h0 := by rw [← hh, Bd.state]; rfl
  have N0 := Fr.nil n0
  have pre0 : ∀ t, Steps p.tables e below (s₁.setTop (mkF m 0 #[.val (.ref wW1)] [])) t → Steps p.tables e below (s₁.setTop (entryFrame m #[(.ref wW1)] 1)) t := fun t k => castTop (own_ef_2_R m wW1) k
  obtain ⟨cq1, kq1, q1a, q1b, q1c⟩ := isOf hZ e0 (G.2.1.ext O0.2)
  obtain ⟨_, _, ⟨T1, L1, k1, n1⟩, -, X1, ⟨Lc1, hQ1, l1, y1, z1⟩, st1⟩ := X0.virtualBackUp hx (x := (⟨"com/example/credlib/credlib/engine/Rule", "ordinal", "()I"⟩ : MethodName)) (y := (⟨"java/lang/Enum", "ordinal", "()I"⟩ : MethodName)) (owner := "java/lang/Enum") hown (mvT hZ (hw _ (List.mem_of_getElem? (i := 40) rfl))) (mvT hZ (hw _ (List.mem_of_getElem? (i := 41) rfl))) (mvT hZ (hw _ (List.mem_of_getElem? (i := 42) rfl))) (by decide) (mvT hZ (hw _ (List.mem_of_getElem? (i := 44) rfl))) (mvT hZ (hw _ (List.mem_of_getElem? (i := 43) rfl))) (backOf (W := 0) (own_ordinal_2 l Z a0 hw [] wW1 wW2 wW3 wW4 wW5 wW6 wCW1 wCW2 wCW3 wCW4 wCW5 wCW6 G h0 n0 O0) hZ (hw _ (List.mem_of_getElem? (i := 46) rfl)) (hw _ (List.mem_of_getElem? (i := 45) rfl)) (by decide) (by decide)) q1a q1c (g := (mkF m 1 #[.val (.ref wW1)] [(.ref wW1)])) rfl (by rw [hml]; rfl) (Steps.refl _) (argsL := []) (rest := []) (lenOf own_pd_1 rfl) rfl (by show 2 * 0 + _ ≤ _; exact Nat.le_of_eq rfl) (hb hby own_d2_1) (fun _ _ => ⟨rfl, e0, (by decide : 0 + 0 ≤ _), (by decide : 0 + 0 ≤ _)⟩)
  dsimp only [Pt.U, Pt.locs, Pt.cells, Pt.slots] at X1 l1 y1 z1 st1 hQ1
  subst l1 y1 z1
  obtain ⟨rfl, N1q, e1⟩ := hQ1
  have N1 := Fr.app N0 N1q
  obtain ⟨T2, X2, e2, st2⟩ := getS2 X1 hx hZ hown (host := "") (Or.inl (hw _ (List.mem_of_getElem? (i := 49) rfl))) Via.refl e1 (G.2.2.2.2.2.2.2.2.2.2.2.2.1.ext O0.2) (g := (mkF m 44 #[.val (.ref wW1)] [])) rfl (hb hby own_d2_44)
  obtain ⟨fs, hr, hrun, hended, hW, hsame⟩ := X2.leave (v := some (.ref wCW1)) (fun h => by rw [Bd.returns] at h; cases h)
  refine ⟨_, _, pre0 _ ?_, hrun, hended, _, _, rfl, ?_, ⟨_, rfl⟩, hW, hsame.mono (by decide) (by decide)⟩
  · show Steps p.tables e below (s₁.setTop (mkF m 0 #[.val (.ref wW1)] [])) _
    refine XS.aloadN X0.here hx rfl (hb hby own_d2_0) rfl rfl ?_
    show Steps p.tables e below (s₁.setTop (mkF m 1 #[.val (.ref wW1)] [(.ref wW1)])) _
    refine st1.trans ?_
    show Steps p.tables e below (T1.setTop (mkF m 4 #[.val (.ref wW1)] [(.int (0 : Int32))])) _
    refine XS.tswIn X1.here hx rfl (o := 40) (pc0 := 4) (pc' := 44) rfl (hb hby own_d2_4) rfl (by decide) rfl (by decide) (by decide) ?_
    show Steps p.tables e below (T1.setTop (mkF m 44 #[.val (.ref wW1)] [])) _
    refine st2 _ ?_
    show Steps p.tables e below (T2.setTop (mkF m 47 #[.val (.ref wW1)] [(.ref wCW1)])) _
    refine XS.goto X2.here hx rfl (pc0 := 47) (pc' := 81) rfl (hb hby own_d2_47) (by decide) (by decide) ?_
    show Steps p.tables e below (T2.setTop (mkF m 81 #[.val (.ref wW1)] [(.ref wCW1)])) _
    jvm_step X2.here [X2.here.top, hx, (hb hby own_d2_81), X2.method', Bd.returns, Value.isRef, FieldType.isReference]
    first | (intro acts; rw [hr _ acts rfl rfl rfl]) | rw [hr _ _ rfl rfl rfl]
    exact Steps.refl _
  · show OwnQ _ h0 n0 _ T2.heap _
    exact ⟨rfl, N1, e2⟩
theorem own_pd_2 : parseMethodDescriptor "()Lcom/example/credlib/credlib/engine/Rule;" = some ⟨[], some (.object "com/example/credlib/credlib/engine/Rule")⟩ := by decide +kernel
theorem own_d1_7 : decode prog_18_method_4_code 7 = .ok (.aload_n 0, 1) := by decide +kernel
theorem own_d1_8 : decode prog_18_method_4_code 8 = .ok (.getstatic 22, 3) := by decide +kernel
theorem own_d1_11 : decode prog_18_method_4_code 11 = .ok (.if_acmp .ne 7, 3) := by decide +kernel
set_option maxRecDepth 65536 in
set_option maxHeartbeats 40000000 in
theorem own_statesCredential_3 (l : Launch) (Z : State) (a0 : Array Value) (hw : ∀ d ∈ tables_1, d.before a0 Z = true) (ws : List Jvm.Cond) (wW1 : Addr) (wW2 : Addr) (wW3 : Addr) (wW4 : Addr) (wW5 : Addr) (wW6 : Addr) (wCW1 : Addr) (wCW2 : Addr) (wCW3 : Addr) (wCW4 : Addr) (wCW5 : Addr) (wCW6 : Addr) (G : OwnG Z wW1 wW2 wW3 wW4 wW5 wW6 wCW1 wCW2 wCW3 wCW4 wCW5 wCW6) (h0 : Heap) (n0 : Nat) (O0 : Old Z n0 h0) :
    MetFree l (⟨"com/example/credlib/credlib/engine/Rule", "statesCredential", "()Z"⟩ : MethodName) (head1 (Jvm.Cond.code (⟨"com/example/credlib/credlib/engine/Rule", "statesCredential", "()Z"⟩ : MethodName) prog_18_method_4_code 1 (some .boolean) :: ws) ({ frames := 0, cells := 0, slots := 0, locals := 0 } : Room)) (fun a U => a = #[(.ref wCW1)] ∧ Z.Warmed39 U.vm ∧ U.heap = h0) (fun _ _ _ _ _ => True) (fun _ U o U' => ∃ v L, o = .returned v ∧ OwnQ (some (.int (1 : Int32))) h0 n0 v U'.heap L ∧ FrameEnd U o U' L ({ frames := 0, cells := 0, slots := 0, locals := 0 } : Room).cells ({ frames := 0, cells := 0, slots := 0, locals := 0 } : Room).slots) := by
  refine MetFree.of_bodySF (plainFor_of_name own_pn_1) hisR ?_
  intro p e s m args below meth c s₁ Bd hml0 hP hK
  obtain ⟨rfl, hZ, hh⟩ := hP
  have hx := Bd.exec
  have hby := Bd.bytes
  have hml : c.maxLocals = 1 := hml0
  have hown : s.vm.findClass "com/example/credlib/credlib/engine/Rule" = some m.cls := findClass_of_methodNamed Bd.named
  have hnm := (name_of_methodNamed Bd.named Bd.method).1
  have X0 : Stand p l e ({ frames := 0, cells := 0, slots := 0, locals := 0 } : Room) s m #[(.ref wCW1)] below meth c s₁ [] 0 0 := Stand.of_body Bd
  have e0 : s₁.heap = h0 := by rw [← hh, Bd.state]; rfl
  have N0 := Fr.nil n0
  have pre0 : ∀ t, Steps p.tables e below (s₁.setTop (mkF m 0 #[.val (.ref wCW1)] [])) t → Steps p.tables e below (s₁.setTop (entryFrame m #[(.ref wCW1)] 1)) t := fun t k => castTop (own_ef_1_R m wCW1) k
  obtain ⟨T1, X1, e1, st1⟩ := getS2 X0 hx hZ hown (host := "") (Or.inl (hw _ (List.mem_of_getElem? (i := 34) rfl))) Via.refl e0 (G.1.ext O0.2) (g := (mkF m 1 #[.val (.ref wCW1)] [(.ref wCW1)])) rfl (hb hby own_d1_1)
  obtain ⟨T2, X2, e2, st2⟩ := getS2 X1 hx hZ hown (host := "") (Or.inl (hw _ (List.mem_of_getElem? (i := 49) rfl))) Via.refl e1 (G.2.2.2.2.2.2.2.2.2.2.2.2.1.ext O0.2) (g := (mkF m 8 #[.val (.ref wCW1)] [(.ref wCW1)])) rfl (hb hby own_d1_8)
  obtain ⟨fs, hr, hrun, hended, hW, hsame⟩ := X2.leave (v := some (.int (1 : Int32))) (fun h => by rw [Bd.returns] at h; cases h)
  refine ⟨_, _, pre0 _ ?_, hrun, hended, _, _, rfl, ?_, ⟨_, rfl⟩, hW, hsame.mono (by decide) (by decide)⟩
  · show Steps p.tables e below (s₁.setTop (mkF m 0 #[.val (.ref wCW1)] [])) _
    refine XS.aloadN X0.here hx rfl (hb hby own_d1_0) rfl rfl ?_
    show Steps p.tables e below (s₁.setTop (mkF m 1 #[.val (.ref wCW1)] [(.ref wCW1)])) _
    refine st1 _ ?_
    show Steps p.tables e below (T1.setTop (mkF m 4 #[.val (.ref wCW1)] [(.ref wW1), (.ref wCW1)])) _
    refine Jvm.RoadKit.acmp (g := (mkF m 4 #[.val (.ref wCW1)] [(.ref wW1), (.ref wCW1)])) X1 hx rfl rfl rfl (pc0 := 4) (pc' := 7) (same := false) rfl (hb hby own_d1_4) rfl (decide_eq_false fun q => (Ne.symm G.2.2.2.2.2.2.2.2.2.2.2.2.2.2.2.2.2.2.2.2.2.2.2.2.2.2.2.2.2.2.2.2.2.2.2.2.1) (Value.ref.inj q)) (by decide) (by decide) ?_
    show Steps p.tables e below (T1.setTop (mkF m 7 #[.val (.ref wCW1)] [])) _
    refine XS.aloadN X1.here hx rfl (hb hby own_d1_7) rfl rfl ?_
    show Steps p.tables e below (T1.setTop (mkF m 8 #[.val (.ref wCW1)] [(.ref wCW1)])) _
    refine st2 _ ?_
    show Steps p.tables e below (T2.setTop (mkF m 11 #[.val (.ref wCW1)] [(.ref wCW1), (.ref wCW1)])) _
    refine Jvm.RoadKit.acmp (g := (mkF m 11 #[.val (.ref wCW1)] [(.ref wCW1), (.ref wCW1)])) X2 hx rfl rfl rfl (pc0 := 11) (pc' := 14) (same := true) rfl (hb hby own_d1_11) rfl (decide_eq_true rfl) (by decide) (by decide) ?_
    show Steps p.tables e below (T2.setTop (mkF m 14 #[.val (.ref wCW1)] [])) _
    refine XS.iconst X2.here hx rfl (hb hby own_d1_14) ?_
    show Steps p.tables e below (T2.setTop (mkF m 15 #[.val (.ref wCW1)] [(.int (1 : Int32))])) _
    refine XS.goto X2.here hx rfl (pc0 := 15) (pc' := 19) rfl (hb hby own_d1_15) (by decide) (by decide) ?_
    show Steps p.tables e below (T2.setTop (mkF m 19 #[.val (.ref wCW1)] [(.int (1 : Int32))])) _
    exact retN X2 hx (t := .boolean) Bd.returns (by simp) (hb hby own_d1_19) hr
  · show OwnQ _ h0 n0 _ T2.heap _
    exact ⟨rfl, N0, e2⟩
set_option maxRecDepth 65536 in
set_option maxHeartbeats 40000000 in
theorem own_law_0 (l : Launch) (Z : State) (a0 : Array Value) (hw : ∀ d ∈ tables_1, d.before a0 Z = true) (ws : List Jvm.Cond) (wW1 : Addr) (wW2 : Addr) (wW3 : Addr) (wW4 : Addr) (wW5 : Addr) (wW6 : Addr) (wCW1 : Addr) (wCW2 : Addr) (wCW3 : Addr) (wCW4 : Addr) (wCW5 : Addr) (wCW6 : Addr) (G : OwnG Z wW1 wW2 wW3 wW4 wW5 wW6 wCW1 wCW2 wCW3 wCW4 wCW5 wCW6) (h0 : Heap) (n0 : Nat) (O0 : Old Z n0 h0) (p1 : Int32) (hi : ((p1 &&& (2147483647 : Int32)) % (12 : Int32)) = (0 : Int32)) :
    MetFree l x (head1 (Jvm.Cond.code x code maxLocals ret :: ws) room_1) (fun a U => a = #[(.int p1)] ∧ Z.Warmed39 U.vm ∧ U.heap = h0) (fun _ _ _ _ _ => True) (fun _ U o U' => ∃ v L, o = .returned v ∧ (v = some (.int 1) ∧ Fr n0 L) ∧ FrameEnd U o U' L room_1.cells room_1.slots) := by
  refine MetFree.of_bodySF (plainFor_of_name own_pn_0) hisR ?_
  intro p e s m args below meth c s₁ Bd hml0 hP hK
  obtain ⟨rfl, hZ, hh⟩ := hP
  have hx := Bd.exec
  have hby := Bd.bytes
  have hml : c.maxLocals = 7 := hml0
  have hown : s.vm.findClass "com/example/credlib/credlib/engine/RuleStatesCredentialPinLaw" = some m.cls := findClass_of_methodNamed Bd.named
  have hnm := (name_of_methodNamed Bd.named Bd.method).1
  have X0 : Stand p l e room_1 s m #[(.int p1)] below meth c s₁ [] 0 0 := Stand.of_body Bd
  have e0 : s₁.heap = h0 := by rw [← hh, Bd.state]; rfl
  have N0 := Fr.nil n0
  have pre0 : ∀ t, Steps p.tables e below (s₁.setTop (mkF m 0 #[.val (.int p1), .unset, .unset, .unset, .unset, .unset, .unset] [])) t → Steps p.tables e below (s₁.setTop (entryFrame m #[(.int p1)] maxLocals)) t := fun t k => castTop (own_ef_0_I m p1) k
  obtain ⟨T1, h1, k1, X1, e1, E1, A1, Ov1, st1⟩ := newR X0 hx hZ hown (hw _ (List.mem_of_getElem? (i := 0) rfl)) (hw _ (List.mem_of_getElem? (i := 1) rfl)) e0 (g := (mkF m 2 #[.val (.int p1), .unset, .unset, .unset, .unset, .unset, .unset] [(.int (12 : Int32))])) rfl (hb hby at_2) rfl (by decide) (cap := 12) (by decide) (by decide) (by decide) (by decide)
  obtain ⟨b1, g1⟩ : ∃ z, z = h0.size := ⟨_, rfl⟩
  rw [← g1] at A1 st1
  have ge_b1 : n0 ≤ b1 := own_new O0 g1
  have sz_b1 : h0.size ≤ b1 := Nat.le_trans (Keep.refl h0 []).1 (Nat.le_of_eq g1.symm)
  have O1 := O0.ext E1
  have K1 := (Keep.refl h0 []).ext E1
  have V1 : Arv Z h1 b1 k1 (.object "com/example/credlib/credlib/engine/Rule") (12 : Int32) [.null, .null, .null, .null, .null, .null, .null, .null, .null, .null, .null, .null] .null := (Arv.new A1 (by decide)).pad (pad_rep [] .null 12)
  obtain ⟨T2, X2, e2, st2⟩ := getS2 X1 hx hZ hown (host := "") (Or.inl (hw _ (List.mem_of_getElem? (i := 2) rfl))) Via.refl e1 (G.1.ext O1.2) (g := (mkF m 7 #[.val (.int p1), .unset, .unset, .unset, .unset, .unset, .unset] [(.int (0 : Int32)), (.ref b1), (.ref b1)])) rfl (hb hby at_7)
  obtain ⟨cl3, Ar3, qk3, Sz3, Nn3, Hs3, Gs3⟩ := id (V1)
  have hin3 : ¬ ((0 : Int32) < 0 ∨ cl3.slots.size ≤ ((0 : Int32)).toNatClampNeg) := inb_of Sz3 ⟨by decide, by decide⟩
  obtain ⟨T3, h3, X3, e3, W3, st3⟩ := stR X2 hx hZ e2 Ar3 (j := (0 : Int32)) hin3 rfl (Sto.ofV Ar3 qk3 Ov1 (Ins.self (G.2.1.ext O1.2))) (g := (mkF m 10 #[.val (.int p1), .unset, .unset, .unset, .unset, .unset, .unset] [(.ref wW1), (.int (0 : Int32)), (.ref b1), (.ref b1)])) rfl rfl (hb hby at_10)
  have V3 := Arv.set Ar3 qk3 Sz3 Nn3 Hs3 Gs3 rfl W3 0 rfl (Nat.le_of_ble_eq_true rfl)
  have O3 := O1.wr W3 ge_b1
  have K3 := K1.wr W3 (Or.inr sz_b1)
  have N3 := Fr.snoc X3 N0 ge_b1
  obtain ⟨T4, X4, e4, st4⟩ := getS2 X3 hx hZ hown (host := "") (Or.inl (hw _ (List.mem_of_getElem? (i := 6) rfl))) Via.refl e3 (G.2.2.1.ext O3.2) (g := (mkF m 13 #[.val (.int p1), .unset, .unset, .unset, .unset, .unset, .unset] [(.int (1 : Int32)), (.ref b1), (.ref b1)])) rfl (hb hby at_13)
  obtain ⟨cl5, Ar5, qk5, Sz5, Nn5, Hs5, Gs5⟩ := id (V3)
  have hin5 : ¬ ((1 : Int32) < 0 ∨ cl5.slots.size ≤ ((1 : Int32)).toNatClampNeg) := inb_of Sz5 ⟨by decide, by decide⟩
  obtain ⟨T5, h5, X5, e5, W5, st5⟩ := stR X4 hx hZ e4 Ar5 (j := (1 : Int32)) hin5 rfl (Sto.ofV Ar5 qk5 Ov1 (Ins.self (G.2.2.2.1.ext O3.2))) (g := (mkF m 16 #[.val (.int p1), .unset, .unset, .unset, .unset, .unset, .unset] [(.ref wW2), (.int (1 : Int32)), (.ref b1), (.ref b1)])) rfl rfl (hb hby at_16)
  have V5 := Arv.set Ar5 qk5 Sz5 Nn5 Hs5 Gs5 rfl W5 1 rfl (Nat.le_of_ble_eq_true rfl)
  have O5 := O3.wr W5 ge_b1
  have K5 := K3.wr W5 (Or.inr sz_b1)
  have N5 := Fr.snoc X5 N3 ge_b1
  obtain ⟨T6, X6, e6, st6⟩ := getS2 X5 hx hZ hown (host := "") (Or.inl (hw _ (List.mem_of_getElem? (i := 8) rfl))) Via.refl e5 (G.2.2.2.2.1.ext O5.2) (g := (mkF m 19 #[.val (.int p1), .unset, .unset, .unset, .unset, .unset, .unset] [(.int (2 : Int32)), (.ref b1), (.ref b1)])) rfl (hb hby at_19)
  obtain ⟨cl7, Ar7, qk7, Sz7, Nn7, Hs7, Gs7⟩ := id (V5)
  have hin7 : ¬ ((2 : Int32) < 0 ∨ cl7.slots.size ≤ ((2 : Int32)).toNatClampNeg) := inb_of Sz7 ⟨by decide, by decide⟩
  obtain ⟨T7, h7, X7, e7, W7, st7⟩ := stR X6 hx hZ e6 Ar7 (j := (2 : Int32)) hin7 rfl (Sto.ofV Ar7 qk7 Ov1 (Ins.self (G.2.2.2.2.2.1.ext O5.2))) (g := (mkF m 22 #[.val (.int p1), .unset, .unset, .unset, .unset, .unset, .unset] [(.ref wW3), (.int (2 : Int32)), (.ref b1), (.ref b1)])) rfl rfl (hb hby at_22)
  have V7 := Arv.set Ar7 qk7 Sz7 Nn7 Hs7 Gs7 rfl W7 2 rfl (Nat.le_of_ble_eq_true rfl)
  have O7 := O5.wr W7 ge_b1
  have K7 := K5.wr W7 (Or.inr sz_b1)
  have N7 := Fr.snoc X7 N5 ge_b1
  obtain ⟨T8, X8, e8, st8⟩ := getS2 X7 hx hZ hown (host := "") (Or.inl (hw _ (List.mem_of_getElem? (i := 10) rfl))) Via.refl e7 (G.2.2.2.2.2.2.1.ext O7.2) (g := (mkF m 25 #[.val (.int p1), .unset, .unset, .unset, .unset, .unset, .unset] [(.int (3 : Int32)), (.ref b1), (.ref b1)])) rfl (hb hby at_25)
  obtain ⟨cl9, Ar9, qk9, Sz9, Nn9, Hs9, Gs9⟩ := id (V7)
  have hin9 : ¬ ((3 : Int32) < 0 ∨ cl9.slots.size ≤ ((3 : Int32)).toNatClampNeg) := inb_of Sz9 ⟨by decide, by decide⟩
  obtain ⟨T9, h9, X9, e9, W9, st9⟩ := stR X8 hx hZ e8 Ar9 (j := (3 : Int32)) hin9 rfl (Sto.ofV Ar9 qk9 Ov1 (Ins.self (G.2.2.2.2.2.2.2.1.ext O7.2))) (g := (mkF m 28 #[.val (.int p1), .unset, .unset, .unset, .unset, .unset, .unset] [(.ref wW4), (.int (3 : Int32)), (.ref b1), (.ref b1)])) rfl rfl (hb hby at_28)
  have V9 := Arv.set Ar9 qk9 Sz9 Nn9 Hs9 Gs9 rfl W9 3 rfl (Nat.le_of_ble_eq_true rfl)
  have O9 := O7.wr W9 ge_b1
  have K9 := K7.wr W9 (Or.inr sz_b1)
  have N9 := Fr.snoc X9 N7 ge_b1
  obtain ⟨T10, X10, e10, st10⟩ := getS2 X9 hx hZ hown (host := "") (Or.inl (hw _ (List.mem_of_getElem? (i := 12) rfl))) Via.refl e9 (G.2.2.2.2.2.2.2.2.1.ext O9.2) (g := (mkF m 31 #[.val (.int p1), .unset, .unset, .unset, .unset, .unset, .unset] [(.int (4 : Int32)), (.ref b1), (.ref b1)])) rfl (hb hby at_31)
  obtain ⟨cl11, Ar11, qk11, Sz11, Nn11, Hs11, Gs11⟩ := id (V9)
  have hin11 : ¬ ((4 : Int32) < 0 ∨ cl11.slots.size ≤ ((4 : Int32)).toNatClampNeg) := inb_of Sz11 ⟨by decide, by decide⟩
  obtain ⟨T11, h11, X11, e11, W11, st11⟩ := stR X10 hx hZ e10 Ar11 (j := (4 : Int32)) hin11 rfl (Sto.ofV Ar11 qk11 Ov1 (Ins.self (G.2.2.2.2.2.2.2.2.2.1.ext O9.2))) (g := (mkF m 34 #[.val (.int p1), .unset, .unset, .unset, .unset, .unset, .unset] [(.ref wW5), (.int (4 : Int32)), (.ref b1), (.ref b1)])) rfl rfl (hb hby at_34)
  have V11 := Arv.set Ar11 qk11 Sz11 Nn11 Hs11 Gs11 rfl W11 4 rfl (Nat.le_of_ble_eq_true rfl)
  have O11 := O9.wr W11 ge_b1
  have K11 := K9.wr W11 (Or.inr sz_b1)
  have N11 := Fr.snoc X11 N9 ge_b1
  obtain ⟨T12, X12, e12, st12⟩ := getS2 X11 hx hZ hown (host := "") (Or.inl (hw _ (List.mem_of_getElem? (i := 14) rfl))) Via.refl e11 (G.2.2.2.2.2.2.2.2.2.2.1.ext O11.2) (g := (mkF m 37 #[.val (.int p1), .unset, .unset, .unset, .unset, .unset, .unset] [(.int (5 : Int32)), (.ref b1), (.ref b1)])) rfl (hb hby at_37)
  obtain ⟨cl13, Ar13, qk13, Sz13, Nn13, Hs13, Gs13⟩ := id (V11)
  have hin13 : ¬ ((5 : Int32) < 0 ∨ cl13.slots.size ≤ ((5 : Int32)).toNatClampNeg) := inb_of Sz13 ⟨by decide, by decide⟩
  obtain ⟨T13, h13, X13, e13, W13, st13⟩ := stR X12 hx hZ e12 Ar13 (j := (5 : Int32)) hin13 rfl (Sto.ofV Ar13 qk13 Ov1 (Ins.self (G.2.2.2.2.2.2.2.2.2.2.2.1.ext O11.2))) (g := (mkF m 40 #[.val (.int p1), .unset, .unset, .unset, .unset, .unset, .unset] [(.ref wW6), (.int (5 : Int32)), (.ref b1), (.ref b1)])) rfl rfl (hb hby at_40)
  have V13 := Arv.set Ar13 qk13 Sz13 Nn13 Hs13 Gs13 rfl W13 5 rfl (Nat.le_of_ble_eq_true rfl)
  have O13 := O11.wr W13 ge_b1
  have K13 := K11.wr W13 (Or.inr sz_b1)
  have N13 := Fr.snoc X13 N11 ge_b1
  obtain ⟨T14, X14, e14, st14⟩ := getS2 X13 hx hZ hown (host := "") (Or.inl (hw _ (List.mem_of_getElem? (i := 16) rfl))) Via.refl e13 (G.2.2.2.2.2.2.2.2.2.2.2.2.1.ext O13.2) (g := (mkF m 44 #[.val (.int p1), .unset, .unset, .unset, .unset, .unset, .unset] [(.int (6 : Int32)), (.ref b1), (.ref b1)])) rfl (hb hby at_44)
  obtain ⟨cl15, Ar15, qk15, Sz15, Nn15, Hs15, Gs15⟩ := id (V13)
  have hin15 : ¬ ((6 : Int32) < 0 ∨ cl15.slots.size ≤ ((6 : Int32)).toNatClampNeg) := inb_of Sz15 ⟨by decide, by decide⟩
  obtain ⟨T15, h15, X15, e15, W15, st15⟩ := stR X14 hx hZ e14 Ar15 (j := (6 : Int32)) hin15 rfl (Sto.ofV Ar15 qk15 Ov1 (Ins.self (G.2.2.2.2.2.2.2.2.2.2.2.2.2.1.ext O13.2))) (g := (mkF m 47 #[.val (.int p1), .unset, .unset, .unset, .unset, .unset, .unset] [(.ref wCW1), (.int (6 : Int32)), (.ref b1), (.ref b1)])) rfl rfl (hb hby at_47)
  have V15 := Arv.set Ar15 qk15 Sz15 Nn15 Hs15 Gs15 rfl W15 6 rfl (Nat.le_of_ble_eq_true rfl)
  have O15 := O13.wr W15 ge_b1
  have K15 := K13.wr W15 (Or.inr sz_b1)
  have N15 := Fr.snoc X15 N13 ge_b1
  obtain ⟨T16, X16, e16, st16⟩ := getS2 X15 hx hZ hown (host := "") (Or.inl (hw _ (List.mem_of_getElem? (i := 18) rfl))) Via.refl e15 (G.2.2.2.2.2.2.2.2.2.2.2.2.2.2.1.ext O15.2) (g := (mkF m 51 #[.val (.int p1), .unset, .unset, .unset, .unset, .unset, .unset] [(.int (7 : Int32)), (.ref b1), (.ref b1)])) rfl (hb hby at_51)
  obtain ⟨cl17, Ar17, qk17, Sz17, Nn17, Hs17, Gs17⟩ := id (V15)
  have hin17 : ¬ ((7 : Int32) < 0 ∨ cl17.slots.size ≤ ((7 : Int32)).toNatClampNeg) := inb_of Sz17 ⟨by decide, by decide⟩
  obtain ⟨T17, h17, X17, e17, W17, st17⟩ := stR X16 hx hZ e16 Ar17 (j := (7 : Int32)) hin17 rfl (Sto.ofV Ar17 qk17 Ov1 (Ins.self (G.2.2.2.2.2.2.2.2.2.2.2.2.2.2.2.1.ext O15.2))) (g := (mkF m 54 #[.val (.int p1), .unset, .unset, .unset, .unset, .unset, .unset] [(.ref wCW2), (.int (7 : Int32)), (.ref b1), (.ref b1)])) rfl rfl (hb hby at_54)
  have V17 := Arv.set Ar17 qk17 Sz17 Nn17 Hs17 Gs17 rfl W17 7 rfl (Nat.le_of_ble_eq_true rfl)
  have O17 := O15.wr W17 ge_b1
  have K17 := K15.wr W17 (Or.inr sz_b1)
  have N17 := Fr.snoc X17 N15 ge_b1
  obtain ⟨T18, X18, e18, st18⟩ := getS2 X17 hx hZ hown (host := "") (Or.inl (hw _ (List.mem_of_getElem? (i := 20) rfl))) Via.refl e17 (G.2.2.2.2.2.2.2.2.2.2.2.2.2.2.2.2.1.ext O17.2) (g := (mkF m 58 #[.val (.int p1), .unset, .unset, .unset, .unset, .unset, .unset] [(.int (8 : Int32)), (.ref b1), (.ref b1)])) rfl (hb hby at_58)
  obtain ⟨cl19, Ar19, qk19, Sz19, Nn19, Hs19, Gs19⟩ := id (V17)
  have hin19 : ¬ ((8 : Int32) < 0 ∨ cl19.slots.size ≤ ((8 : Int32)).toNatClampNeg) := inb_of Sz19 ⟨by decide, by decide⟩
  obtain ⟨T19, h19, X19, e19, W19, st19⟩ := stR X18 hx hZ e18 Ar19 (j := (8 : Int32)) hin19 rfl (Sto.ofV Ar19 qk19 Ov1 (Ins.self (G.2.2.2.2.2.2.2.2.2.2.2.2.2.2.2.2.2.1.ext O17.2))) (g := (mkF m 61 #[.val (.int p1), .unset, .unset, .unset, .unset, .unset, .unset] [(.ref wCW3), (.int (8 : Int32)), (.ref b1), (.ref b1)])) rfl rfl (hb hby at_61)
  have V19 := Arv.set Ar19 qk19 Sz19 Nn19 Hs19 Gs19 rfl W19 8 rfl (Nat.le_of_ble_eq_true rfl)
  have O19 := O17.wr W19 ge_b1
  have K19 := K17.wr W19 (Or.inr sz_b1)
  have N19 := Fr.snoc X19 N17 ge_b1
  obtain ⟨T20, X20, e20, st20⟩ := getS2 X19 hx hZ hown (host := "") (Or.inl (hw _ (List.mem_of_getElem? (i := 22) rfl))) Via.refl e19 (G.2.2.2.2.2.2.2.2.2.2.2.2.2.2.2.2.2.2.1.ext O19.2) (g := (mkF m 65 #[.val (.int p1), .unset, .unset, .unset, .unset, .unset, .unset] [(.int (9 : Int32)), (.ref b1), (.ref b1)])) rfl (hb hby at_65)
  obtain ⟨cl21, Ar21, qk21, Sz21, Nn21, Hs21, Gs21⟩ := id (V19)
  have hin21 : ¬ ((9 : Int32) < 0 ∨ cl21.slots.size ≤ ((9 : Int32)).toNatClampNeg) := inb_of Sz21 ⟨by decide, by decide⟩
  obtain ⟨T21, h21, X21, e21, W21, st21⟩ := stR X20 hx hZ e20 Ar21 (j := (9 : Int32)) hin21 rfl (Sto.ofV Ar21 qk21 Ov1 (Ins.self (G.2.2.2.2.2.2.2.2.2.2.2.2.2.2.2.2.2.2.2.1.ext O19.2))) (g := (mkF m 68 #[.val (.int p1), .unset, .unset, .unset, .unset, .unset, .unset] [(.ref wCW4), (.int (9 : Int32)), (.ref b1), (.ref b1)])) rfl rfl (hb hby at_68)
  have V21 := Arv.set Ar21 qk21 Sz21 Nn21 Hs21 Gs21 rfl W21 9 rfl (Nat.le_of_ble_eq_true rfl)
  have O21 := O19.wr W21 ge_b1
  have K21 := K19.wr W21 (Or.inr sz_b1)
  have N21 := Fr.snoc X21 N19 ge_b1
  obtain ⟨T22, X22, e22, st22⟩ := getS2 X21 hx hZ hown (host := "") (Or.inl (hw _ (List.mem_of_getElem? (i := 24) rfl))) Via.refl e21 (G.2.2.2.2.2.2.2.2.2.2.2.2.2.2.2.2.2.2.2.2.1.ext O21.2) (g := (mkF m 72 #[.val (.int p1), .unset, .unset, .unset, .unset, .unset, .unset] [(.int (10 : Int32)), (.ref b1), (.ref b1)])) rfl (hb hby at_72)
  obtain ⟨cl23, Ar23, qk23, Sz23, Nn23, Hs23, Gs23⟩ := id (V21)
  have hin23 : ¬ ((10 : Int32) < 0 ∨ cl23.slots.size ≤ ((10 : Int32)).toNatClampNeg) := inb_of Sz23 ⟨by decide, by decide⟩
  obtain ⟨T23, h23, X23, e23, W23, st23⟩ := stR X22 hx hZ e22 Ar23 (j := (10 : Int32)) hin23 rfl (Sto.ofV Ar23 qk23 Ov1 (Ins.self (G.2.2.2.2.2.2.2.2.2.2.2.2.2.2.2.2.2.2.2.2.2.1.ext O21.2))) (g := (mkF m 75 #[.val (.int p1), .unset, .unset, .unset, .unset, .unset, .unset] [(.ref wCW5), (.int (10 : Int32)), (.ref b1), (.ref b1)])) rfl rfl (hb hby at_75)
  have V23 := Arv.set Ar23 qk23 Sz23 Nn23 Hs23 Gs23 rfl W23 10 rfl (Nat.le_of_ble_eq_true rfl)
  have O23 := O21.wr W23 ge_b1
  have K23 := K21.wr W23 (Or.inr sz_b1)
  have N23 := Fr.snoc X23 N21 ge_b1
  obtain ⟨T24, X24, e24, st24⟩ := getS2 X23 hx hZ hown (host := "") (Or.inl (hw _ (List.mem_of_getElem? (i := 26) rfl))) Via.refl e23 (G.2.2.2.2.2.2.2.2.2.2.2.2.2.2.2.2.2.2.2.2.2.2.1.ext O23.2) (g := (mkF m 79 #[.val (.int p1), .unset, .unset, .unset, .unset, .unset, .unset] [(.int (11 : Int32)), (.ref b1), (.ref b1)])) rfl (hb hby at_79)
  obtain ⟨cl25, Ar25, qk25, Sz25, Nn25, Hs25, Gs25⟩ := id (V23)
  have hin25 : ¬ ((11 : Int32) < 0 ∨ cl25.slots.size ≤ ((11 : Int32)).toNatClampNeg) := inb_of Sz25 ⟨by decide, by decide⟩
  obtain ⟨T25, h25, X25, e25, W25, st25⟩ := stR X24 hx hZ e24 Ar25 (j := (11 : Int32)) hin25 rfl (Sto.ofV Ar25 qk25 Ov1 (Ins.self (G.2.2.2.2.2.2.2.2.2.2.2.2.2.2.2.2.2.2.2.2.2.2.2.1.ext O23.2))) (g := (mkF m 82 #[.val (.int p1), .unset, .unset, .unset, .unset, .unset, .unset] [(.ref wCW6), (.int (11 : Int32)), (.ref b1), (.ref b1)])) rfl rfl (hb hby at_82)
  have V25 := Arv.set Ar25 qk25 Sz25 Nn25 Hs25 Gs25 rfl W25 11 rfl (Nat.le_of_ble_eq_true rfl)
  have O25 := O23.wr W25 ge_b1
  have K25 := K23.wr W25 (Or.inr sz_b1)
  have N25 := Fr.snoc X25 N23 ge_b1
  obtain ⟨cl26, Ar26, qk26, Sz26, Nn26, Hs26, Gs26⟩ := id (V25)
  have hin27 : ¬ ((0 : Int32) < 0 ∨ cl26.slots.size ≤ ((0 : Int32)).toNatClampNeg) := inb_of Sz26 ⟨by decide, by decide⟩
  have hat27 : cl26.slots[((0 : Int32)).toNatClampNeg]? = some (.ref wW1) := Hs26.at hin27 rfl
  obtain ⟨cq28, kq28, q28a, q28b, q28c⟩ := isOf hZ e25 (G.2.1.ext O25.2)
  obtain ⟨_, _, ⟨T28, L28, k28, n28⟩, -, X28, ⟨Lc28, hQ28, l28, y28, z28⟩, st28⟩ := X25.virtualBack hx (y := (⟨"com/example/credlib/credlib/engine/Rule", "statesCredential", "()Z"⟩ : MethodName)) (z := (⟨"com/example/credlib/credlib/engine/Rule", "statesCredential", "()Z"⟩ : MethodName)) hown (mvT hZ (hw _ (List.mem_of_getElem? (i := 29) rfl))) (mvT hZ (hw _ (List.mem_of_getElem? (i := 30) rfl))) (notFace_of_selects (args := #[]) (mvT hZ (hw _ (List.mem_of_getElem? (i := 32) rfl)))) (mvT hZ (hw _ (List.mem_of_getElem? (i := 32) rfl))) (mvT hZ (hw _ (List.mem_of_getElem? (i := 31) rfl))) (by decide) (backOf (W := 0) (own_statesCredential_0 l Z a0 hw [] wW1 wW2 wW3 wW4 wW5 wW6 wCW1 wCW2 wCW3 wCW4 wCW5 wCW6 G h25 n0 O25) hZ (hw _ (List.mem_of_getElem? (i := 33) rfl)) (hw _ (List.mem_of_getElem? (i := 3) rfl)) (by decide) (by decide)) q28a q28c (g := (mkF m 111 #[.val (.int p1), .val (.ref b1), .val (.int (0 : Int32)), .val (.ref wW1), .val (.int (1 : Int32)), .unset, .unset] [(.ref wW1)])) rfl (by rw [hml]; rfl) (Steps.refl _) (argsL := []) (rest := []) (lenOf own_pd_0 rfl) rfl (by show 2 * 0 + _ ≤ _; exact Nat.le_of_eq rfl) (hb hby at_111) (fun _ _ => ⟨rfl, e25, (by decide : 1 + 0 ≤ _), (by decide : 12 + 0 ≤ _)⟩)
  dsimp only [Pt.U, Pt.locs, Pt.cells, Pt.slots] at X28 l28 y28 z28 st28 hQ28
  subst l28 y28 z28
  obtain ⟨rfl, N28q, e28⟩ := hQ28
  have N28 := Fr.app N25 N28q
  obtain ⟨cq29, kq29, q29a, q29b, q29c⟩ := isOf hZ e28 (G.2.1.ext O25.2)
  obtain ⟨_, _, ⟨T29, L29, k29, n29⟩, -, X29, ⟨Lc29, hQ29, l29, y29, z29⟩, st29⟩ := X28.virtualBack hx (y := (⟨"com/example/credlib/credlib/engine/Rule", "atInstant", "()Lcom/example/credlib/credlib/engine/Rule;"⟩ : MethodName)) (z := (⟨"com/example/credlib/credlib/engine/Rule", "atInstant", "()Lcom/example/credlib/credlib/engine/Rule;"⟩ : MethodName)) hown (mvT hZ (hw _ (List.mem_of_getElem? (i := 35) rfl))) (mvT hZ (hw _ (List.mem_of_getElem? (i := 36) rfl))) (notFace_of_selects (args := #[]) (mvT hZ (hw _ (List.mem_of_getElem? (i := 38) rfl)))) (mvT hZ (hw _ (List.mem_of_getElem? (i := 38) rfl))) (mvT hZ (hw _ (List.mem_of_getElem? (i := 37) rfl))) (by decide) (backOf (W := 0) (own_atInstant_1 l Z a0 hw [] wW1 wW2 wW3 wW4 wW5 wW6 wCW1 wCW2 wCW3 wCW4 wCW5 wCW6 G h25 n0 O25) hZ (hw _ (List.mem_of_getElem? (i := 39) rfl)) (hw _ (List.mem_of_getElem? (i := 3) rfl)) (by decide) (by decide)) q29a q29c (g := (mkF m 117 #[.val (.int p1), .val (.ref b1), .val (.int (0 : Int32)), .val (.ref wW1), .val (.int (1 : Int32)), .val (.int (1 : Int32)), .unset] [(.ref wW1)])) rfl (by rw [hml]; rfl) (Steps.refl _) (argsL := []) (rest := []) (lenOf own_pd_2 rfl) rfl (by show 2 * 0 + _ ≤ _; exact Nat.le_of_eq rfl) (hb hby at_117) (fun _ _ => ⟨rfl, e28, (by decide : 1 + 0 ≤ _), (by decide : 12 + 0 ≤ _)⟩)
  dsimp only [Pt.U, Pt.locs, Pt.cells, Pt.slots] at X29 l29 y29 z29 st29 hQ29
  subst l29 y29 z29
  obtain ⟨rfl, N29q, e29⟩ := hQ29
  have N29 := Fr.app N28 N29q
  obtain ⟨cq30, kq30, q30a, q30b, q30c⟩ := isOf hZ e29 (G.2.2.2.2.2.2.2.2.2.2.2.2.2.1.ext O25.2)
  obtain ⟨_, _, ⟨T30, L30, k30, n30⟩, -, X30, ⟨Lc30, hQ30, l30, y30, z30⟩, st30⟩ := X29.virtualBack hx (y := (⟨"com/example/credlib/credlib/engine/Rule", "statesCredential", "()Z"⟩ : MethodName)) (z := (⟨"com/example/credlib/credlib/engine/Rule", "statesCredential", "()Z"⟩ : MethodName)) hown (mvT hZ (hw _ (List.mem_of_getElem? (i := 29) rfl))) (mvT hZ (hw _ (List.mem_of_getElem? (i := 30) rfl))) (notFace_of_selects (args := #[]) (mvT hZ (hw _ (List.mem_of_getElem? (i := 32) rfl)))) (mvT hZ (hw _ (List.mem_of_getElem? (i := 32) rfl))) (mvT hZ (hw _ (List.mem_of_getElem? (i := 31) rfl))) (by decide) (backOf (W := 0) (own_statesCredential_3 l Z a0 hw [] wW1 wW2 wW3 wW4 wW5 wW6 wCW1 wCW2 wCW3 wCW4 wCW5 wCW6 G h25 n0 O25) hZ (hw _ (List.mem_of_getElem? (i := 33) rfl)) (hw _ (List.mem_of_getElem? (i := 3) rfl)) (by decide) (by decide)) q30a q30c (g := (mkF m 120 #[.val (.int p1), .val (.ref b1), .val (.int (0 : Int32)), .val (.ref wW1), .val (.int (1 : Int32)), .val (.int (1 : Int32)), .unset] [(.ref wCW1)])) rfl (by rw [hml]; rfl) (Steps.refl _) (argsL := []) (rest := []) (lenOf own_pd_0 rfl) rfl (by show 2 * 0 + _ ≤ _; exact Nat.le_of_eq rfl) (hb hby at_120) (fun _ _ => ⟨rfl, e29, (by decide : 1 + 0 ≤ _), (by decide : 12 + 0 ≤ _)⟩)
  dsimp only [Pt.U, Pt.locs, Pt.cells, Pt.slots] at X30 l30 y30 z30 st30 hQ30
  subst l30 y30 z30
  obtain ⟨rfl, N30q, e30⟩ := hQ30
  have N30 := Fr.app N29 N30q
  obtain ⟨fs, hr, hrun, hended, hW, hsame⟩ := X30.leave (v := some (.int (1 : Int32))) (fun h => by rw [Bd.returns] at h; cases h)
  refine ⟨_, _, pre0 _ ?_, hrun, hended, _, _, rfl, ?_, ⟨_, rfl⟩, hW, hsame.mono (by decide) (by decide)⟩
  · show Steps p.tables e below (s₁.setTop (mkF m 0 #[.val (.int p1), .unset, .unset, .unset, .unset, .unset, .unset] [])) _
    refine XS.bipush X0.here hx rfl (hb hby at_0) ?_
    show Steps p.tables e below (s₁.setTop (mkF m 2 #[.val (.int p1), .unset, .unset, .unset, .unset, .unset, .unset] [(.int (12 : Int32))])) _
    refine st1 _ ?_
    show Steps p.tables e below (T1.setTop (mkF m 5 #[.val (.int p1), .unset, .unset, .unset, .unset, .unset, .unset] [(.ref b1)])) _
    refine XS.dup X1.here hx rfl (hb hby at_5) rfl rfl ?_
    show Steps p.tables e below (T1.setTop (mkF m 6 #[.val (.int p1), .unset, .unset, .unset, .unset, .unset, .unset] [(.ref b1), (.ref b1)])) _
    refine XS.iconst X1.here hx rfl (hb hby at_6) ?_
    show Steps p.tables e below (T1.setTop (mkF m 7 #[.val (.int p1), .unset, .unset, .unset, .unset, .unset, .unset] [(.int (0 : Int32)), (.ref b1), (.ref b1)])) _
    refine st2 _ ?_
    show Steps p.tables e below (T2.setTop (mkF m 10 #[.val (.int p1), .unset, .unset, .unset, .unset, .unset, .unset] [(.ref wW1), (.int (0 : Int32)), (.ref b1), (.ref b1)])) _
    refine st3 _ ?_
    show Steps p.tables e below (T3.setTop (mkF m 11 #[.val (.int p1), .unset, .unset, .unset, .unset, .unset, .unset] [(.ref b1)])) _
    refine XS.dup X3.here hx rfl (hb hby at_11) rfl rfl ?_
    show Steps p.tables e below (T3.setTop (mkF m 12 #[.val (.int p1), .unset, .unset, .unset, .unset, .unset, .unset] [(.ref b1), (.ref b1)])) _
    refine XS.iconst X3.here hx rfl (hb hby at_12) ?_
    show Steps p.tables e below (T3.setTop (mkF m 13 #[.val (.int p1), .unset, .unset, .unset, .unset, .unset, .unset] [(.int (1 : Int32)), (.ref b1), (.ref b1)])) _
    refine st4 _ ?_
    show Steps p.tables e below (T4.setTop (mkF m 16 #[.val (.int p1), .unset, .unset, .unset, .unset, .unset, .unset] [(.ref wW2), (.int (1 : Int32)), (.ref b1), (.ref b1)])) _
    refine st5 _ ?_
    show Steps p.tables e below (T5.setTop (mkF m 17 #[.val (.int p1), .unset, .unset, .unset, .unset, .unset, .unset] [(.ref b1)])) _
    refine XS.dup X5.here hx rfl (hb hby at_17) rfl rfl ?_
    show Steps p.tables e below (T5.setTop (mkF m 18 #[.val (.int p1), .unset, .unset, .unset, .unset, .unset, .unset] [(.ref b1), (.ref b1)])) _
    refine XS.iconst X5.here hx rfl (hb hby at_18) ?_
    show Steps p.tables e below (T5.setTop (mkF m 19 #[.val (.int p1), .unset, .unset, .unset, .unset, .unset, .unset] [(.int (2 : Int32)), (.ref b1), (.ref b1)])) _
    refine st6 _ ?_
    show Steps p.tables e below (T6.setTop (mkF m 22 #[.val (.int p1), .unset, .unset, .unset, .unset, .unset, .unset] [(.ref wW3), (.int (2 : Int32)), (.ref b1), (.ref b1)])) _
    refine st7 _ ?_
    show Steps p.tables e below (T7.setTop (mkF m 23 #[.val (.int p1), .unset, .unset, .unset, .unset, .unset, .unset] [(.ref b1)])) _
    refine XS.dup X7.here hx rfl (hb hby at_23) rfl rfl ?_
    show Steps p.tables e below (T7.setTop (mkF m 24 #[.val (.int p1), .unset, .unset, .unset, .unset, .unset, .unset] [(.ref b1), (.ref b1)])) _
    refine XS.iconst X7.here hx rfl (hb hby at_24) ?_
    show Steps p.tables e below (T7.setTop (mkF m 25 #[.val (.int p1), .unset, .unset, .unset, .unset, .unset, .unset] [(.int (3 : Int32)), (.ref b1), (.ref b1)])) _
    refine st8 _ ?_
    show Steps p.tables e below (T8.setTop (mkF m 28 #[.val (.int p1), .unset, .unset, .unset, .unset, .unset, .unset] [(.ref wW4), (.int (3 : Int32)), (.ref b1), (.ref b1)])) _
    refine st9 _ ?_
    show Steps p.tables e below (T9.setTop (mkF m 29 #[.val (.int p1), .unset, .unset, .unset, .unset, .unset, .unset] [(.ref b1)])) _
    refine XS.dup X9.here hx rfl (hb hby at_29) rfl rfl ?_
    show Steps p.tables e below (T9.setTop (mkF m 30 #[.val (.int p1), .unset, .unset, .unset, .unset, .unset, .unset] [(.ref b1), (.ref b1)])) _
    refine XS.iconst X9.here hx rfl (hb hby at_30) ?_
    show Steps p.tables e below (T9.setTop (mkF m 31 #[.val (.int p1), .unset, .unset, .unset, .unset, .unset, .unset] [(.int (4 : Int32)), (.ref b1), (.ref b1)])) _
    refine st10 _ ?_
    show Steps p.tables e below (T10.setTop (mkF m 34 #[.val (.int p1), .unset, .unset, .unset, .unset, .unset, .unset] [(.ref wW5), (.int (4 : Int32)), (.ref b1), (.ref b1)])) _
    refine st11 _ ?_
    show Steps p.tables e below (T11.setTop (mkF m 35 #[.val (.int p1), .unset, .unset, .unset, .unset, .unset, .unset] [(.ref b1)])) _
    refine XS.dup X11.here hx rfl (hb hby at_35) rfl rfl ?_
    show Steps p.tables e below (T11.setTop (mkF m 36 #[.val (.int p1), .unset, .unset, .unset, .unset, .unset, .unset] [(.ref b1), (.ref b1)])) _
    refine XS.iconst X11.here hx rfl (hb hby at_36) ?_
    show Steps p.tables e below (T11.setTop (mkF m 37 #[.val (.int p1), .unset, .unset, .unset, .unset, .unset, .unset] [(.int (5 : Int32)), (.ref b1), (.ref b1)])) _
    refine st12 _ ?_
    show Steps p.tables e below (T12.setTop (mkF m 40 #[.val (.int p1), .unset, .unset, .unset, .unset, .unset, .unset] [(.ref wW6), (.int (5 : Int32)), (.ref b1), (.ref b1)])) _
    refine st13 _ ?_
    show Steps p.tables e below (T13.setTop (mkF m 41 #[.val (.int p1), .unset, .unset, .unset, .unset, .unset, .unset] [(.ref b1)])) _
    refine XS.dup X13.here hx rfl (hb hby at_41) rfl rfl ?_
    show Steps p.tables e below (T13.setTop (mkF m 42 #[.val (.int p1), .unset, .unset, .unset, .unset, .unset, .unset] [(.ref b1), (.ref b1)])) _
    refine XS.bipush X13.here hx rfl (hb hby at_42) ?_
    show Steps p.tables e below (T13.setTop (mkF m 44 #[.val (.int p1), .unset, .unset, .unset, .unset, .unset, .unset] [(.int (6 : Int32)), (.ref b1), (.ref b1)])) _
    refine st14 _ ?_
    show Steps p.tables e below (T14.setTop (mkF m 47 #[.val (.int p1), .unset, .unset, .unset, .unset, .unset, .unset] [(.ref wCW1), (.int (6 : Int32)), (.ref b1), (.ref b1)])) _
    refine st15 _ ?_
    show Steps p.tables e below (T15.setTop (mkF m 48 #[.val (.int p1), .unset, .unset, .unset, .unset, .unset, .unset] [(.ref b1)])) _
    refine XS.dup X15.here hx rfl (hb hby at_48) rfl rfl ?_
    show Steps p.tables e below (T15.setTop (mkF m 49 #[.val (.int p1), .unset, .unset, .unset, .unset, .unset, .unset] [(.ref b1), (.ref b1)])) _
    refine XS.bipush X15.here hx rfl (hb hby at_49) ?_
    show Steps p.tables e below (T15.setTop (mkF m 51 #[.val (.int p1), .unset, .unset, .unset, .unset, .unset, .unset] [(.int (7 : Int32)), (.ref b1), (.ref b1)])) _
    refine st16 _ ?_
    show Steps p.tables e below (T16.setTop (mkF m 54 #[.val (.int p1), .unset, .unset, .unset, .unset, .unset, .unset] [(.ref wCW2), (.int (7 : Int32)), (.ref b1), (.ref b1)])) _
    refine st17 _ ?_
    show Steps p.tables e below (T17.setTop (mkF m 55 #[.val (.int p1), .unset, .unset, .unset, .unset, .unset, .unset] [(.ref b1)])) _
    refine XS.dup X17.here hx rfl (hb hby at_55) rfl rfl ?_
    show Steps p.tables e below (T17.setTop (mkF m 56 #[.val (.int p1), .unset, .unset, .unset, .unset, .unset, .unset] [(.ref b1), (.ref b1)])) _
    refine XS.bipush X17.here hx rfl (hb hby at_56) ?_
    show Steps p.tables e below (T17.setTop (mkF m 58 #[.val (.int p1), .unset, .unset, .unset, .unset, .unset, .unset] [(.int (8 : Int32)), (.ref b1), (.ref b1)])) _
    refine st18 _ ?_
    show Steps p.tables e below (T18.setTop (mkF m 61 #[.val (.int p1), .unset, .unset, .unset, .unset, .unset, .unset] [(.ref wCW3), (.int (8 : Int32)), (.ref b1), (.ref b1)])) _
    refine st19 _ ?_
    show Steps p.tables e below (T19.setTop (mkF m 62 #[.val (.int p1), .unset, .unset, .unset, .unset, .unset, .unset] [(.ref b1)])) _
    refine XS.dup X19.here hx rfl (hb hby at_62) rfl rfl ?_
    show Steps p.tables e below (T19.setTop (mkF m 63 #[.val (.int p1), .unset, .unset, .unset, .unset, .unset, .unset] [(.ref b1), (.ref b1)])) _
    refine XS.bipush X19.here hx rfl (hb hby at_63) ?_
    show Steps p.tables e below (T19.setTop (mkF m 65 #[.val (.int p1), .unset, .unset, .unset, .unset, .unset, .unset] [(.int (9 : Int32)), (.ref b1), (.ref b1)])) _
    refine st20 _ ?_
    show Steps p.tables e below (T20.setTop (mkF m 68 #[.val (.int p1), .unset, .unset, .unset, .unset, .unset, .unset] [(.ref wCW4), (.int (9 : Int32)), (.ref b1), (.ref b1)])) _
    refine st21 _ ?_
    show Steps p.tables e below (T21.setTop (mkF m 69 #[.val (.int p1), .unset, .unset, .unset, .unset, .unset, .unset] [(.ref b1)])) _
    refine XS.dup X21.here hx rfl (hb hby at_69) rfl rfl ?_
    show Steps p.tables e below (T21.setTop (mkF m 70 #[.val (.int p1), .unset, .unset, .unset, .unset, .unset, .unset] [(.ref b1), (.ref b1)])) _
    refine XS.bipush X21.here hx rfl (hb hby at_70) ?_
    show Steps p.tables e below (T21.setTop (mkF m 72 #[.val (.int p1), .unset, .unset, .unset, .unset, .unset, .unset] [(.int (10 : Int32)), (.ref b1), (.ref b1)])) _
    refine st22 _ ?_
    show Steps p.tables e below (T22.setTop (mkF m 75 #[.val (.int p1), .unset, .unset, .unset, .unset, .unset, .unset] [(.ref wCW5), (.int (10 : Int32)), (.ref b1), (.ref b1)])) _
    refine st23 _ ?_
    show Steps p.tables e below (T23.setTop (mkF m 76 #[.val (.int p1), .unset, .unset, .unset, .unset, .unset, .unset] [(.ref b1)])) _
    refine XS.dup X23.here hx rfl (hb hby at_76) rfl rfl ?_
    show Steps p.tables e below (T23.setTop (mkF m 77 #[.val (.int p1), .unset, .unset, .unset, .unset, .unset, .unset] [(.ref b1), (.ref b1)])) _
    refine XS.bipush X23.here hx rfl (hb hby at_77) ?_
    show Steps p.tables e below (T23.setTop (mkF m 79 #[.val (.int p1), .unset, .unset, .unset, .unset, .unset, .unset] [(.int (11 : Int32)), (.ref b1), (.ref b1)])) _
    refine st24 _ ?_
    show Steps p.tables e below (T24.setTop (mkF m 82 #[.val (.int p1), .unset, .unset, .unset, .unset, .unset, .unset] [(.ref wCW6), (.int (11 : Int32)), (.ref b1), (.ref b1)])) _
    refine st25 _ ?_
    show Steps p.tables e below (T25.setTop (mkF m 83 #[.val (.int p1), .unset, .unset, .unset, .unset, .unset, .unset] [(.ref b1)])) _
    refine XS.astoreN X25.here hx rfl (hb hby at_83) rfl rfl (l' := #[.val (.int p1), .val (.ref b1), .unset, .unset, .unset, .unset, .unset]) rfl ?_
    show Steps p.tables e below (T25.setTop (mkF m 84 #[.val (.int p1), .val (.ref b1), .unset, .unset, .unset, .unset, .unset] [])) _
    refine XS.iloadN X25.here hx rfl (hb hby at_84) rfl ?_
    show Steps p.tables e below (T25.setTop (mkF m 85 #[.val (.int p1), .val (.ref b1), .unset, .unset, .unset, .unset, .unset] [(.int p1)])) _
    refine Jvm.Stand.ldcI X25 hx hown (mvT hZ (hw _ (List.mem_of_getElem? (i := 28) rfl))) rfl (hb hby at_85) ?_
    show Steps p.tables e below (T25.setTop (mkF m 87 #[.val (.int p1), .val (.ref b1), .unset, .unset, .unset, .unset, .unset] [(.int (2147483647 : Int32)), (.int p1)])) _
    refine XS.iand X25.here hx rfl (hb hby at_87) rfl ?_
    show Steps p.tables e below (T25.setTop (mkF m 88 #[.val (.int p1), .val (.ref b1), .unset, .unset, .unset, .unset, .unset] [(.int (p1 &&& (2147483647 : Int32)))])) _
    refine XS.bipush X25.here hx rfl (hb hby at_88) ?_
    show Steps p.tables e below (T25.setTop (mkF m 90 #[.val (.int p1), .val (.ref b1), .unset, .unset, .unset, .unset, .unset] [(.int (12 : Int32)), (.int (p1 &&& (2147483647 : Int32)))])) _
    refine iremM X25 hx rfl (hb hby at_90) rfl (by decide) ?_
    show Steps p.tables e below (T25.setTop (mkF m 91 #[.val (.int p1), .val (.ref b1), .unset, .unset, .unset, .unset, .unset] [(.int ((p1 &&& (2147483647 : Int32)) % (12 : Int32)))])) _
    refine castTop (g' := (mkF m 91 #[.val (.int p1), .val (.ref b1), .unset, .unset, .unset, .unset, .unset] [(.int (0 : Int32))])) (by rw [hi]) ?_
    show Steps p.tables e below (T25.setTop (mkF m 91 #[.val (.int p1), .val (.ref b1), .unset, .unset, .unset, .unset, .unset] [(.int (0 : Int32))])) _
    refine XS.istoreN X25.here hx rfl (hb hby at_91) rfl (l' := #[.val (.int p1), .val (.ref b1), .val (.int (0 : Int32)), .unset, .unset, .unset, .unset]) rfl ?_
    show Steps p.tables e below (T25.setTop (mkF m 92 #[.val (.int p1), .val (.ref b1), .val (.int (0 : Int32)), .unset, .unset, .unset, .unset] [])) _
    refine XS.aloadN X25.here hx rfl (hb hby at_92) rfl rfl ?_
    show Steps p.tables e below (T25.setTop (mkF m 93 #[.val (.int p1), .val (.ref b1), .val (.int (0 : Int32)), .unset, .unset, .unset, .unset] [(.ref b1)])) _
    refine XS.iloadN X25.here hx rfl (hb hby at_93) rfl ?_
    show Steps p.tables e below (T25.setTop (mkF m 94 #[.val (.int p1), .val (.ref b1), .val (.int (0 : Int32)), .unset, .unset, .unset, .unset] [(.int (0 : Int32)), (.ref b1)])) _
    refine X25.aaload hx (j := (0 : Int32)) (v := (.ref wW1)) (by rw [e25]; exact Ar26.1) (State.isArrayOf_alike hZ.alike Ar26.2.1) rfl Ar26.2.2 hin27 hat27 (g := (mkF m 94 #[.val (.int p1), .val (.ref b1), .val (.int (0 : Int32)), .unset, .unset, .unset, .unset] [(.int (0 : Int32)), (.ref b1)])) rfl rfl (hb hby at_94) _ ?_
    show Steps p.tables e below (T25.setTop (mkF m 95 #[.val (.int p1), .val (.ref b1), .val (.int (0 : Int32)), .unset, .unset, .unset, .unset] [(.ref wW1)])) _
    refine XS.astoreN X25.here hx rfl (hb hby at_95) rfl rfl (l' := #[.val (.int p1), .val (.ref b1), .val (.int (0 : Int32)), .val (.ref wW1), .unset, .unset, .unset]) rfl ?_
    show Steps p.tables e below (T25.setTop (mkF m 96 #[.val (.int p1), .val (.ref b1), .val (.int (0 : Int32)), .val (.ref wW1), .unset, .unset, .unset] [])) _
    refine XS.iloadN X25.here hx rfl (hb hby at_96) rfl ?_
    show Steps p.tables e below (T25.setTop (mkF m 97 #[.val (.int p1), .val (.ref b1), .val (.int (0 : Int32)), .val (.ref wW1), .unset, .unset, .unset] [(.int (0 : Int32))])) _
    refine XS.bipush X25.here hx rfl (hb hby at_97) ?_
    show Steps p.tables e below (T25.setTop (mkF m 99 #[.val (.int p1), .val (.ref b1), .val (.int (0 : Int32)), .val (.ref wW1), .unset, .unset, .unset] [(.int (6 : Int32)), (.int (0 : Int32))])) _
    refine iremM X25 hx rfl (hb hby at_99) rfl (by decide) ?_
    show Steps p.tables e below (T25.setTop (mkF m 100 #[.val (.int p1), .val (.ref b1), .val (.int (0 : Int32)), .val (.ref wW1), .unset, .unset, .unset] [(.int ((0 : Int32) % (6 : Int32)))])) _
    refine castTop (g' := (mkF m 100 #[.val (.int p1), .val (.ref b1), .val (.int (0 : Int32)), .val (.ref wW1), .unset, .unset, .unset] [(.int (0 : Int32))])) (by rw [show ((0 : Int32) % (6 : Int32)) = (0 : Int32) from by decide]) ?_
    show Steps p.tables e below (T25.setTop (mkF m 100 #[.val (.int p1), .val (.ref b1), .val (.int (0 : Int32)), .val (.ref wW1), .unset, .unset, .unset] [(.int (0 : Int32))])) _
    refine XS.ifNo X25.here hx rfl (hb hby at_100) rfl (by decide) ?_
    show Steps p.tables e below (T25.setTop (mkF m 103 #[.val (.int p1), .val (.ref b1), .val (.int (0 : Int32)), .val (.ref wW1), .unset, .unset, .unset] [])) _
    refine XS.iconst X25.here hx rfl (hb hby at_103) ?_
    show Steps p.tables e below (T25.setTop (mkF m 104 #[.val (.int p1), .val (.ref b1), .val (.int (0 : Int32)), .val (.ref wW1), .unset, .unset, .unset] [(.int (1 : Int32))])) _
    refine XS.goto X25.here hx rfl (pc0 := 104) (pc' := 108) rfl (hb hby at_104) (by decide) (by decide) ?_
    show Steps p.tables e below (T25.setTop (mkF m 108 #[.val (.int p1), .val (.ref b1), .val (.int (0 : Int32)), .val (.ref wW1), .unset, .unset, .unset] [(.int (1 : Int32))])) _
    refine XS.istore X25.here hx rfl (hb hby at_108) rfl (l' := #[.val (.int p1), .val (.ref b1), .val (.int (0 : Int32)), .val (.ref wW1), .val (.int (1 : Int32)), .unset, .unset]) rfl ?_
    show Steps p.tables e below (T25.setTop (mkF m 110 #[.val (.int p1), .val (.ref b1), .val (.int (0 : Int32)), .val (.ref wW1), .val (.int (1 : Int32)), .unset, .unset] [])) _
    refine XS.aloadN X25.here hx rfl (hb hby at_110) rfl rfl ?_
    show Steps p.tables e below (T25.setTop (mkF m 111 #[.val (.int p1), .val (.ref b1), .val (.int (0 : Int32)), .val (.ref wW1), .val (.int (1 : Int32)), .unset, .unset] [(.ref wW1)])) _
    refine st28.trans ?_
    show Steps p.tables e below (T28.setTop (mkF m 114 #[.val (.int p1), .val (.ref b1), .val (.int (0 : Int32)), .val (.ref wW1), .val (.int (1 : Int32)), .unset, .unset] [(.int (1 : Int32))])) _
    refine XS.istore X28.here hx rfl (hb hby at_114) rfl (l' := #[.val (.int p1), .val (.ref b1), .val (.int (0 : Int32)), .val (.ref wW1), .val (.int (1 : Int32)), .val (.int (1 : Int32)), .unset]) rfl ?_
    show Steps p.tables e below (T28.setTop (mkF m 116 #[.val (.int p1), .val (.ref b1), .val (.int (0 : Int32)), .val (.ref wW1), .val (.int (1 : Int32)), .val (.int (1 : Int32)), .unset] [])) _
    refine XS.aloadN X28.here hx rfl (hb hby at_116) rfl rfl ?_
    show Steps p.tables e below (T28.setTop (mkF m 117 #[.val (.int p1), .val (.ref b1), .val (.int (0 : Int32)), .val (.ref wW1), .val (.int (1 : Int32)), .val (.int (1 : Int32)), .unset] [(.ref wW1)])) _
    refine st29.trans ?_
    show Steps p.tables e below (T29.setTop (mkF m 120 #[.val (.int p1), .val (.ref b1), .val (.int (0 : Int32)), .val (.ref wW1), .val (.int (1 : Int32)), .val (.int (1 : Int32)), .unset] [(.ref wCW1)])) _
    refine st30.trans ?_
    show Steps p.tables e below (T30.setTop (mkF m 123 #[.val (.int p1), .val (.ref b1), .val (.int (0 : Int32)), .val (.ref wW1), .val (.int (1 : Int32)), .val (.int (1 : Int32)), .unset] [(.int (1 : Int32))])) _
    refine XS.istore X30.here hx rfl (hb hby at_123) rfl (l' := #[.val (.int p1), .val (.ref b1), .val (.int (0 : Int32)), .val (.ref wW1), .val (.int (1 : Int32)), .val (.int (1 : Int32)), .val (.int (1 : Int32))]) rfl ?_
    show Steps p.tables e below (T30.setTop (mkF m 125 #[.val (.int p1), .val (.ref b1), .val (.int (0 : Int32)), .val (.ref wW1), .val (.int (1 : Int32)), .val (.int (1 : Int32)), .val (.int (1 : Int32))] [])) _
    refine XS.iload X30.here hx rfl (hb hby at_125) rfl ?_
    show Steps p.tables e below (T30.setTop (mkF m 127 #[.val (.int p1), .val (.ref b1), .val (.int (0 : Int32)), .val (.ref wW1), .val (.int (1 : Int32)), .val (.int (1 : Int32)), .val (.int (1 : Int32))] [(.int (1 : Int32))])) _
    refine XS.iload X30.here hx rfl (hb hby at_127) rfl ?_
    show Steps p.tables e below (T30.setTop (mkF m 129 #[.val (.int p1), .val (.ref b1), .val (.int (0 : Int32)), .val (.ref wW1), .val (.int (1 : Int32)), .val (.int (1 : Int32)), .val (.int (1 : Int32))] [(.int (1 : Int32)), (.int (1 : Int32))])) _
    refine XS.icmpNo X30.here hx rfl (hb hby at_129) rfl (by decide) ?_
    show Steps p.tables e below (T30.setTop (mkF m 132 #[.val (.int p1), .val (.ref b1), .val (.int (0 : Int32)), .val (.ref wW1), .val (.int (1 : Int32)), .val (.int (1 : Int32)), .val (.int (1 : Int32))] [])) _
    refine XS.iload X30.here hx rfl (hb hby at_132) rfl ?_
    show Steps p.tables e below (T30.setTop (mkF m 134 #[.val (.int p1), .val (.ref b1), .val (.int (0 : Int32)), .val (.ref wW1), .val (.int (1 : Int32)), .val (.int (1 : Int32)), .val (.int (1 : Int32))] [(.int (1 : Int32))])) _
    refine XS.iload X30.here hx rfl (hb hby at_134) rfl ?_
    show Steps p.tables e below (T30.setTop (mkF m 136 #[.val (.int p1), .val (.ref b1), .val (.int (0 : Int32)), .val (.ref wW1), .val (.int (1 : Int32)), .val (.int (1 : Int32)), .val (.int (1 : Int32))] [(.int (1 : Int32)), (.int (1 : Int32))])) _
    refine XS.icmpNo X30.here hx rfl (hb hby at_136) rfl (by decide) ?_
    show Steps p.tables e below (T30.setTop (mkF m 139 #[.val (.int p1), .val (.ref b1), .val (.int (0 : Int32)), .val (.ref wW1), .val (.int (1 : Int32)), .val (.int (1 : Int32)), .val (.int (1 : Int32))] [])) _
    refine XS.iconst X30.here hx rfl (hb hby at_139) ?_
    show Steps p.tables e below (T30.setTop (mkF m 140 #[.val (.int p1), .val (.ref b1), .val (.int (0 : Int32)), .val (.ref wW1), .val (.int (1 : Int32)), .val (.int (1 : Int32)), .val (.int (1 : Int32))] [(.int (1 : Int32))])) _
    refine XS.goto X30.here hx rfl (pc0 := 140) (pc' := 144) rfl (hb hby at_140) (by decide) (by decide) ?_
    show Steps p.tables e below (T30.setTop (mkF m 144 #[.val (.int p1), .val (.ref b1), .val (.int (0 : Int32)), .val (.ref wW1), .val (.int (1 : Int32)), .val (.int (1 : Int32)), .val (.int (1 : Int32))] [(.int (1 : Int32))])) _
    exact retN X30 hx (t := .boolean) Bd.returns (by simp) (hb hby at_144) hr
  · exact ⟨rfl, N30⟩
theorem own_d1_18 : decode prog_18_method_4_code 18 = .ok (.iconst 0, 1) := by decide +kernel
set_option maxRecDepth 65536 in
set_option maxHeartbeats 40000000 in
theorem own_statesCredential_4 (l : Launch) (Z : State) (a0 : Array Value) (hw : ∀ d ∈ tables_1, d.before a0 Z = true) (ws : List Jvm.Cond) (wW1 : Addr) (wW2 : Addr) (wW3 : Addr) (wW4 : Addr) (wW5 : Addr) (wW6 : Addr) (wCW1 : Addr) (wCW2 : Addr) (wCW3 : Addr) (wCW4 : Addr) (wCW5 : Addr) (wCW6 : Addr) (G : OwnG Z wW1 wW2 wW3 wW4 wW5 wW6 wCW1 wCW2 wCW3 wCW4 wCW5 wCW6) (h0 : Heap) (n0 : Nat) (O0 : Old Z n0 h0) :
    MetFree l (⟨"com/example/credlib/credlib/engine/Rule", "statesCredential", "()Z"⟩ : MethodName) (head1 (Jvm.Cond.code (⟨"com/example/credlib/credlib/engine/Rule", "statesCredential", "()Z"⟩ : MethodName) prog_18_method_4_code 1 (some .boolean) :: ws) ({ frames := 0, cells := 0, slots := 0, locals := 0 } : Room)) (fun a U => a = #[(.ref wW2)] ∧ Z.Warmed39 U.vm ∧ U.heap = h0) (fun _ _ _ _ _ => True) (fun _ U o U' => ∃ v L, o = .returned v ∧ OwnQ (some (.int (0 : Int32))) h0 n0 v U'.heap L ∧ FrameEnd U o U' L ({ frames := 0, cells := 0, slots := 0, locals := 0 } : Room).cells ({ frames := 0, cells := 0, slots := 0, locals := 0 } : Room).slots) := by
  refine MetFree.of_bodySF (plainFor_of_name own_pn_1) hisR ?_
  intro p e s m args below meth c s₁ Bd hml0 hP hK
  obtain ⟨rfl, hZ, hh⟩ := hP
  have hx := Bd.exec
  have hby := Bd.bytes
  have hml : c.maxLocals = 1 := hml0
  have hown : s.vm.findClass "com/example/credlib/credlib/engine/Rule" = some m.cls := findClass_of_methodNamed Bd.named
  have hnm := (name_of_methodNamed Bd.named Bd.method).1
  have X0 : Stand p l e ({ frames := 0, cells := 0, slots := 0, locals := 0 } : Room) s m #[(.ref wW2)] below meth c s₁ [] 0 0 := Stand.of_body Bd
  have e0 : s₁.heap = h0 := by rw [← hh, Bd.state]; rfl
  have N0 := Fr.nil n0
  have pre0 : ∀ t, Steps p.tables e below (s₁.setTop (mkF m 0 #[.val (.ref wW2)] [])) t → Steps p.tables e below (s₁.setTop (entryFrame m #[(.ref wW2)] 1)) t := fun t k => castTop (own_ef_1_R m wW2) k
  obtain ⟨T1, X1, e1, st1⟩ := getS2 X0 hx hZ hown (host := "") (Or.inl (hw _ (List.mem_of_getElem? (i := 34) rfl))) Via.refl e0 (G.1.ext O0.2) (g := (mkF m 1 #[.val (.ref wW2)] [(.ref wW2)])) rfl (hb hby own_d1_1)
  obtain ⟨T2, X2, e2, st2⟩ := getS2 X1 hx hZ hown (host := "") (Or.inl (hw _ (List.mem_of_getElem? (i := 49) rfl))) Via.refl e1 (G.2.2.2.2.2.2.2.2.2.2.2.2.1.ext O0.2) (g := (mkF m 8 #[.val (.ref wW2)] [(.ref wW2)])) rfl (hb hby own_d1_8)
  obtain ⟨fs, hr, hrun, hended, hW, hsame⟩ := X2.leave (v := some (.int (0 : Int32))) (fun h => by rw [Bd.returns] at h; cases h)
  refine ⟨_, _, pre0 _ ?_, hrun, hended, _, _, rfl, ?_, ⟨_, rfl⟩, hW, hsame.mono (by decide) (by decide)⟩
  · show Steps p.tables e below (s₁.setTop (mkF m 0 #[.val (.ref wW2)] [])) _
    refine XS.aloadN X0.here hx rfl (hb hby own_d1_0) rfl rfl ?_
    show Steps p.tables e below (s₁.setTop (mkF m 1 #[.val (.ref wW2)] [(.ref wW2)])) _
    refine st1 _ ?_
    show Steps p.tables e below (T1.setTop (mkF m 4 #[.val (.ref wW2)] [(.ref wW1), (.ref wW2)])) _
    refine Jvm.RoadKit.acmp (g := (mkF m 4 #[.val (.ref wW2)] [(.ref wW1), (.ref wW2)])) X1 hx rfl rfl rfl (pc0 := 4) (pc' := 7) (same := false) rfl (hb hby own_d1_4) rfl (decide_eq_false fun q => (Ne.symm G.2.2.2.2.2.2.2.2.2.2.2.2.2.2.2.2.2.2.2.2.2.2.2.2.2.2.2.2.2.2.2.2.2.2.2.2.2.2.2.2.2.2.2.2.2.1) (Value.ref.inj q)) (by decide) (by decide) ?_
    show Steps p.tables e below (T1.setTop (mkF m 7 #[.val (.ref wW2)] [])) _
    refine XS.aloadN X1.here hx rfl (hb hby own_d1_7) rfl rfl ?_
    show Steps p.tables e below (T1.setTop (mkF m 8 #[.val (.ref wW2)] [(.ref wW2)])) _
    refine st2 _ ?_
    show Steps p.tables e below (T2.setTop (mkF m 11 #[.val (.ref wW2)] [(.ref wCW1), (.ref wW2)])) _
    refine Jvm.RoadKit.acmp (g := (mkF m 11 #[.val (.ref wW2)] [(.ref wCW1), (.ref wW2)])) X2 hx rfl rfl rfl (pc0 := 11) (pc' := 18) (same := false) rfl (hb hby own_d1_11) rfl (decide_eq_false fun q => G.2.2.2.2.2.2.2.2.2.2.2.2.2.2.2.2.2.2.2.2.2.2.2.2.2.2.2.2.2.2.2.2.2.2.2.2.2.2.2.2.2.2.2.2.2.2.2.2.2.2.2.2.2.2.2.2.2.2.2.2.2.2.2.2.2.2.2.2.2.2.2.2.2.2.2.2.2.2.2.2.2.2.2.2.2.2.1 (Value.ref.inj q)) (by decide) (by decide) ?_
    show Steps p.tables e below (T2.setTop (mkF m 18 #[.val (.ref wW2)] [])) _
    refine XS.iconst X2.here hx rfl (hb hby own_d1_18) ?_
    show Steps p.tables e below (T2.setTop (mkF m 19 #[.val (.ref wW2)] [(.int (0 : Int32))])) _
    exact retN X2 hx (t := .boolean) Bd.returns (by simp) (hb hby own_d1_19) hr
  · show OwnQ _ h0 n0 _ T2.heap _
    exact ⟨rfl, N0, e2⟩
set_option maxRecDepth 65536 in
set_option maxHeartbeats 40000000 in
theorem own_ordinal_6 (l : Launch) (Z : State) (a0 : Array Value) (hw : ∀ d ∈ tables_1, d.before a0 Z = true) (ws : List Jvm.Cond) (wW1 : Addr) (wW2 : Addr) (wW3 : Addr) (wW4 : Addr) (wW5 : Addr) (wW6 : Addr) (wCW1 : Addr) (wCW2 : Addr) (wCW3 : Addr) (wCW4 : Addr) (wCW5 : Addr) (wCW6 : Addr) (G : OwnG Z wW1 wW2 wW3 wW4 wW5 wW6 wCW1 wCW2 wCW3 wCW4 wCW5 wCW6) (h0 : Heap) (n0 : Nat) (O0 : Old Z n0 h0) :
    MetFree l (⟨"java/lang/Enum", "ordinal", "()I"⟩ : MethodName) (head1 (Jvm.Cond.code (⟨"java/lang/Enum", "ordinal", "()I"⟩ : MethodName) jdk_37_method_2_code 1 (some .int) :: ws) ({ frames := 0, cells := 0, slots := 0, locals := 0 } : Room)) (fun a U => a = #[(.ref wW2)] ∧ Z.Warmed39 U.vm ∧ U.heap = h0) (fun _ _ _ _ _ => True) (fun _ U o U' => ∃ v L, o = .returned v ∧ OwnQ (some (.int (1 : Int32))) h0 n0 v U'.heap L ∧ FrameEnd U o U' L ({ frames := 0, cells := 0, slots := 0, locals := 0 } : Room).cells ({ frames := 0, cells := 0, slots := 0, locals := 0 } : Room).slots) := by
  refine MetFree.of_bodySF (plainFor_of_name own_pn_3) hisR ?_
  intro p e s m args below meth c s₁ Bd hml0 hP hK
  obtain ⟨rfl, hZ, hh⟩ := hP
  have hx := Bd.exec
  have hby := Bd.bytes
  have hml : c.maxLocals = 1 := hml0
  have hown : s.vm.findClass "java/lang/Enum" = some m.cls := findClass_of_methodNamed Bd.named
  have hnm := (name_of_methodNamed Bd.named Bd.method).1
  have X0 : Stand p l e ({ frames := 0, cells := 0, slots := 0, locals := 0 } : Room) s m #[(.ref wW2)] below meth c s₁ [] 0 0 := Stand.of_body Bd
  have e0 : s₁.heap = h0 := by rw [← hh, Bd.state]; rfl
  have N0 := Fr.nil n0
  have pre0 : ∀ t, Steps p.tables e below (s₁.setTop (mkF m 0 #[.val (.ref wW2)] [])) t → Steps p.tables e below (s₁.setTop (entryFrame m #[(.ref wW2)] 1)) t := fun t k => castTop (own_ef_3_R m wW2) k
  obtain ⟨T1, X1, e1, st1⟩ := getF X0 hx hZ hown (host := "") (Or.inl (hw _ (List.mem_of_getElem? (i := 47) rfl))) Via.refl e0 (G.2.2.2.2.2.2.2.2.2.2.2.2.2.2.2.2.2.2.2.2.2.2.2.2.2.2.2.2.2.2.2.2.2.2.1.ext O0.2) (g := (mkF m 1 #[.val (.ref wW2)] [(.ref wW2)])) rfl rfl (hb hby own_d3_1)
  obtain ⟨fs, hr, hrun, hended, hW, hsame⟩ := X1.leave (v := some (.int (1 : Int32))) (fun h => by rw [Bd.returns] at h; cases h)
  refine ⟨_, _, pre0 _ ?_, hrun, hended, _, _, rfl, ?_, ⟨_, rfl⟩, hW, hsame.mono (by decide) (by decide)⟩
  · show Steps p.tables e below (s₁.setTop (mkF m 0 #[.val (.ref wW2)] [])) _
    refine XS.aloadN X0.here hx rfl (hb hby own_d3_0) rfl rfl ?_
    show Steps p.tables e below (s₁.setTop (mkF m 1 #[.val (.ref wW2)] [(.ref wW2)])) _
    refine st1 _ ?_
    show Steps p.tables e below (T1.setTop (mkF m 4 #[.val (.ref wW2)] [(.int (1 : Int32))])) _
    exact retI X1 hx Bd.returns (hb hby own_d3_4) hr
  · show OwnQ _ h0 n0 _ T1.heap _
    exact ⟨rfl, N0, e1⟩
theorem own_d2_50 : decode prog_18_method_5_code 50 = .ok (.getstatic 25, 3) := by decide +kernel
theorem own_d2_53 : decode prog_18_method_5_code 53 = .ok (.goto 28, 3) := by decide +kernel
set_option maxRecDepth 65536 in
set_option maxHeartbeats 40000000 in
theorem own_atInstant_5 (l : Launch) (Z : State) (a0 : Array Value) (hw : ∀ d ∈ tables_1, d.before a0 Z = true) (ws : List Jvm.Cond) (wW1 : Addr) (wW2 : Addr) (wW3 : Addr) (wW4 : Addr) (wW5 : Addr) (wW6 : Addr) (wCW1 : Addr) (wCW2 : Addr) (wCW3 : Addr) (wCW4 : Addr) (wCW5 : Addr) (wCW6 : Addr) (G : OwnG Z wW1 wW2 wW3 wW4 wW5 wW6 wCW1 wCW2 wCW3 wCW4 wCW5 wCW6) (h0 : Heap) (n0 : Nat) (O0 : Old Z n0 h0) :
    MetFree l (⟨"com/example/credlib/credlib/engine/Rule", "atInstant", "()Lcom/example/credlib/credlib/engine/Rule;"⟩ : MethodName) (head1 (Jvm.Cond.code (⟨"com/example/credlib/credlib/engine/Rule", "atInstant", "()Lcom/example/credlib/credlib/engine/Rule;"⟩ : MethodName) prog_18_method_5_code 1 (some (.object "com/example/credlib/credlib/engine/Rule")) :: ws) ({ frames := 1, cells := 0, slots := 0, locals := 12 } : Room)) (fun a U => a = #[(.ref wW2)] ∧ Z.Warmed39 U.vm ∧ U.heap = h0) (fun _ _ _ _ _ => True) (fun _ U o U' => ∃ v L, o = .returned v ∧ OwnQ (some (.ref wCW2)) h0 n0 v U'.heap L ∧ FrameEnd U o U' L ({ frames := 1, cells := 0, slots := 0, locals := 12 } : Room).cells ({ frames := 1, cells := 0, slots := 0, locals := 12 } : Room).slots) := by
  refine MetFree.of_bodySF (plainFor_of_name own_pn_1) hisR ?_
  intro p e s m args below meth c s₁ Bd hml0 hP hK
  obtain ⟨rfl, hZ, hh⟩ := hP
  have hx := Bd.exec
  have hby := Bd.bytes
  have hml : c.maxLocals = 1 := hml0
  have hown : s.vm.findClass "com/example/credlib/credlib/engine/Rule" = some m.cls := findClass_of_methodNamed Bd.named
  have hnm := (name_of_methodNamed Bd.named Bd.method).1
  have X0 : Stand p l e ({ frames := 1, cells := 0, slots := 0, locals := 12 } : Room) s m #[(.ref wW2)] below meth c s₁ [] 0 0 := Stand.of_body Bd
  have e0 : s₁.heap = h0 := by rw [← hh, Bd.state]; rfl
  have N0 := Fr.nil n0
  have pre0 : ∀ t, Steps p.tables e below (s₁.setTop (mkF m 0 #[.val (.ref wW2)] [])) t → Steps p.tables e below (s₁.setTop (entryFrame m #[(.ref wW2)] 1)) t := fun t k => castTop (own_ef_2_R m wW2) k
  obtain ⟨cq1, kq1, q1a, q1b, q1c⟩ := isOf hZ e0 (G.2.2.2.1.ext O0.2)
  obtain ⟨_, _, ⟨T1, L1, k1, n1⟩, -, X1, ⟨Lc1, hQ1, l1, y1, z1⟩, st1⟩ := X0.virtualBackUp hx (x := (⟨"com/example/credlib/credlib/engine/Rule", "ordinal", "()I"⟩ : MethodName)) (y := (⟨"java/lang/Enum", "ordinal", "()I"⟩ : MethodName)) (owner := "java/lang/Enum") hown (mvT hZ (hw _ (List.mem_of_getElem? (i := 40) rfl))) (mvT hZ (hw _ (List.mem_of_getElem? (i := 41) rfl))) (mvT hZ (hw _ (List.mem_of_getElem? (i := 42) rfl))) (by decide) (mvT hZ (hw _ (List.mem_of_getElem? (i := 44) rfl))) (mvT hZ (hw _ (List.mem_of_getElem? (i := 43) rfl))) (backOf (W := 0) (own_ordinal_6 l Z a0 hw [] wW1 wW2 wW3 wW4 wW5 wW6 wCW1 wCW2 wCW3 wCW4 wCW5 wCW6 G h0 n0 O0) hZ (hw _ (List.mem_of_getElem? (i := 46) rfl)) (hw _ (List.mem_of_getElem? (i := 45) rfl)) (by decide) (by decide)) q1a q1c (g := (mkF m 1 #[.val (.ref wW2)] [(.ref wW2)])) rfl (by rw [hml]; rfl) (Steps.refl _) (argsL := []) (rest := []) (lenOf own_pd_1 rfl) rfl (by show 2 * 0 + _ ≤ _; exact Nat.le_of_eq rfl) (hb hby own_d2_1) (fun _ _ => ⟨rfl, e0, (by decide : 0 + 0 ≤ _), (by decide : 0 + 0 ≤ _)⟩)
  dsimp only [Pt.U, Pt.locs, Pt.cells, Pt.slots] at X1 l1 y1 z1 st1 hQ1
  subst l1 y1 z1
  obtain ⟨rfl, N1q, e1⟩ := hQ1
  have N1 := Fr.app N0 N1q
  obtain ⟨T2, X2, e2, st2⟩ := getS2 X1 hx hZ hown (host := "") (Or.inl (hw _ (List.mem_of_getElem? (i := 53) rfl))) Via.refl e1 (G.2.2.2.2.2.2.2.2.2.2.2.2.2.2.1.ext O0.2) (g := (mkF m 50 #[.val (.ref wW2)] [])) rfl (hb hby own_d2_50)
  obtain ⟨fs, hr, hrun, hended, hW, hsame⟩ := X2.leave (v := some (.ref wCW2)) (fun h => by rw [Bd.returns] at h; cases h)
  refine ⟨_, _, pre0 _ ?_, hrun, hended, _, _, rfl, ?_, ⟨_, rfl⟩, hW, hsame.mono (by decide) (by decide)⟩
  · show Steps p.tables e below (s₁.setTop (mkF m 0 #[.val (.ref wW2)] [])) _
    refine XS.aloadN X0.here hx rfl (hb hby own_d2_0) rfl rfl ?_
    show Steps p.tables e below (s₁.setTop (mkF m 1 #[.val (.ref wW2)] [(.ref wW2)])) _
    refine st1.trans ?_
    show Steps p.tables e below (T1.setTop (mkF m 4 #[.val (.ref wW2)] [(.int (1 : Int32))])) _
    refine XS.tswIn X1.here hx rfl (o := 46) (pc0 := 4) (pc' := 50) rfl (hb hby own_d2_4) rfl (by decide) rfl (by decide) (by decide) ?_
    show Steps p.tables e below (T1.setTop (mkF m 50 #[.val (.ref wW2)] [])) _
    refine st2 _ ?_
    show Steps p.tables e below (T2.setTop (mkF m 53 #[.val (.ref wW2)] [(.ref wCW2)])) _
    refine XS.goto X2.here hx rfl (pc0 := 53) (pc' := 81) rfl (hb hby own_d2_53) (by decide) (by decide) ?_
    show Steps p.tables e below (T2.setTop (mkF m 81 #[.val (.ref wW2)] [(.ref wCW2)])) _
    jvm_step X2.here [X2.here.top, hx, (hb hby own_d2_81), X2.method', Bd.returns, Value.isRef, FieldType.isReference]
    first | (intro acts; rw [hr _ acts rfl rfl rfl]) | rw [hr _ _ rfl rfl rfl]
    exact Steps.refl _
  · show OwnQ _ h0 n0 _ T2.heap _
    exact ⟨rfl, N1, e2⟩
set_option maxRecDepth 65536 in
set_option maxHeartbeats 40000000 in
theorem own_statesCredential_7 (l : Launch) (Z : State) (a0 : Array Value) (hw : ∀ d ∈ tables_1, d.before a0 Z = true) (ws : List Jvm.Cond) (wW1 : Addr) (wW2 : Addr) (wW3 : Addr) (wW4 : Addr) (wW5 : Addr) (wW6 : Addr) (wCW1 : Addr) (wCW2 : Addr) (wCW3 : Addr) (wCW4 : Addr) (wCW5 : Addr) (wCW6 : Addr) (G : OwnG Z wW1 wW2 wW3 wW4 wW5 wW6 wCW1 wCW2 wCW3 wCW4 wCW5 wCW6) (h0 : Heap) (n0 : Nat) (O0 : Old Z n0 h0) :
    MetFree l (⟨"com/example/credlib/credlib/engine/Rule", "statesCredential", "()Z"⟩ : MethodName) (head1 (Jvm.Cond.code (⟨"com/example/credlib/credlib/engine/Rule", "statesCredential", "()Z"⟩ : MethodName) prog_18_method_4_code 1 (some .boolean) :: ws) ({ frames := 0, cells := 0, slots := 0, locals := 0 } : Room)) (fun a U => a = #[(.ref wCW2)] ∧ Z.Warmed39 U.vm ∧ U.heap = h0) (fun _ _ _ _ _ => True) (fun _ U o U' => ∃ v L, o = .returned v ∧ OwnQ (some (.int (0 : Int32))) h0 n0 v U'.heap L ∧ FrameEnd U o U' L ({ frames := 0, cells := 0, slots := 0, locals := 0 } : Room).cells ({ frames := 0, cells := 0, slots := 0, locals := 0 } : Room).slots) := by
  refine MetFree.of_bodySF (plainFor_of_name own_pn_1) hisR ?_
  intro p e s m args below meth c s₁ Bd hml0 hP hK
  obtain ⟨rfl, hZ, hh⟩ := hP
  have hx := Bd.exec
  have hby := Bd.bytes
  have hml : c.maxLocals = 1 := hml0
  have hown : s.vm.findClass "com/example/credlib/credlib/engine/Rule" = some m.cls := findClass_of_methodNamed Bd.named
  have hnm := (name_of_methodNamed Bd.named Bd.method).1
  have X0 : Stand p l e ({ frames := 0, cells := 0, slots := 0, locals := 0 } : Room) s m #[(.ref wCW2)] below meth c s₁ [] 0 0 := Stand.of_body Bd
  have e0 : s₁.heap = h0 := by rw [← hh, Bd.state]; rfl
  have N0 := Fr.nil n0
  have pre0 : ∀ t, Steps p.tables e below (s₁.setTop (mkF m 0 #[.val (.ref wCW2)] [])) t → Steps p.tables e below (s₁.setTop (entryFrame m #[(.ref wCW2)] 1)) t := fun t k => castTop (own_ef_1_R m wCW2) k
  obtain ⟨T1, X1, e1, st1⟩ := getS2 X0 hx hZ hown (host := "") (Or.inl (hw _ (List.mem_of_getElem? (i := 34) rfl))) Via.refl e0 (G.1.ext O0.2) (g := (mkF m 1 #[.val (.ref wCW2)] [(.ref wCW2)])) rfl (hb hby own_d1_1)
  obtain ⟨T2, X2, e2, st2⟩ := getS2 X1 hx hZ hown (host := "") (Or.inl (hw _ (List.mem_of_getElem? (i := 49) rfl))) Via.refl e1 (G.2.2.2.2.2.2.2.2.2.2.2.2.1.ext O0.2) (g := (mkF m 8 #[.val (.ref wCW2)] [(.ref wCW2)])) rfl (hb hby own_d1_8)
  obtain ⟨fs, hr, hrun, hended, hW, hsame⟩ := X2.leave (v := some (.int (0 : Int32))) (fun h => by rw [Bd.returns] at h; cases h)
  refine ⟨_, _, pre0 _ ?_, hrun, hended, _, _, rfl, ?_, ⟨_, rfl⟩, hW, hsame.mono (by decide) (by decide)⟩
  · show Steps p.tables e below (s₁.setTop (mkF m 0 #[.val (.ref wCW2)] [])) _
    refine XS.aloadN X0.here hx rfl (hb hby own_d1_0) rfl rfl ?_
    show Steps p.tables e below (s₁.setTop (mkF m 1 #[.val (.ref wCW2)] [(.ref wCW2)])) _
    refine st1 _ ?_
    show Steps p.tables e below (T1.setTop (mkF m 4 #[.val (.ref wCW2)] [(.ref wW1), (.ref wCW2)])) _
    refine Jvm.RoadKit.acmp (g := (mkF m 4 #[.val (.ref wCW2)] [(.ref wW1), (.ref wCW2)])) X1 hx rfl rfl rfl (pc0 := 4) (pc' := 7) (same := false) rfl (hb hby own_d1_4) rfl (decide_eq_false fun q => (Ne.symm G.2.2.2.2.2.2.2.2.2.2.2.2.2.2.2.2.2.2.2.2.2.2.2.2.2.2.2.2.2.2.2.2.2.2.2.2.2.2.2.2.2.1) (Value.ref.inj q)) (by decide) (by decide) ?_
    show Steps p.tables e below (T1.setTop (mkF m 7 #[.val (.ref wCW2)] [])) _
    refine XS.aloadN X1.here hx rfl (hb hby own_d1_7) rfl rfl ?_
    show Steps p.tables e below (T1.setTop (mkF m 8 #[.val (.ref wCW2)] [(.ref wCW2)])) _
    refine st2 _ ?_
    show Steps p.tables e below (T2.setTop (mkF m 11 #[.val (.ref wCW2)] [(.ref wCW1), (.ref wCW2)])) _
    refine Jvm.RoadKit.acmp (g := (mkF m 11 #[.val (.ref wCW2)] [(.ref wCW1), (.ref wCW2)])) X2 hx rfl rfl rfl (pc0 := 11) (pc' := 18) (same := false) rfl (hb hby own_d1_11) rfl (decide_eq_false fun q => (Ne.symm G.2.2.2.2.2.2.2.2.2.2.2.2.2.2.2.2.2.2.2.2.2.2.2.2.2.2.2.2.2.2.2.2.2.2.2.2.2.2.2.2.2.2.2.2.2.2.2.2.2.1) (Value.ref.inj q)) (by decide) (by decide) ?_
    show Steps p.tables e below (T2.setTop (mkF m 18 #[.val (.ref wCW2)] [])) _
    refine XS.iconst X2.here hx rfl (hb hby own_d1_18) ?_
    show Steps p.tables e below (T2.setTop (mkF m 19 #[.val (.ref wCW2)] [(.int (0 : Int32))])) _
    exact retN X2 hx (t := .boolean) Bd.returns (by simp) (hb hby own_d1_19) hr
  · show OwnQ _ h0 n0 _ T2.heap _
    exact ⟨rfl, N0, e2⟩
set_option maxRecDepth 65536 in
set_option maxHeartbeats 40000000 in
theorem own_law_1 (l : Launch) (Z : State) (a0 : Array Value) (hw : ∀ d ∈ tables_1, d.before a0 Z = true) (ws : List Jvm.Cond) (wW1 : Addr) (wW2 : Addr) (wW3 : Addr) (wW4 : Addr) (wW5 : Addr) (wW6 : Addr) (wCW1 : Addr) (wCW2 : Addr) (wCW3 : Addr) (wCW4 : Addr) (wCW5 : Addr) (wCW6 : Addr) (G : OwnG Z wW1 wW2 wW3 wW4 wW5 wW6 wCW1 wCW2 wCW3 wCW4 wCW5 wCW6) (h0 : Heap) (n0 : Nat) (O0 : Old Z n0 h0) (p1 : Int32) (hi : ((p1 &&& (2147483647 : Int32)) % (12 : Int32)) = (1 : Int32)) :
    MetFree l x (head1 (Jvm.Cond.code x code maxLocals ret :: ws) room_1) (fun a U => a = #[(.int p1)] ∧ Z.Warmed39 U.vm ∧ U.heap = h0) (fun _ _ _ _ _ => True) (fun _ U o U' => ∃ v L, o = .returned v ∧ (v = some (.int 1) ∧ Fr n0 L) ∧ FrameEnd U o U' L room_1.cells room_1.slots) := by
  refine MetFree.of_bodySF (plainFor_of_name own_pn_0) hisR ?_
  intro p e s m args below meth c s₁ Bd hml0 hP hK
  obtain ⟨rfl, hZ, hh⟩ := hP
  have hx := Bd.exec
  have hby := Bd.bytes
  have hml : c.maxLocals = 7 := hml0
  have hown : s.vm.findClass "com/example/credlib/credlib/engine/RuleStatesCredentialPinLaw" = some m.cls := findClass_of_methodNamed Bd.named
  have hnm := (name_of_methodNamed Bd.named Bd.method).1
  have X0 : Stand p l e room_1 s m #[(.int p1)] below meth c s₁ [] 0 0 := Stand.of_body Bd
  have e0 : s₁.heap = h0 := by rw [← hh, Bd.state]; rfl
  have N0 := Fr.nil n0
  have pre0 : ∀ t, Steps p.tables e below (s₁.setTop (mkF m 0 #[.val (.int p1), .unset, .unset, .unset, .unset, .unset, .unset] [])) t → Steps p.tables e below (s₁.setTop (entryFrame m #[(.int p1)] maxLocals)) t := fun t k => castTop (own_ef_0_I m p1) k
  obtain ⟨T1, h1, k1, X1, e1, E1, A1, Ov1, st1⟩ := newR X0 hx hZ hown (hw _ (List.mem_of_getElem? (i := 0) rfl)) (hw _ (List.mem_of_getElem? (i := 1) rfl)) e0 (g := (mkF m 2 #[.val (.int p1), .unset, .unset, .unset, .unset, .unset, .unset] [(.int (12 : Int32))])) rfl (hb hby at_2) rfl (by decide) (cap := 12) (by decide) (by decide) (by decide) (by decide)
  obtain ⟨b1, g1⟩ : ∃ z, z = h0.size := ⟨_, rfl⟩
  rw [← g1] at A1 st1
  have ge_b1 : n0 ≤ b1 := own_new O0 g1
  have sz_b1 : h0.size ≤ b1 := Nat.le_trans (Keep.refl h0 []).1 (Nat.le_of_eq g1.symm)
  have O1 := O0.ext E1
  have K1 := (Keep.refl h0 []).ext E1
  have V1 : Arv Z h1 b1 k1 (.object "com/example/credlib/credlib/engine/Rule") (12 : Int32) [.null, .null, .null, .null, .null, .null, .null, .null, .null, .null, .null, .null] .null := (Arv.new A1 (by decide)).pad (pad_rep [] .null 12)
  obtain ⟨T2, X2, e2, st2⟩ := getS2 X1 hx hZ hown (host := "") (Or.inl (hw _ (List.mem_of_getElem? (i := 2) rfl))) Via.refl e1 (G.1.ext O1.2) (g := (mkF m 7 #[.val (.int p1), .unset, .unset, .unset, .unset, .unset, .unset] [(.int (0 : Int32)), (.ref b1), (.ref b1)])) rfl (hb hby at_7)
  obtain ⟨cl3, Ar3, qk3, Sz3, Nn3, Hs3, Gs3⟩ := id (V1)
  have hin3 : ¬ ((0 : Int32) < 0 ∨ cl3.slots.size ≤ ((0 : Int32)).toNatClampNeg) := inb_of Sz3 ⟨by decide, by decide⟩
  obtain ⟨T3, h3, X3, e3, W3, st3⟩ := stR X2 hx hZ e2 Ar3 (j := (0 : Int32)) hin3 rfl (Sto.ofV Ar3 qk3 Ov1 (Ins.self (G.2.1.ext O1.2))) (g := (mkF m 10 #[.val (.int p1), .unset, .unset, .unset, .unset, .unset, .unset] [(.ref wW1), (.int (0 : Int32)), (.ref b1), (.ref b1)])) rfl rfl (hb hby at_10)
  have V3 := Arv.set Ar3 qk3 Sz3 Nn3 Hs3 Gs3 rfl W3 0 rfl (Nat.le_of_ble_eq_true rfl)
  have O3 := O1.wr W3 ge_b1
  have K3 := K1.wr W3 (Or.inr sz_b1)
  have N3 := Fr.snoc X3 N0 ge_b1
  obtain ⟨T4, X4, e4, st4⟩ := getS2 X3 hx hZ hown (host := "") (Or.inl (hw _ (List.mem_of_getElem? (i := 6) rfl))) Via.refl e3 (G.2.2.1.ext O3.2) (g := (mkF m 13 #[.val (.int p1), .unset, .unset, .unset, .unset, .unset, .unset] [(.int (1 : Int32)), (.ref b1), (.ref b1)])) rfl (hb hby at_13)
  obtain ⟨cl5, Ar5, qk5, Sz5, Nn5, Hs5, Gs5⟩ := id (V3)
  have hin5 : ¬ ((1 : Int32) < 0 ∨ cl5.slots.size ≤ ((1 : Int32)).toNatClampNeg) := inb_of Sz5 ⟨by decide, by decide⟩
  obtain ⟨T5, h5, X5, e5, W5, st5⟩ := stR X4 hx hZ e4 Ar5 (j := (1 : Int32)) hin5 rfl (Sto.ofV Ar5 qk5 Ov1 (Ins.self (G.2.2.2.1.ext O3.2))) (g := (mkF m 16 #[.val (.int p1), .unset, .unset, .unset, .unset, .unset, .unset] [(.ref wW2), (.int (1 : Int32)), (.ref b1), (.ref b1)])) rfl rfl (hb hby at_16)
  have V5 := Arv.set Ar5 qk5 Sz5 Nn5 Hs5 Gs5 rfl W5 1 rfl (Nat.le_of_ble_eq_true rfl)
  have O5 := O3.wr W5 ge_b1
  have K5 := K3.wr W5 (Or.inr sz_b1)
  have N5 := Fr.snoc X5 N3 ge_b1
  obtain ⟨T6, X6, e6, st6⟩ := getS2 X5 hx hZ hown (host := "") (Or.inl (hw _ (List.mem_of_getElem? (i := 8) rfl))) Via.refl e5 (G.2.2.2.2.1.ext O5.2) (g := (mkF m 19 #[.val (.int p1), .unset, .unset, .unset, .unset, .unset, .unset] [(.int (2 : Int32)), (.ref b1), (.ref b1)])) rfl (hb hby at_19)
  obtain ⟨cl7, Ar7, qk7, Sz7, Nn7, Hs7, Gs7⟩ := id (V5)
  have hin7 : ¬ ((2 : Int32) < 0 ∨ cl7.slots.size ≤ ((2 : Int32)).toNatClampNeg) := inb_of Sz7 ⟨by decide, by decide⟩
  obtain ⟨T7, h7, X7, e7, W7, st7⟩ := stR X6 hx hZ e6 Ar7 (j := (2 : Int32)) hin7 rfl (Sto.ofV Ar7 qk7 Ov1 (Ins.self (G.2.2.2.2.2.1.ext O5.2))) (g := (mkF m 22 #[.val (.int p1), .unset, .unset, .unset, .unset, .unset, .unset] [(.ref wW3), (.int (2 : Int32)), (.ref b1), (.ref b1)])) rfl rfl (hb hby at_22)
  have V7 := Arv.set Ar7 qk7 Sz7 Nn7 Hs7 Gs7 rfl W7 2 rfl (Nat.le_of_ble_eq_true rfl)
  have O7 := O5.wr W7 ge_b1
  have K7 := K5.wr W7 (Or.inr sz_b1)
  have N7 := Fr.snoc X7 N5 ge_b1
  obtain ⟨T8, X8, e8, st8⟩ := getS2 X7 hx hZ hown (host := "") (Or.inl (hw _ (List.mem_of_getElem? (i := 10) rfl))) Via.refl e7 (G.2.2.2.2.2.2.1.ext O7.2) (g := (mkF m 25 #[.val (.int p1), .unset, .unset, .unset, .unset, .unset, .unset] [(.int (3 : Int32)), (.ref b1), (.ref b1)])) rfl (hb hby at_25)
  obtain ⟨cl9, Ar9, qk9, Sz9, Nn9, Hs9, Gs9⟩ := id (V7)
  have hin9 : ¬ ((3 : Int32) < 0 ∨ cl9.slots.size ≤ ((3 : Int32)).toNatClampNeg) := inb_of Sz9 ⟨by decide, by decide⟩
  obtain ⟨T9, h9, X9, e9, W9, st9⟩ := stR X8 hx hZ e8 Ar9 (j := (3 : Int32)) hin9 rfl (Sto.ofV Ar9 qk9 Ov1 (Ins.self (G.2.2.2.2.2.2.2.1.ext O7.2))) (g := (mkF m 28 #[.val (.int p1), .unset, .unset, .unset, .unset, .unset, .unset] [(.ref wW4), (.int (3 : Int32)), (.ref b1), (.ref b1)])) rfl rfl (hb hby at_28)
  have V9 := Arv.set Ar9 qk9 Sz9 Nn9 Hs9 Gs9 rfl W9 3 rfl (Nat.le_of_ble_eq_true rfl)
  have O9 := O7.wr W9 ge_b1
  have K9 := K7.wr W9 (Or.inr sz_b1)
  have N9 := Fr.snoc X9 N7 ge_b1
  obtain ⟨T10, X10, e10, st10⟩ := getS2 X9 hx hZ hown (host := "") (Or.inl (hw _ (List.mem_of_getElem? (i := 12) rfl))) Via.refl e9 (G.2.2.2.2.2.2.2.2.1.ext O9.2) (g := (mkF m 31 #[.val (.int p1), .unset, .unset, .unset, .unset, .unset, .unset] [(.int (4 : Int32)), (.ref b1), (.ref b1)])) rfl (hb hby at_31)
  obtain ⟨cl11, Ar11, qk11, Sz11, Nn11, Hs11, Gs11⟩ := id (V9)
  have hin11 : ¬ ((4 : Int32) < 0 ∨ cl11.slots.size ≤ ((4 : Int32)).toNatClampNeg) := inb_of Sz11 ⟨by decide, by decide⟩
  obtain ⟨T11, h11, X11, e11, W11, st11⟩ := stR X10 hx hZ e10 Ar11 (j := (4 : Int32)) hin11 rfl (Sto.ofV Ar11 qk11 Ov1 (Ins.self (G.2.2.2.2.2.2.2.2.2.1.ext O9.2))) (g := (mkF m 34 #[.val (.int p1), .unset, .unset, .unset, .unset, .unset, .unset] [(.ref wW5), (.int (4 : Int32)), (.ref b1), (.ref b1)])) rfl rfl (hb hby at_34)
  have V11 := Arv.set Ar11 qk11 Sz11 Nn11 Hs11 Gs11 rfl W11 4 rfl (Nat.le_of_ble_eq_true rfl)
  have O11 := O9.wr W11 ge_b1
  have K11 := K9.wr W11 (Or.inr sz_b1)
  have N11 := Fr.snoc X11 N9 ge_b1
  obtain ⟨T12, X12, e12, st12⟩ := getS2 X11 hx hZ hown (host := "") (Or.inl (hw _ (List.mem_of_getElem? (i := 14) rfl))) Via.refl e11 (G.2.2.2.2.2.2.2.2.2.2.1.ext O11.2) (g := (mkF m 37 #[.val (.int p1), .unset, .unset, .unset, .unset, .unset, .unset] [(.int (5 : Int32)), (.ref b1), (.ref b1)])) rfl (hb hby at_37)
  obtain ⟨cl13, Ar13, qk13, Sz13, Nn13, Hs13, Gs13⟩ := id (V11)
  have hin13 : ¬ ((5 : Int32) < 0 ∨ cl13.slots.size ≤ ((5 : Int32)).toNatClampNeg) := inb_of Sz13 ⟨by decide, by decide⟩
  obtain ⟨T13, h13, X13, e13, W13, st13⟩ := stR X12 hx hZ e12 Ar13 (j := (5 : Int32)) hin13 rfl (Sto.ofV Ar13 qk13 Ov1 (Ins.self (G.2.2.2.2.2.2.2.2.2.2.2.1.ext O11.2))) (g := (mkF m 40 #[.val (.int p1), .unset, .unset, .unset, .unset, .unset, .unset] [(.ref wW6), (.int (5 : Int32)), (.ref b1), (.ref b1)])) rfl rfl (hb hby at_40)
  have V13 := Arv.set Ar13 qk13 Sz13 Nn13 Hs13 Gs13 rfl W13 5 rfl (Nat.le_of_ble_eq_true rfl)
  have O13 := O11.wr W13 ge_b1
  have K13 := K11.wr W13 (Or.inr sz_b1)
  have N13 := Fr.snoc X13 N11 ge_b1
  obtain ⟨T14, X14, e14, st14⟩ := getS2 X13 hx hZ hown (host := "") (Or.inl (hw _ (List.mem_of_getElem? (i := 16) rfl))) Via.refl e13 (G.2.2.2.2.2.2.2.2.2.2.2.2.1.ext O13.2) (g := (mkF m 44 #[.val (.int p1), .unset, .unset, .unset, .unset, .unset, .unset] [(.int (6 : Int32)), (.ref b1), (.ref b1)])) rfl (hb hby at_44)
  obtain ⟨cl15, Ar15, qk15, Sz15, Nn15, Hs15, Gs15⟩ := id (V13)
  have hin15 : ¬ ((6 : Int32) < 0 ∨ cl15.slots.size ≤ ((6 : Int32)).toNatClampNeg) := inb_of Sz15 ⟨by decide, by decide⟩
  obtain ⟨T15, h15, X15, e15, W15, st15⟩ := stR X14 hx hZ e14 Ar15 (j := (6 : Int32)) hin15 rfl (Sto.ofV Ar15 qk15 Ov1 (Ins.self (G.2.2.2.2.2.2.2.2.2.2.2.2.2.1.ext O13.2))) (g := (mkF m 47 #[.val (.int p1), .unset, .unset, .unset, .unset, .unset, .unset] [(.ref wCW1), (.int (6 : Int32)), (.ref b1), (.ref b1)])) rfl rfl (hb hby at_47)
  have V15 := Arv.set Ar15 qk15 Sz15 Nn15 Hs15 Gs15 rfl W15 6 rfl (Nat.le_of_ble_eq_true rfl)
  have O15 := O13.wr W15 ge_b1
  have K15 := K13.wr W15 (Or.inr sz_b1)
  have N15 := Fr.snoc X15 N13 ge_b1
  obtain ⟨T16, X16, e16, st16⟩ := getS2 X15 hx hZ hown (host := "") (Or.inl (hw _ (List.mem_of_getElem? (i := 18) rfl))) Via.refl e15 (G.2.2.2.2.2.2.2.2.2.2.2.2.2.2.1.ext O15.2) (g := (mkF m 51 #[.val (.int p1), .unset, .unset, .unset, .unset, .unset, .unset] [(.int (7 : Int32)), (.ref b1), (.ref b1)])) rfl (hb hby at_51)
  obtain ⟨cl17, Ar17, qk17, Sz17, Nn17, Hs17, Gs17⟩ := id (V15)
  have hin17 : ¬ ((7 : Int32) < 0 ∨ cl17.slots.size ≤ ((7 : Int32)).toNatClampNeg) := inb_of Sz17 ⟨by decide, by decide⟩
  obtain ⟨T17, h17, X17, e17, W17, st17⟩ := stR X16 hx hZ e16 Ar17 (j := (7 : Int32)) hin17 rfl (Sto.ofV Ar17 qk17 Ov1 (Ins.self (G.2.2.2.2.2.2.2.2.2.2.2.2.2.2.2.1.ext O15.2))) (g := (mkF m 54 #[.val (.int p1), .unset, .unset, .unset, .unset, .unset, .unset] [(.ref wCW2), (.int (7 : Int32)), (.ref b1), (.ref b1)])) rfl rfl (hb hby at_54)
  have V17 := Arv.set Ar17 qk17 Sz17 Nn17 Hs17 Gs17 rfl W17 7 rfl (Nat.le_of_ble_eq_true rfl)
  have O17 := O15.wr W17 ge_b1
  have K17 := K15.wr W17 (Or.inr sz_b1)
  have N17 := Fr.snoc X17 N15 ge_b1
  obtain ⟨T18, X18, e18, st18⟩ := getS2 X17 hx hZ hown (host := "") (Or.inl (hw _ (List.mem_of_getElem? (i := 20) rfl))) Via.refl e17 (G.2.2.2.2.2.2.2.2.2.2.2.2.2.2.2.2.1.ext O17.2) (g := (mkF m 58 #[.val (.int p1), .unset, .unset, .unset, .unset, .unset, .unset] [(.int (8 : Int32)), (.ref b1), (.ref b1)])) rfl (hb hby at_58)
  obtain ⟨cl19, Ar19, qk19, Sz19, Nn19, Hs19, Gs19⟩ := id (V17)
  have hin19 : ¬ ((8 : Int32) < 0 ∨ cl19.slots.size ≤ ((8 : Int32)).toNatClampNeg) := inb_of Sz19 ⟨by decide, by decide⟩
  obtain ⟨T19, h19, X19, e19, W19, st19⟩ := stR X18 hx hZ e18 Ar19 (j := (8 : Int32)) hin19 rfl (Sto.ofV Ar19 qk19 Ov1 (Ins.self (G.2.2.2.2.2.2.2.2.2.2.2.2.2.2.2.2.2.1.ext O17.2))) (g := (mkF m 61 #[.val (.int p1), .unset, .unset, .unset, .unset, .unset, .unset] [(.ref wCW3), (.int (8 : Int32)), (.ref b1), (.ref b1)])) rfl rfl (hb hby at_61)
  have V19 := Arv.set Ar19 qk19 Sz19 Nn19 Hs19 Gs19 rfl W19 8 rfl (Nat.le_of_ble_eq_true rfl)
  have O19 := O17.wr W19 ge_b1
  have K19 := K17.wr W19 (Or.inr sz_b1)
  have N19 := Fr.snoc X19 N17 ge_b1
  obtain ⟨T20, X20, e20, st20⟩ := getS2 X19 hx hZ hown (host := "") (Or.inl (hw _ (List.mem_of_getElem? (i := 22) rfl))) Via.refl e19 (G.2.2.2.2.2.2.2.2.2.2.2.2.2.2.2.2.2.2.1.ext O19.2) (g := (mkF m 65 #[.val (.int p1), .unset, .unset, .unset, .unset, .unset, .unset] [(.int (9 : Int32)), (.ref b1), (.ref b1)])) rfl (hb hby at_65)
  obtain ⟨cl21, Ar21, qk21, Sz21, Nn21, Hs21, Gs21⟩ := id (V19)
  have hin21 : ¬ ((9 : Int32) < 0 ∨ cl21.slots.size ≤ ((9 : Int32)).toNatClampNeg) := inb_of Sz21 ⟨by decide, by decide⟩
  obtain ⟨T21, h21, X21, e21, W21, st21⟩ := stR X20 hx hZ e20 Ar21 (j := (9 : Int32)) hin21 rfl (Sto.ofV Ar21 qk21 Ov1 (Ins.self (G.2.2.2.2.2.2.2.2.2.2.2.2.2.2.2.2.2.2.2.1.ext O19.2))) (g := (mkF m 68 #[.val (.int p1), .unset, .unset, .unset, .unset, .unset, .unset] [(.ref wCW4), (.int (9 : Int32)), (.ref b1), (.ref b1)])) rfl rfl (hb hby at_68)
  have V21 := Arv.set Ar21 qk21 Sz21 Nn21 Hs21 Gs21 rfl W21 9 rfl (Nat.le_of_ble_eq_true rfl)
  have O21 := O19.wr W21 ge_b1
  have K21 := K19.wr W21 (Or.inr sz_b1)
  have N21 := Fr.snoc X21 N19 ge_b1
  obtain ⟨T22, X22, e22, st22⟩ := getS2 X21 hx hZ hown (host := "") (Or.inl (hw _ (List.mem_of_getElem? (i := 24) rfl))) Via.refl e21 (G.2.2.2.2.2.2.2.2.2.2.2.2.2.2.2.2.2.2.2.2.1.ext O21.2) (g := (mkF m 72 #[.val (.int p1), .unset, .unset, .unset, .unset, .unset, .unset] [(.int (10 : Int32)), (.ref b1), (.ref b1)])) rfl (hb hby at_72)
  obtain ⟨cl23, Ar23, qk23, Sz23, Nn23, Hs23, Gs23⟩ := id (V21)
  have hin23 : ¬ ((10 : Int32) < 0 ∨ cl23.slots.size ≤ ((10 : Int32)).toNatClampNeg) := inb_of Sz23 ⟨by decide, by decide⟩
  obtain ⟨T23, h23, X23, e23, W23, st23⟩ := stR X22 hx hZ e22 Ar23 (j := (10 : Int32)) hin23 rfl (Sto.ofV Ar23 qk23 Ov1 (Ins.self (G.2.2.2.2.2.2.2.2.2.2.2.2.2.2.2.2.2.2.2.2.2.1.ext O21.2))) (g := (mkF m 75 #[.val (.int p1), .unset, .unset, .unset, .unset, .unset, .unset] [(.ref wCW5), (.int (10 : Int32)), (.ref b1), (.ref b1)])) rfl rfl (hb hby at_75)
  have V23 := Arv.set Ar23 qk23 Sz23 Nn23 Hs23 Gs23 rfl W23 10 rfl (Nat.le_of_ble_eq_true rfl)
  have O23 := O21.wr W23 ge_b1
  have K23 := K21.wr W23 (Or.inr sz_b1)
  have N23 := Fr.snoc X23 N21 ge_b1
  obtain ⟨T24, X24, e24, st24⟩ := getS2 X23 hx hZ hown (host := "") (Or.inl (hw _ (List.mem_of_getElem? (i := 26) rfl))) Via.refl e23 (G.2.2.2.2.2.2.2.2.2.2.2.2.2.2.2.2.2.2.2.2.2.2.1.ext O23.2) (g := (mkF m 79 #[.val (.int p1), .unset, .unset, .unset, .unset, .unset, .unset] [(.int (11 : Int32)), (.ref b1), (.ref b1)])) rfl (hb hby at_79)
  obtain ⟨cl25, Ar25, qk25, Sz25, Nn25, Hs25, Gs25⟩ := id (V23)
  have hin25 : ¬ ((11 : Int32) < 0 ∨ cl25.slots.size ≤ ((11 : Int32)).toNatClampNeg) := inb_of Sz25 ⟨by decide, by decide⟩
  obtain ⟨T25, h25, X25, e25, W25, st25⟩ := stR X24 hx hZ e24 Ar25 (j := (11 : Int32)) hin25 rfl (Sto.ofV Ar25 qk25 Ov1 (Ins.self (G.2.2.2.2.2.2.2.2.2.2.2.2.2.2.2.2.2.2.2.2.2.2.2.1.ext O23.2))) (g := (mkF m 82 #[.val (.int p1), .unset, .unset, .unset, .unset, .unset, .unset] [(.ref wCW6), (.int (11 : Int32)), (.ref b1), (.ref b1)])) rfl rfl (hb hby at_82)
  have V25 := Arv.set Ar25 qk25 Sz25 Nn25 Hs25 Gs25 rfl W25 11 rfl (Nat.le_of_ble_eq_true rfl)
  have O25 := O23.wr W25 ge_b1
  have K25 := K23.wr W25 (Or.inr sz_b1)
  have N25 := Fr.snoc X25 N23 ge_b1
  obtain ⟨cl26, Ar26, qk26, Sz26, Nn26, Hs26, Gs26⟩ := id (V25)
  have hin27 : ¬ ((1 : Int32) < 0 ∨ cl26.slots.size ≤ ((1 : Int32)).toNatClampNeg) := inb_of Sz26 ⟨by decide, by decide⟩
  have hat27 : cl26.slots[((1 : Int32)).toNatClampNeg]? = some (.ref wW2) := Hs26.at hin27 rfl
  obtain ⟨cq28, kq28, q28a, q28b, q28c⟩ := isOf hZ e25 (G.2.2.2.1.ext O25.2)
  obtain ⟨_, _, ⟨T28, L28, k28, n28⟩, -, X28, ⟨Lc28, hQ28, l28, y28, z28⟩, st28⟩ := X25.virtualBack hx (y := (⟨"com/example/credlib/credlib/engine/Rule", "statesCredential", "()Z"⟩ : MethodName)) (z := (⟨"com/example/credlib/credlib/engine/Rule", "statesCredential", "()Z"⟩ : MethodName)) hown (mvT hZ (hw _ (List.mem_of_getElem? (i := 29) rfl))) (mvT hZ (hw _ (List.mem_of_getElem? (i := 30) rfl))) (notFace_of_selects (args := #[]) (mvT hZ (hw _ (List.mem_of_getElem? (i := 32) rfl)))) (mvT hZ (hw _ (List.mem_of_getElem? (i := 32) rfl))) (mvT hZ (hw _ (List.mem_of_getElem? (i := 31) rfl))) (by decide) (backOf (W := 0) (own_statesCredential_4 l Z a0 hw [] wW1 wW2 wW3 wW4 wW5 wW6 wCW1 wCW2 wCW3 wCW4 wCW5 wCW6 G h25 n0 O25) hZ (hw _ (List.mem_of_getElem? (i := 33) rfl)) (hw _ (List.mem_of_getElem? (i := 3) rfl)) (by decide) (by decide)) q28a q28c (g := (mkF m 111 #[.val (.int p1), .val (.ref b1), .val (.int (1 : Int32)), .val (.ref wW2), .val (.int (0 : Int32)), .unset, .unset] [(.ref wW2)])) rfl (by rw [hml]; rfl) (Steps.refl _) (argsL := []) (rest := []) (lenOf own_pd_0 rfl) rfl (by show 2 * 0 + _ ≤ _; exact Nat.le_of_eq rfl) (hb hby at_111) (fun _ _ => ⟨rfl, e25, (by decide : 1 + 0 ≤ _), (by decide : 12 + 0 ≤ _)⟩)
  dsimp only [Pt.U, Pt.locs, Pt.cells, Pt.slots] at X28 l28 y28 z28 st28 hQ28
  subst l28 y28 z28
  obtain ⟨rfl, N28q, e28⟩ := hQ28
  have N28 := Fr.app N25 N28q
  obtain ⟨cq29, kq29, q29a, q29b, q29c⟩ := isOf hZ e28 (G.2.2.2.1.ext O25.2)
  obtain ⟨_, _, ⟨T29, L29, k29, n29⟩, -, X29, ⟨Lc29, hQ29, l29, y29, z29⟩, st29⟩ := X28.virtualBack hx (y := (⟨"com/example/credlib/credlib/engine/Rule", "atInstant", "()Lcom/example/credlib/credlib/engine/Rule;"⟩ : MethodName)) (z := (⟨"com/example/credlib/credlib/engine/Rule", "atInstant", "()Lcom/example/credlib/credlib/engine/Rule;"⟩ : MethodName)) hown (mvT hZ (hw _ (List.mem_of_getElem? (i := 35) rfl))) (mvT hZ (hw _ (List.mem_of_getElem? (i := 36) rfl))) (notFace_of_selects (args := #[]) (mvT hZ (hw _ (List.mem_of_getElem? (i := 38) rfl)))) (mvT hZ (hw _ (List.mem_of_getElem? (i := 38) rfl))) (mvT hZ (hw _ (List.mem_of_getElem? (i := 37) rfl))) (by decide) (backOf (W := 0) (own_atInstant_5 l Z a0 hw [] wW1 wW2 wW3 wW4 wW5 wW6 wCW1 wCW2 wCW3 wCW4 wCW5 wCW6 G h25 n0 O25) hZ (hw _ (List.mem_of_getElem? (i := 39) rfl)) (hw _ (List.mem_of_getElem? (i := 3) rfl)) (by decide) (by decide)) q29a q29c (g := (mkF m 117 #[.val (.int p1), .val (.ref b1), .val (.int (1 : Int32)), .val (.ref wW2), .val (.int (0 : Int32)), .val (.int (0 : Int32)), .unset] [(.ref wW2)])) rfl (by rw [hml]; rfl) (Steps.refl _) (argsL := []) (rest := []) (lenOf own_pd_2 rfl) rfl (by show 2 * 0 + _ ≤ _; exact Nat.le_of_eq rfl) (hb hby at_117) (fun _ _ => ⟨rfl, e28, (by decide : 1 + 0 ≤ _), (by decide : 12 + 0 ≤ _)⟩)
  dsimp only [Pt.U, Pt.locs, Pt.cells, Pt.slots] at X29 l29 y29 z29 st29 hQ29
  subst l29 y29 z29
  obtain ⟨rfl, N29q, e29⟩ := hQ29
  have N29 := Fr.app N28 N29q
  obtain ⟨cq30, kq30, q30a, q30b, q30c⟩ := isOf hZ e29 (G.2.2.2.2.2.2.2.2.2.2.2.2.2.2.2.1.ext O25.2)
  obtain ⟨_, _, ⟨T30, L30, k30, n30⟩, -, X30, ⟨Lc30, hQ30, l30, y30, z30⟩, st30⟩ := X29.virtualBack hx (y := (⟨"com/example/credlib/credlib/engine/Rule", "statesCredential", "()Z"⟩ : MethodName)) (z := (⟨"com/example/credlib/credlib/engine/Rule", "statesCredential", "()Z"⟩ : MethodName)) hown (mvT hZ (hw _ (List.mem_of_getElem? (i := 29) rfl))) (mvT hZ (hw _ (List.mem_of_getElem? (i := 30) rfl))) (notFace_of_selects (args := #[]) (mvT hZ (hw _ (List.mem_of_getElem? (i := 32) rfl)))) (mvT hZ (hw _ (List.mem_of_getElem? (i := 32) rfl))) (mvT hZ (hw _ (List.mem_of_getElem? (i := 31) rfl))) (by decide) (backOf (W := 0) (own_statesCredential_7 l Z a0 hw [] wW1 wW2 wW3 wW4 wW5 wW6 wCW1 wCW2 wCW3 wCW4 wCW5 wCW6 G h25 n0 O25) hZ (hw _ (List.mem_of_getElem? (i := 33) rfl)) (hw _ (List.mem_of_getElem? (i := 3) rfl)) (by decide) (by decide)) q30a q30c (g := (mkF m 120 #[.val (.int p1), .val (.ref b1), .val (.int (1 : Int32)), .val (.ref wW2), .val (.int (0 : Int32)), .val (.int (0 : Int32)), .unset] [(.ref wCW2)])) rfl (by rw [hml]; rfl) (Steps.refl _) (argsL := []) (rest := []) (lenOf own_pd_0 rfl) rfl (by show 2 * 0 + _ ≤ _; exact Nat.le_of_eq rfl) (hb hby at_120) (fun _ _ => ⟨rfl, e29, (by decide : 1 + 0 ≤ _), (by decide : 12 + 0 ≤ _)⟩)
  dsimp only [Pt.U, Pt.locs, Pt.cells, Pt.slots] at X30 l30 y30 z30 st30 hQ30
  subst l30 y30 z30
  obtain ⟨rfl, N30q, e30⟩ := hQ30
  have N30 := Fr.app N29 N30q
  obtain ⟨fs, hr, hrun, hended, hW, hsame⟩ := X30.leave (v := some (.int (1 : Int32))) (fun h => by rw [Bd.returns] at h; cases h)
  refine ⟨_, _, pre0 _ ?_, hrun, hended, _, _, rfl, ?_, ⟨_, rfl⟩, hW, hsame.mono (by decide) (by decide)⟩
  · show Steps p.tables e below (s₁.setTop (mkF m 0 #[.val (.int p1), .unset, .unset, .unset, .unset, .unset, .unset] [])) _
    refine XS.bipush X0.here hx rfl (hb hby at_0) ?_
    show Steps p.tables e below (s₁.setTop (mkF m 2 #[.val (.int p1), .unset, .unset, .unset, .unset, .unset, .unset] [(.int (12 : Int32))])) _
    refine st1 _ ?_
    show Steps p.tables e below (T1.setTop (mkF m 5 #[.val (.int p1), .unset, .unset, .unset, .unset, .unset, .unset] [(.ref b1)])) _
    refine XS.dup X1.here hx rfl (hb hby at_5) rfl rfl ?_
    show Steps p.tables e below (T1.setTop (mkF m 6 #[.val (.int p1), .unset, .unset, .unset, .unset, .unset, .unset] [(.ref b1), (.ref b1)])) _
    refine XS.iconst X1.here hx rfl (hb hby at_6) ?_
    show Steps p.tables e below (T1.setTop (mkF m 7 #[.val (.int p1), .unset, .unset, .unset, .unset, .unset, .unset] [(.int (0 : Int32)), (.ref b1), (.ref b1)])) _
    refine st2 _ ?_
    show Steps p.tables e below (T2.setTop (mkF m 10 #[.val (.int p1), .unset, .unset, .unset, .unset, .unset, .unset] [(.ref wW1), (.int (0 : Int32)), (.ref b1), (.ref b1)])) _
    refine st3 _ ?_
    show Steps p.tables e below (T3.setTop (mkF m 11 #[.val (.int p1), .unset, .unset, .unset, .unset, .unset, .unset] [(.ref b1)])) _
    refine XS.dup X3.here hx rfl (hb hby at_11) rfl rfl ?_
    show Steps p.tables e below (T3.setTop (mkF m 12 #[.val (.int p1), .unset, .unset, .unset, .unset, .unset, .unset] [(.ref b1), (.ref b1)])) _
    refine XS.iconst X3.here hx rfl (hb hby at_12) ?_
    show Steps p.tables e below (T3.setTop (mkF m 13 #[.val (.int p1), .unset, .unset, .unset, .unset, .unset, .unset] [(.int (1 : Int32)), (.ref b1), (.ref b1)])) _
    refine st4 _ ?_
    show Steps p.tables e below (T4.setTop (mkF m 16 #[.val (.int p1), .unset, .unset, .unset, .unset, .unset, .unset] [(.ref wW2), (.int (1 : Int32)), (.ref b1), (.ref b1)])) _
    refine st5 _ ?_
    show Steps p.tables e below (T5.setTop (mkF m 17 #[.val (.int p1), .unset, .unset, .unset, .unset, .unset, .unset] [(.ref b1)])) _
    refine XS.dup X5.here hx rfl (hb hby at_17) rfl rfl ?_
    show Steps p.tables e below (T5.setTop (mkF m 18 #[.val (.int p1), .unset, .unset, .unset, .unset, .unset, .unset] [(.ref b1), (.ref b1)])) _
    refine XS.iconst X5.here hx rfl (hb hby at_18) ?_
    show Steps p.tables e below (T5.setTop (mkF m 19 #[.val (.int p1), .unset, .unset, .unset, .unset, .unset, .unset] [(.int (2 : Int32)), (.ref b1), (.ref b1)])) _
    refine st6 _ ?_
    show Steps p.tables e below (T6.setTop (mkF m 22 #[.val (.int p1), .unset, .unset, .unset, .unset, .unset, .unset] [(.ref wW3), (.int (2 : Int32)), (.ref b1), (.ref b1)])) _
    refine st7 _ ?_
    show Steps p.tables e below (T7.setTop (mkF m 23 #[.val (.int p1), .unset, .unset, .unset, .unset, .unset, .unset] [(.ref b1)])) _
    refine XS.dup X7.here hx rfl (hb hby at_23) rfl rfl ?_
    show Steps p.tables e below (T7.setTop (mkF m 24 #[.val (.int p1), .unset, .unset, .unset, .unset, .unset, .unset] [(.ref b1), (.ref b1)])) _
    refine XS.iconst X7.here hx rfl (hb hby at_24) ?_
    show Steps p.tables e below (T7.setTop (mkF m 25 #[.val (.int p1), .unset, .unset, .unset, .unset, .unset, .unset] [(.int (3 : Int32)), (.ref b1), (.ref b1)])) _
    refine st8 _ ?_
    show Steps p.tables e below (T8.setTop (mkF m 28 #[.val (.int p1), .unset, .unset, .unset, .unset, .unset, .unset] [(.ref wW4), (.int (3 : Int32)), (.ref b1), (.ref b1)])) _
    refine st9 _ ?_
    show Steps p.tables e below (T9.setTop (mkF m 29 #[.val (.int p1), .unset, .unset, .unset, .unset, .unset, .unset] [(.ref b1)])) _
    refine XS.dup X9.here hx rfl (hb hby at_29) rfl rfl ?_
    show Steps p.tables e below (T9.setTop (mkF m 30 #[.val (.int p1), .unset, .unset, .unset, .unset, .unset, .unset] [(.ref b1), (.ref b1)])) _
    refine XS.iconst X9.here hx rfl (hb hby at_30) ?_
    show Steps p.tables e below (T9.setTop (mkF m 31 #[.val (.int p1), .unset, .unset, .unset, .unset, .unset, .unset] [(.int (4 : Int32)), (.ref b1), (.ref b1)])) _
    refine st10 _ ?_
    show Steps p.tables e below (T10.setTop (mkF m 34 #[.val (.int p1), .unset, .unset, .unset, .unset, .unset, .unset] [(.ref wW5), (.int (4 : Int32)), (.ref b1), (.ref b1)])) _
    refine st11 _ ?_
    show Steps p.tables e below (T11.setTop (mkF m 35 #[.val (.int p1), .unset, .unset, .unset, .unset, .unset, .unset] [(.ref b1)])) _
    refine XS.dup X11.here hx rfl (hb hby at_35) rfl rfl ?_
    show Steps p.tables e below (T11.setTop (mkF m 36 #[.val (.int p1), .unset, .unset, .unset, .unset, .unset, .unset] [(.ref b1), (.ref b1)])) _
    refine XS.iconst X11.here hx rfl (hb hby at_36) ?_
    show Steps p.tables e below (T11.setTop (mkF m 37 #[.val (.int p1), .unset, .unset, .unset, .unset, .unset, .unset] [(.int (5 : Int32)), (.ref b1), (.ref b1)])) _
    refine st12 _ ?_
    show Steps p.tables e below (T12.setTop (mkF m 40 #[.val (.int p1), .unset, .unset, .unset, .unset, .unset, .unset] [(.ref wW6), (.int (5 : Int32)), (.ref b1), (.ref b1)])) _
    refine st13 _ ?_
    show Steps p.tables e below (T13.setTop (mkF m 41 #[.val (.int p1), .unset, .unset, .unset, .unset, .unset, .unset] [(.ref b1)])) _
    refine XS.dup X13.here hx rfl (hb hby at_41) rfl rfl ?_
    show Steps p.tables e below (T13.setTop (mkF m 42 #[.val (.int p1), .unset, .unset, .unset, .unset, .unset, .unset] [(.ref b1), (.ref b1)])) _
    refine XS.bipush X13.here hx rfl (hb hby at_42) ?_
    show Steps p.tables e below (T13.setTop (mkF m 44 #[.val (.int p1), .unset, .unset, .unset, .unset, .unset, .unset] [(.int (6 : Int32)), (.ref b1), (.ref b1)])) _
    refine st14 _ ?_
    show Steps p.tables e below (T14.setTop (mkF m 47 #[.val (.int p1), .unset, .unset, .unset, .unset, .unset, .unset] [(.ref wCW1), (.int (6 : Int32)), (.ref b1), (.ref b1)])) _
    refine st15 _ ?_
    show Steps p.tables e below (T15.setTop (mkF m 48 #[.val (.int p1), .unset, .unset, .unset, .unset, .unset, .unset] [(.ref b1)])) _
    refine XS.dup X15.here hx rfl (hb hby at_48) rfl rfl ?_
    show Steps p.tables e below (T15.setTop (mkF m 49 #[.val (.int p1), .unset, .unset, .unset, .unset, .unset, .unset] [(.ref b1), (.ref b1)])) _
    refine XS.bipush X15.here hx rfl (hb hby at_49) ?_
    show Steps p.tables e below (T15.setTop (mkF m 51 #[.val (.int p1), .unset, .unset, .unset, .unset, .unset, .unset] [(.int (7 : Int32)), (.ref b1), (.ref b1)])) _
    refine st16 _ ?_
    show Steps p.tables e below (T16.setTop (mkF m 54 #[.val (.int p1), .unset, .unset, .unset, .unset, .unset, .unset] [(.ref wCW2), (.int (7 : Int32)), (.ref b1), (.ref b1)])) _
    refine st17 _ ?_
    show Steps p.tables e below (T17.setTop (mkF m 55 #[.val (.int p1), .unset, .unset, .unset, .unset, .unset, .unset] [(.ref b1)])) _
    refine XS.dup X17.here hx rfl (hb hby at_55) rfl rfl ?_
    show Steps p.tables e below (T17.setTop (mkF m 56 #[.val (.int p1), .unset, .unset, .unset, .unset, .unset, .unset] [(.ref b1), (.ref b1)])) _
    refine XS.bipush X17.here hx rfl (hb hby at_56) ?_
    show Steps p.tables e below (T17.setTop (mkF m 58 #[.val (.int p1), .unset, .unset, .unset, .unset, .unset, .unset] [(.int (8 : Int32)), (.ref b1), (.ref b1)])) _
    refine st18 _ ?_
    show Steps p.tables e below (T18.setTop (mkF m 61 #[.val (.int p1), .unset, .unset, .unset, .unset, .unset, .unset] [(.ref wCW3), (.int (8 : Int32)), (.ref b1), (.ref b1)])) _
    refine st19 _ ?_
    show Steps p.tables e below (T19.setTop (mkF m 62 #[.val (.int p1), .unset, .unset, .unset, .unset, .unset, .unset] [(.ref b1)])) _
    refine XS.dup X19.here hx rfl (hb hby at_62) rfl rfl ?_
    show Steps p.tables e below (T19.setTop (mkF m 63 #[.val (.int p1), .unset, .unset, .unset, .unset, .unset, .unset] [(.ref b1), (.ref b1)])) _
    refine XS.bipush X19.here hx rfl (hb hby at_63) ?_
    show Steps p.tables e below (T19.setTop (mkF m 65 #[.val (.int p1), .unset, .unset, .unset, .unset, .unset, .unset] [(.int (9 : Int32)), (.ref b1), (.ref b1)])) _
    refine st20 _ ?_
    show Steps p.tables e below (T20.setTop (mkF m 68 #[.val (.int p1), .unset, .unset, .unset, .unset, .unset, .unset] [(.ref wCW4), (.int (9 : Int32)), (.ref b1), (.ref b1)])) _
    refine st21 _ ?_
    show Steps p.tables e below (T21.setTop (mkF m 69 #[.val (.int p1), .unset, .unset, .unset, .unset, .unset, .unset] [(.ref b1)])) _
    refine XS.dup X21.here hx rfl (hb hby at_69) rfl rfl ?_
    show Steps p.tables e below (T21.setTop (mkF m 70 #[.val (.int p1), .unset, .unset, .unset, .unset, .unset, .unset] [(.ref b1), (.ref b1)])) _
    refine XS.bipush X21.here hx rfl (hb hby at_70) ?_
    show Steps p.tables e below (T21.setTop (mkF m 72 #[.val (.int p1), .unset, .unset, .unset, .unset, .unset, .unset] [(.int (10 : Int32)), (.ref b1), (.ref b1)])) _
    refine st22 _ ?_
    show Steps p.tables e below (T22.setTop (mkF m 75 #[.val (.int p1), .unset, .unset, .unset, .unset, .unset, .unset] [(.ref wCW5), (.int (10 : Int32)), (.ref b1), (.ref b1)])) _
    refine st23 _ ?_
    show Steps p.tables e below (T23.setTop (mkF m 76 #[.val (.int p1), .unset, .unset, .unset, .unset, .unset, .unset] [(.ref b1)])) _
    refine XS.dup X23.here hx rfl (hb hby at_76) rfl rfl ?_
    show Steps p.tables e below (T23.setTop (mkF m 77 #[.val (.int p1), .unset, .unset, .unset, .unset, .unset, .unset] [(.ref b1), (.ref b1)])) _
    refine XS.bipush X23.here hx rfl (hb hby at_77) ?_
    show Steps p.tables e below (T23.setTop (mkF m 79 #[.val (.int p1), .unset, .unset, .unset, .unset, .unset, .unset] [(.int (11 : Int32)), (.ref b1), (.ref b1)])) _
    refine st24 _ ?_
    show Steps p.tables e below (T24.setTop (mkF m 82 #[.val (.int p1), .unset, .unset, .unset, .unset, .unset, .unset] [(.ref wCW6), (.int (11 : Int32)), (.ref b1), (.ref b1)])) _
    refine st25 _ ?_
    show Steps p.tables e below (T25.setTop (mkF m 83 #[.val (.int p1), .unset, .unset, .unset, .unset, .unset, .unset] [(.ref b1)])) _
    refine XS.astoreN X25.here hx rfl (hb hby at_83) rfl rfl (l' := #[.val (.int p1), .val (.ref b1), .unset, .unset, .unset, .unset, .unset]) rfl ?_
    show Steps p.tables e below (T25.setTop (mkF m 84 #[.val (.int p1), .val (.ref b1), .unset, .unset, .unset, .unset, .unset] [])) _
    refine XS.iloadN X25.here hx rfl (hb hby at_84) rfl ?_
    show Steps p.tables e below (T25.setTop (mkF m 85 #[.val (.int p1), .val (.ref b1), .unset, .unset, .unset, .unset, .unset] [(.int p1)])) _
    refine Jvm.Stand.ldcI X25 hx hown (mvT hZ (hw _ (List.mem_of_getElem? (i := 28) rfl))) rfl (hb hby at_85) ?_
    show Steps p.tables e below (T25.setTop (mkF m 87 #[.val (.int p1), .val (.ref b1), .unset, .unset, .unset, .unset, .unset] [(.int (2147483647 : Int32)), (.int p1)])) _
    refine XS.iand X25.here hx rfl (hb hby at_87) rfl ?_
    show Steps p.tables e below (T25.setTop (mkF m 88 #[.val (.int p1), .val (.ref b1), .unset, .unset, .unset, .unset, .unset] [(.int (p1 &&& (2147483647 : Int32)))])) _
    refine XS.bipush X25.here hx rfl (hb hby at_88) ?_
    show Steps p.tables e below (T25.setTop (mkF m 90 #[.val (.int p1), .val (.ref b1), .unset, .unset, .unset, .unset, .unset] [(.int (12 : Int32)), (.int (p1 &&& (2147483647 : Int32)))])) _
    refine iremM X25 hx rfl (hb hby at_90) rfl (by decide) ?_
    show Steps p.tables e below (T25.setTop (mkF m 91 #[.val (.int p1), .val (.ref b1), .unset, .unset, .unset, .unset, .unset] [(.int ((p1 &&& (2147483647 : Int32)) % (12 : Int32)))])) _
    refine castTop (g' := (mkF m 91 #[.val (.int p1), .val (.ref b1), .unset, .unset, .unset, .unset, .unset] [(.int (1 : Int32))])) (by rw [hi]) ?_
    show Steps p.tables e below (T25.setTop (mkF m 91 #[.val (.int p1), .val (.ref b1), .unset, .unset, .unset, .unset, .unset] [(.int (1 : Int32))])) _
    refine XS.istoreN X25.here hx rfl (hb hby at_91) rfl (l' := #[.val (.int p1), .val (.ref b1), .val (.int (1 : Int32)), .unset, .unset, .unset, .unset]) rfl ?_
    show Steps p.tables e below (T25.setTop (mkF m 92 #[.val (.int p1), .val (.ref b1), .val (.int (1 : Int32)), .unset, .unset, .unset, .unset] [])) _
    refine XS.aloadN X25.here hx rfl (hb hby at_92) rfl rfl ?_
    show Steps p.tables e below (T25.setTop (mkF m 93 #[.val (.int p1), .val (.ref b1), .val (.int (1 : Int32)), .unset, .unset, .unset, .unset] [(.ref b1)])) _
    refine XS.iloadN X25.here hx rfl (hb hby at_93) rfl ?_
    show Steps p.tables e below (T25.setTop (mkF m 94 #[.val (.int p1), .val (.ref b1), .val (.int (1 : Int32)), .unset, .unset, .unset, .unset] [(.int (1 : Int32)), (.ref b1)])) _
    refine X25.aaload hx (j := (1 : Int32)) (v := (.ref wW2)) (by rw [e25]; exact Ar26.1) (State.isArrayOf_alike hZ.alike Ar26.2.1) rfl Ar26.2.2 hin27 hat27 (g := (mkF m 94 #[.val (.int p1), .val (.ref b1), .val (.int (1 : Int32)), .unset, .unset, .unset, .unset] [(.int (1 : Int32)), (.ref b1)])) rfl rfl (hb hby at_94) _ ?_
    show Steps p.tables e below (T25.setTop (mkF m 95 #[.val (.int p1), .val (.ref b1), .val (.int (1 : Int32)), .unset, .unset, .unset, .unset] [(.ref wW2)])) _
    refine XS.astoreN X25.here hx rfl (hb hby at_95) rfl rfl (l' := #[.val (.int p1), .val (.ref b1), .val (.int (1 : Int32)), .val (.ref wW2), .unset, .unset, .unset]) rfl ?_
    show Steps p.tables e below (T25.setTop (mkF m 96 #[.val (.int p1), .val (.ref b1), .val (.int (1 : Int32)), .val (.ref wW2), .unset, .unset, .unset] [])) _
    refine XS.iloadN X25.here hx rfl (hb hby at_96) rfl ?_
    show Steps p.tables e below (T25.setTop (mkF m 97 #[.val (.int p1), .val (.ref b1), .val (.int (1 : Int32)), .val (.ref wW2), .unset, .unset, .unset] [(.int (1 : Int32))])) _
    refine XS.bipush X25.here hx rfl (hb hby at_97) ?_
    show Steps p.tables e below (T25.setTop (mkF m 99 #[.val (.int p1), .val (.ref b1), .val (.int (1 : Int32)), .val (.ref wW2), .unset, .unset, .unset] [(.int (6 : Int32)), (.int (1 : Int32))])) _
    refine iremM X25 hx rfl (hb hby at_99) rfl (by decide) ?_
    show Steps p.tables e below (T25.setTop (mkF m 100 #[.val (.int p1), .val (.ref b1), .val (.int (1 : Int32)), .val (.ref wW2), .unset, .unset, .unset] [(.int ((1 : Int32) % (6 : Int32)))])) _
    refine castTop (g' := (mkF m 100 #[.val (.int p1), .val (.ref b1), .val (.int (1 : Int32)), .val (.ref wW2), .unset, .unset, .unset] [(.int (1 : Int32))])) (by rw [show ((1 : Int32) % (6 : Int32)) = (1 : Int32) from by decide]) ?_
    show Steps p.tables e below (T25.setTop (mkF m 100 #[.val (.int p1), .val (.ref b1), .val (.int (1 : Int32)), .val (.ref wW2), .unset, .unset, .unset] [(.int (1 : Int32))])) _
    refine XS.ifYes X25.here hx rfl (pc0 := 100) (pc' := 107) rfl (hb hby at_100) rfl (by decide) (by decide) (by decide) ?_
    show Steps p.tables e below (T25.setTop (mkF m 107 #[.val (.int p1), .val (.ref b1), .val (.int (1 : Int32)), .val (.ref wW2), .unset, .unset, .unset] [])) _
    refine XS.iconst X25.here hx rfl (hb hby at_107) ?_
    show Steps p.tables e below (T25.setTop (mkF m 108 #[.val (.int p1), .val (.ref b1), .val (.int (1 : Int32)), .val (.ref wW2), .unset, .unset, .unset] [(.int (0 : Int32))])) _
    refine XS.istore X25.here hx rfl (hb hby at_108) rfl (l' := #[.val (.int p1), .val (.ref b1), .val (.int (1 : Int32)), .val (.ref wW2), .val (.int (0 : Int32)), .unset, .unset]) rfl ?_
    show Steps p.tables e below (T25.setTop (mkF m 110 #[.val (.int p1), .val (.ref b1), .val (.int (1 : Int32)), .val (.ref wW2), .val (.int (0 : Int32)), .unset, .unset] [])) _
    refine XS.aloadN X25.here hx rfl (hb hby at_110) rfl rfl ?_
    show Steps p.tables e below (T25.setTop (mkF m 111 #[.val (.int p1), .val (.ref b1), .val (.int (1 : Int32)), .val (.ref wW2), .val (.int (0 : Int32)), .unset, .unset] [(.ref wW2)])) _
    refine st28.trans ?_
    show Steps p.tables e below (T28.setTop (mkF m 114 #[.val (.int p1), .val (.ref b1), .val (.int (1 : Int32)), .val (.ref wW2), .val (.int (0 : Int32)), .unset, .unset] [(.int (0 : Int32))])) _
    refine XS.istore X28.here hx rfl (hb hby at_114) rfl (l' := #[.val (.int p1), .val (.ref b1), .val (.int (1 : Int32)), .val (.ref wW2), .val (.int (0 : Int32)), .val (.int (0 : Int32)), .unset]) rfl ?_
    show Steps p.tables e below (T28.setTop (mkF m 116 #[.val (.int p1), .val (.ref b1), .val (.int (1 : Int32)), .val (.ref wW2), .val (.int (0 : Int32)), .val (.int (0 : Int32)), .unset] [])) _
    refine XS.aloadN X28.here hx rfl (hb hby at_116) rfl rfl ?_
    show Steps p.tables e below (T28.setTop (mkF m 117 #[.val (.int p1), .val (.ref b1), .val (.int (1 : Int32)), .val (.ref wW2), .val (.int (0 : Int32)), .val (.int (0 : Int32)), .unset] [(.ref wW2)])) _
    refine st29.trans ?_
    show Steps p.tables e below (T29.setTop (mkF m 120 #[.val (.int p1), .val (.ref b1), .val (.int (1 : Int32)), .val (.ref wW2), .val (.int (0 : Int32)), .val (.int (0 : Int32)), .unset] [(.ref wCW2)])) _
    refine st30.trans ?_
    show Steps p.tables e below (T30.setTop (mkF m 123 #[.val (.int p1), .val (.ref b1), .val (.int (1 : Int32)), .val (.ref wW2), .val (.int (0 : Int32)), .val (.int (0 : Int32)), .unset] [(.int (0 : Int32))])) _
    refine XS.istore X30.here hx rfl (hb hby at_123) rfl (l' := #[.val (.int p1), .val (.ref b1), .val (.int (1 : Int32)), .val (.ref wW2), .val (.int (0 : Int32)), .val (.int (0 : Int32)), .val (.int (0 : Int32))]) rfl ?_
    show Steps p.tables e below (T30.setTop (mkF m 125 #[.val (.int p1), .val (.ref b1), .val (.int (1 : Int32)), .val (.ref wW2), .val (.int (0 : Int32)), .val (.int (0 : Int32)), .val (.int (0 : Int32))] [])) _
    refine XS.iload X30.here hx rfl (hb hby at_125) rfl ?_
    show Steps p.tables e below (T30.setTop (mkF m 127 #[.val (.int p1), .val (.ref b1), .val (.int (1 : Int32)), .val (.ref wW2), .val (.int (0 : Int32)), .val (.int (0 : Int32)), .val (.int (0 : Int32))] [(.int (0 : Int32))])) _
    refine XS.iload X30.here hx rfl (hb hby at_127) rfl ?_
    show Steps p.tables e below (T30.setTop (mkF m 129 #[.val (.int p1), .val (.ref b1), .val (.int (1 : Int32)), .val (.ref wW2), .val (.int (0 : Int32)), .val (.int (0 : Int32)), .val (.int (0 : Int32))] [(.int (0 : Int32)), (.int (0 : Int32))])) _
    refine XS.icmpNo X30.here hx rfl (hb hby at_129) rfl (by decide) ?_
    show Steps p.tables e below (T30.setTop (mkF m 132 #[.val (.int p1), .val (.ref b1), .val (.int (1 : Int32)), .val (.ref wW2), .val (.int (0 : Int32)), .val (.int (0 : Int32)), .val (.int (0 : Int32))] [])) _
    refine XS.iload X30.here hx rfl (hb hby at_132) rfl ?_
    show Steps p.tables e below (T30.setTop (mkF m 134 #[.val (.int p1), .val (.ref b1), .val (.int (1 : Int32)), .val (.ref wW2), .val (.int (0 : Int32)), .val (.int (0 : Int32)), .val (.int (0 : Int32))] [(.int (0 : Int32))])) _
    refine XS.iload X30.here hx rfl (hb hby at_134) rfl ?_
    show Steps p.tables e below (T30.setTop (mkF m 136 #[.val (.int p1), .val (.ref b1), .val (.int (1 : Int32)), .val (.ref wW2), .val (.int (0 : Int32)), .val (.int (0 : Int32)), .val (.int (0 : Int32))] [(.int (0 : Int32)), (.int (0 : Int32))])) _
    refine XS.icmpNo X30.here hx rfl (hb hby at_136) rfl (by decide) ?_
    show Steps p.tables e below (T30.setTop (mkF m 139 #[.val (.int p1), .val (.ref b1), .val (.int (1 : Int32)), .val (.ref wW2), .val (.int (0 : Int32)), .val (.int (0 : Int32)), .val (.int (0 : Int32))] [])) _
    refine XS.iconst X30.here hx rfl (hb hby at_139) ?_
    show Steps p.tables e below (T30.setTop (mkF m 140 #[.val (.int p1), .val (.ref b1), .val (.int (1 : Int32)), .val (.ref wW2), .val (.int (0 : Int32)), .val (.int (0 : Int32)), .val (.int (0 : Int32))] [(.int (1 : Int32))])) _
    refine XS.goto X30.here hx rfl (pc0 := 140) (pc' := 144) rfl (hb hby at_140) (by decide) (by decide) ?_
    show Steps p.tables e below (T30.setTop (mkF m 144 #[.val (.int p1), .val (.ref b1), .val (.int (1 : Int32)), .val (.ref wW2), .val (.int (0 : Int32)), .val (.int (0 : Int32)), .val (.int (0 : Int32))] [(.int (1 : Int32))])) _
    exact retN X30 hx (t := .boolean) Bd.returns (by simp) (hb hby at_144) hr
  · exact ⟨rfl, N30⟩
set_option maxRecDepth 65536 in
set_option maxHeartbeats 40000000 in
theorem own_statesCredential_8 (l : Launch) (Z : State) (a0 : Array Value) (hw : ∀ d ∈ tables_1, d.before a0 Z = true) (ws : List Jvm.Cond) (wW1 : Addr) (wW2 : Addr) (wW3 : Addr) (wW4 : Addr) (wW5 : Addr) (wW6 : Addr) (wCW1 : Addr) (wCW2 : Addr) (wCW3 : Addr) (wCW4 : Addr) (wCW5 : Addr) (wCW6 : Addr) (G : OwnG Z wW1 wW2 wW3 wW4 wW5 wW6 wCW1 wCW2 wCW3 wCW4 wCW5 wCW6) (h0 : Heap) (n0 : Nat) (O0 : Old Z n0 h0) :
    MetFree l (⟨"com/example/credlib/credlib/engine/Rule", "statesCredential", "()Z"⟩ : MethodName) (head1 (Jvm.Cond.code (⟨"com/example/credlib/credlib/engine/Rule", "statesCredential", "()Z"⟩ : MethodName) prog_18_method_4_code 1 (some .boolean) :: ws) ({ frames := 0, cells := 0, slots := 0, locals := 0 } : Room)) (fun a U => a = #[(.ref wW3)] ∧ Z.Warmed39 U.vm ∧ U.heap = h0) (fun _ _ _ _ _ => True) (fun _ U o U' => ∃ v L, o = .returned v ∧ OwnQ (some (.int (0 : Int32))) h0 n0 v U'.heap L ∧ FrameEnd U o U' L ({ frames := 0, cells := 0, slots := 0, locals := 0 } : Room).cells ({ frames := 0, cells := 0, slots := 0, locals := 0 } : Room).slots) := by
  refine MetFree.of_bodySF (plainFor_of_name own_pn_1) hisR ?_
  intro p e s m args below meth c s₁ Bd hml0 hP hK
  obtain ⟨rfl, hZ, hh⟩ := hP
  have hx := Bd.exec
  have hby := Bd.bytes
  have hml : c.maxLocals = 1 := hml0
  have hown : s.vm.findClass "com/example/credlib/credlib/engine/Rule" = some m.cls := findClass_of_methodNamed Bd.named
  have hnm := (name_of_methodNamed Bd.named Bd.method).1
  have X0 : Stand p l e ({ frames := 0, cells := 0, slots := 0, locals := 0 } : Room) s m #[(.ref wW3)] below meth c s₁ [] 0 0 := Stand.of_body Bd
  have e0 : s₁.heap = h0 := by rw [← hh, Bd.state]; rfl
  have N0 := Fr.nil n0
  have pre0 : ∀ t, Steps p.tables e below (s₁.setTop (mkF m 0 #[.val (.ref wW3)] [])) t → Steps p.tables e below (s₁.setTop (entryFrame m #[(.ref wW3)] 1)) t := fun t k => castTop (own_ef_1_R m wW3) k
  obtain ⟨T1, X1, e1, st1⟩ := getS2 X0 hx hZ hown (host := "") (Or.inl (hw _ (List.mem_of_getElem? (i := 34) rfl))) Via.refl e0 (G.1.ext O0.2) (g := (mkF m 1 #[.val (.ref wW3)] [(.ref wW3)])) rfl (hb hby own_d1_1)
  obtain ⟨T2, X2, e2, st2⟩ := getS2 X1 hx hZ hown (host := "") (Or.inl (hw _ (List.mem_of_getElem? (i := 49) rfl))) Via.refl e1 (G.2.2.2.2.2.2.2.2.2.2.2.2.1.ext O0.2) (g := (mkF m 8 #[.val (.ref wW3)] [(.ref wW3)])) rfl (hb hby own_d1_8)
  obtain ⟨fs, hr, hrun, hended, hW, hsame⟩ := X2.leave (v := some (.int (0 : Int32))) (fun h => by rw [Bd.returns] at h; cases h)
  refine ⟨_, _, pre0 _ ?_, hrun, hended, _, _, rfl, ?_, ⟨_, rfl⟩, hW, hsame.mono (by decide) (by decide)⟩
  · show Steps p.tables e below (s₁.setTop (mkF m 0 #[.val (.ref wW3)] [])) _
    refine XS.aloadN X0.here hx rfl (hb hby own_d1_0) rfl rfl ?_
    show Steps p.tables e below (s₁.setTop (mkF m 1 #[.val (.ref wW3)] [(.ref wW3)])) _
    refine st1 _ ?_
    show Steps p.tables e below (T1.setTop (mkF m 4 #[.val (.ref wW3)] [(.ref wW1), (.ref wW3)])) _
    refine Jvm.RoadKit.acmp (g := (mkF m 4 #[.val (.ref wW3)] [(.ref wW1), (.ref wW3)])) X1 hx rfl rfl rfl (pc0 := 4) (pc' := 7) (same := false) rfl (hb hby own_d1_4) rfl (decide_eq_false fun q => (Ne.symm G.2.2.2.2.2.2.2.2.2.2.2.2.2.2.2.2.2.2.2.2.2.2.2.2.2.2.2.2.2.2.2.2.2.2.2.2.2.2.2.1) (Value.ref.inj q)) (by decide) (by decide) ?_
    show Steps p.tables e below (T1.setTop (mkF m 7 #[.val (.ref wW3)] [])) _
    refine XS.aloadN X1.here hx rfl (hb hby own_d1_7) rfl rfl ?_
    show Steps p.tables e below (T1.setTop (mkF m 8 #[.val (.ref wW3)] [(.ref wW3)])) _
    refine st2 _ ?_
    show Steps p.tables e below (T2.setTop (mkF m 11 #[.val (.ref wW3)] [(.ref wCW1), (.ref wW3)])) _
    refine Jvm.RoadKit.acmp (g := (mkF m 11 #[.val (.ref wW3)] [(.ref wCW1), (.ref wW3)])) X2 hx rfl rfl rfl (pc0 := 11) (pc' := 18) (same := false) rfl (hb hby own_d1_11) rfl (decide_eq_false fun q => G.2.2.2.2.2.2.2.2.2.2.2.2.2.2.2.2.2.2.2.2.2.2.2.2.2.2.2.2.2.2.2.2.2.2.2.2.2.2.2.2.2.2.2.2.2.2.2.2.2.2.2.2.2.2.2.2.2.2.2.2.2.2.1 (Value.ref.inj q)) (by decide) (by decide) ?_
    show Steps p.tables e below (T2.setTop (mkF m 18 #[.val (.ref wW3)] [])) _
    refine XS.iconst X2.here hx rfl (hb hby own_d1_18) ?_
    show Steps p.tables e below (T2.setTop (mkF m 19 #[.val (.ref wW3)] [(.int (0 : Int32))])) _
    exact retN X2 hx (t := .boolean) Bd.returns (by simp) (hb hby own_d1_19) hr
  · show OwnQ _ h0 n0 _ T2.heap _
    exact ⟨rfl, N0, e2⟩
set_option maxRecDepth 65536 in
set_option maxHeartbeats 40000000 in
theorem own_ordinal_10 (l : Launch) (Z : State) (a0 : Array Value) (hw : ∀ d ∈ tables_1, d.before a0 Z = true) (ws : List Jvm.Cond) (wW1 : Addr) (wW2 : Addr) (wW3 : Addr) (wW4 : Addr) (wW5 : Addr) (wW6 : Addr) (wCW1 : Addr) (wCW2 : Addr) (wCW3 : Addr) (wCW4 : Addr) (wCW5 : Addr) (wCW6 : Addr) (G : OwnG Z wW1 wW2 wW3 wW4 wW5 wW6 wCW1 wCW2 wCW3 wCW4 wCW5 wCW6) (h0 : Heap) (n0 : Nat) (O0 : Old Z n0 h0) :
    MetFree l (⟨"java/lang/Enum", "ordinal", "()I"⟩ : MethodName) (head1 (Jvm.Cond.code (⟨"java/lang/Enum", "ordinal", "()I"⟩ : MethodName) jdk_37_method_2_code 1 (some .int) :: ws) ({ frames := 0, cells := 0, slots := 0, locals := 0 } : Room)) (fun a U => a = #[(.ref wW3)] ∧ Z.Warmed39 U.vm ∧ U.heap = h0) (fun _ _ _ _ _ => True) (fun _ U o U' => ∃ v L, o = .returned v ∧ OwnQ (some (.int (2 : Int32))) h0 n0 v U'.heap L ∧ FrameEnd U o U' L ({ frames := 0, cells := 0, slots := 0, locals := 0 } : Room).cells ({ frames := 0, cells := 0, slots := 0, locals := 0 } : Room).slots) := by
  refine MetFree.of_bodySF (plainFor_of_name own_pn_3) hisR ?_
  intro p e s m args below meth c s₁ Bd hml0 hP hK
  obtain ⟨rfl, hZ, hh⟩ := hP
  have hx := Bd.exec
  have hby := Bd.bytes
  have hml : c.maxLocals = 1 := hml0
  have hown : s.vm.findClass "java/lang/Enum" = some m.cls := findClass_of_methodNamed Bd.named
  have hnm := (name_of_methodNamed Bd.named Bd.method).1
  have X0 : Stand p l e ({ frames := 0, cells := 0, slots := 0, locals := 0 } : Room) s m #[(.ref wW3)] below meth c s₁ [] 0 0 := Stand.of_body Bd
  have e0 : s₁.heap = h0 := by rw [← hh, Bd.state]; rfl
  have N0 := Fr.nil n0
  have pre0 : ∀ t, Steps p.tables e below (s₁.setTop (mkF m 0 #[.val (.ref wW3)] [])) t → Steps p.tables e below (s₁.setTop (entryFrame m #[(.ref wW3)] 1)) t := fun t k => castTop (own_ef_3_R m wW3) k
  obtain ⟨T1, X1, e1, st1⟩ := getF X0 hx hZ hown (host := "") (Or.inl (hw _ (List.mem_of_getElem? (i := 47) rfl))) Via.refl e0 (G.2.2.2.2.2.2.2.2.2.2.2.2.2.2.2.2.2.2.2.2.2.2.2.2.2.2.2.2.1.ext O0.2) (g := (mkF m 1 #[.val (.ref wW3)] [(.ref wW3)])) rfl rfl (hb hby own_d3_1)
  obtain ⟨fs, hr, hrun, hended, hW, hsame⟩ := X1.leave (v := some (.int (2 : Int32))) (fun h => by rw [Bd.returns] at h; cases h)
  refine ⟨_, _, pre0 _ ?_, hrun, hended, _, _, rfl, ?_, ⟨_, rfl⟩, hW, hsame.mono (by decide) (by decide)⟩
  · show Steps p.tables e below (s₁.setTop (mkF m 0 #[.val (.ref wW3)] [])) _
    refine XS.aloadN X0.here hx rfl (hb hby own_d3_0) rfl rfl ?_
    show Steps p.tables e below (s₁.setTop (mkF m 1 #[.val (.ref wW3)] [(.ref wW3)])) _
    refine st1 _ ?_
    show Steps p.tables e below (T1.setTop (mkF m 4 #[.val (.ref wW3)] [(.int (2 : Int32))])) _
    exact retI X1 hx Bd.returns (hb hby own_d3_4) hr
  · show OwnQ _ h0 n0 _ T1.heap _
    exact ⟨rfl, N0, e1⟩
theorem own_d2_56 : decode prog_18_method_5_code 56 = .ok (.getstatic 28, 3) := by decide +kernel
theorem own_d2_59 : decode prog_18_method_5_code 59 = .ok (.goto 22, 3) := by decide +kernel
set_option maxRecDepth 65536 in
set_option maxHeartbeats 40000000 in
theorem own_atInstant_9 (l : Launch) (Z : State) (a0 : Array Value) (hw : ∀ d ∈ tables_1, d.before a0 Z = true) (ws : List Jvm.Cond) (wW1 : Addr) (wW2 : Addr) (wW3 : Addr) (wW4 : Addr) (wW5 : Addr) (wW6 : Addr) (wCW1 : Addr) (wCW2 : Addr) (wCW3 : Addr) (wCW4 : Addr) (wCW5 : Addr) (wCW6 : Addr) (G : OwnG Z wW1 wW2 wW3 wW4 wW5 wW6 wCW1 wCW2 wCW3 wCW4 wCW5 wCW6) (h0 : Heap) (n0 : Nat) (O0 : Old Z n0 h0) :
    MetFree l (⟨"com/example/credlib/credlib/engine/Rule", "atInstant", "()Lcom/example/credlib/credlib/engine/Rule;"⟩ : MethodName) (head1 (Jvm.Cond.code (⟨"com/example/credlib/credlib/engine/Rule", "atInstant", "()Lcom/example/credlib/credlib/engine/Rule;"⟩ : MethodName) prog_18_method_5_code 1 (some (.object "com/example/credlib/credlib/engine/Rule")) :: ws) ({ frames := 1, cells := 0, slots := 0, locals := 12 } : Room)) (fun a U => a = #[(.ref wW3)] ∧ Z.Warmed39 U.vm ∧ U.heap = h0) (fun _ _ _ _ _ => True) (fun _ U o U' => ∃ v L, o = .returned v ∧ OwnQ (some (.ref wCW3)) h0 n0 v U'.heap L ∧ FrameEnd U o U' L ({ frames := 1, cells := 0, slots := 0, locals := 12 } : Room).cells ({ frames := 1, cells := 0, slots := 0, locals := 12 } : Room).slots) := by
  refine MetFree.of_bodySF (plainFor_of_name own_pn_1) hisR ?_
  intro p e s m args below meth c s₁ Bd hml0 hP hK
  obtain ⟨rfl, hZ, hh⟩ := hP
  have hx := Bd.exec
  have hby := Bd.bytes
  have hml : c.maxLocals = 1 := hml0
  have hown : s.vm.findClass "com/example/credlib/credlib/engine/Rule" = some m.cls := findClass_of_methodNamed Bd.named
  have hnm := (name_of_methodNamed Bd.named Bd.method).1
  have X0 : Stand p l e ({ frames := 1, cells := 0, slots := 0, locals := 12 } : Room) s m #[(.ref wW3)] below meth c s₁ [] 0 0 := Stand.of_body Bd
  have e0 : s₁.heap = h0 := by rw [← hh, Bd.state]; rfl
  have N0 := Fr.nil n0
  have pre0 : ∀ t, Steps p.tables e below (s₁.setTop (mkF m 0 #[.val (.ref wW3)] [])) t → Steps p.tables e below (s₁.setTop (entryFrame m #[(.ref wW3)] 1)) t := fun t k => castTop (own_ef_2_R m wW3) k
  obtain ⟨cq1, kq1, q1a, q1b, q1c⟩ := isOf hZ e0 (G.2.2.2.2.2.1.ext O0.2)
  obtain ⟨_, _, ⟨T1, L1, k1, n1⟩, -, X1, ⟨Lc1, hQ1, l1, y1, z1⟩, st1⟩ := X0.virtualBackUp hx (x := (⟨"com/example/credlib/credlib/engine/Rule", "ordinal", "()I"⟩ : MethodName)) (y := (⟨"java/lang/Enum", "ordinal", "()I"⟩ : MethodName)) (owner := "java/lang/Enum") hown (mvT hZ (hw _ (List.mem_of_getElem? (i := 40) rfl))) (mvT hZ (hw _ (List.mem_of_getElem? (i := 41) rfl))) (mvT hZ (hw _ (List.mem_of_getElem? (i := 42) rfl))) (by decide) (mvT hZ (hw _ (List.mem_of_getElem? (i := 44) rfl))) (mvT hZ (hw _ (List.mem_of_getElem? (i := 43) rfl))) (backOf (W := 0) (own_ordinal_10 l Z a0 hw [] wW1 wW2 wW3 wW4 wW5 wW6 wCW1 wCW2 wCW3 wCW4 wCW5 wCW6 G h0 n0 O0) hZ (hw _ (List.mem_of_getElem? (i := 46) rfl)) (hw _ (List.mem_of_getElem? (i := 45) rfl)) (by decide) (by decide)) q1a q1c (g := (mkF m 1 #[.val (.ref wW3)] [(.ref wW3)])) rfl (by rw [hml]; rfl) (Steps.refl _) (argsL := []) (rest := []) (lenOf own_pd_1 rfl) rfl (by show 2 * 0 + _ ≤ _; exact Nat.le_of_eq rfl) (hb hby own_d2_1) (fun _ _ => ⟨rfl, e0, (by decide : 0 + 0 ≤ _), (by decide : 0 + 0 ≤ _)⟩)
  dsimp only [Pt.U, Pt.locs, Pt.cells, Pt.slots] at X1 l1 y1 z1 st1 hQ1
  subst l1 y1 z1
  obtain ⟨rfl, N1q, e1⟩ := hQ1
  have N1 := Fr.app N0 N1q
  obtain ⟨T2, X2, e2, st2⟩ := getS2 X1 hx hZ hown (host := "") (Or.inl (hw _ (List.mem_of_getElem? (i := 51) rfl))) Via.refl e1 (G.2.2.2.2.2.2.2.2.2.2.2.2.2.2.2.2.1.ext O0.2) (g := (mkF m 56 #[.val (.ref wW3)] [])) rfl (hb hby own_d2_56)
  obtain ⟨fs, hr, hrun, hended, hW, hsame⟩ := X2.leave (v := some (.ref wCW3)) (fun h => by rw [Bd.returns] at h; cases h)
  refine ⟨_, _, pre0 _ ?_, hrun, hended, _, _, rfl, ?_, ⟨_, rfl⟩, hW, hsame.mono (by decide) (by decide)⟩
  · show Steps p.tables e below (s₁.setTop (mkF m 0 #[.val (.ref wW3)] [])) _
    refine XS.aloadN X0.here hx rfl (hb hby own_d2_0) rfl rfl ?_
    show Steps p.tables e below (s₁.setTop (mkF m 1 #[.val (.ref wW3)] [(.ref wW3)])) _
    refine st1.trans ?_
    show Steps p.tables e below (T1.setTop (mkF m 4 #[.val (.ref wW3)] [(.int (2 : Int32))])) _
    refine XS.tswIn X1.here hx rfl (o := 52) (pc0 := 4) (pc' := 56) rfl (hb hby own_d2_4) rfl (by decide) rfl (by decide) (by decide) ?_
    show Steps p.tables e below (T1.setTop (mkF m 56 #[.val (.ref wW3)] [])) _
    refine st2 _ ?_
    show Steps p.tables e below (T2.setTop (mkF m 59 #[.val (.ref wW3)] [(.ref wCW3)])) _
    refine XS.goto X2.here hx rfl (pc0 := 59) (pc' := 81) rfl (hb hby own_d2_59) (by decide) (by decide) ?_
    show Steps p.tables e below (T2.setTop (mkF m 81 #[.val (.ref wW3)] [(.ref wCW3)])) _
    jvm_step X2.here [X2.here.top, hx, (hb hby own_d2_81), X2.method', Bd.returns, Value.isRef, FieldType.isReference]
    first | (intro acts; rw [hr _ acts rfl rfl rfl]) | rw [hr _ _ rfl rfl rfl]
    exact Steps.refl _
  · show OwnQ _ h0 n0 _ T2.heap _
    exact ⟨rfl, N1, e2⟩
set_option maxRecDepth 65536 in
set_option maxHeartbeats 40000000 in
theorem own_statesCredential_11 (l : Launch) (Z : State) (a0 : Array Value) (hw : ∀ d ∈ tables_1, d.before a0 Z = true) (ws : List Jvm.Cond) (wW1 : Addr) (wW2 : Addr) (wW3 : Addr) (wW4 : Addr) (wW5 : Addr) (wW6 : Addr) (wCW1 : Addr) (wCW2 : Addr) (wCW3 : Addr) (wCW4 : Addr) (wCW5 : Addr) (wCW6 : Addr) (G : OwnG Z wW1 wW2 wW3 wW4 wW5 wW6 wCW1 wCW2 wCW3 wCW4 wCW5 wCW6) (h0 : Heap) (n0 : Nat) (O0 : Old Z n0 h0) :
    MetFree l (⟨"com/example/credlib/credlib/engine/Rule", "statesCredential", "()Z"⟩ : MethodName) (head1 (Jvm.Cond.code (⟨"com/example/credlib/credlib/engine/Rule", "statesCredential", "()Z"⟩ : MethodName) prog_18_method_4_code 1 (some .boolean) :: ws) ({ frames := 0, cells := 0, slots := 0, locals := 0 } : Room)) (fun a U => a = #[(.ref wCW3)] ∧ Z.Warmed39 U.vm ∧ U.heap = h0) (fun _ _ _ _ _ => True) (fun _ U o U' => ∃ v L, o = .returned v ∧ OwnQ (some (.int (0 : Int32))) h0 n0 v U'.heap L ∧ FrameEnd U o U' L ({ frames := 0, cells := 0, slots := 0, locals := 0 } : Room).cells ({ frames := 0, cells := 0, slots := 0, locals := 0 } : Room).slots) := by
  refine MetFree.of_bodySF (plainFor_of_name own_pn_1) hisR ?_
  intro p e s m args below meth c s₁ Bd hml0 hP hK
  obtain ⟨rfl, hZ, hh⟩ := hP
  have hx := Bd.exec
  have hby := Bd.bytes
  have hml : c.maxLocals = 1 := hml0
  have hown : s.vm.findClass "com/example/credlib/credlib/engine/Rule" = some m.cls := findClass_of_methodNamed Bd.named
  have hnm := (name_of_methodNamed Bd.named Bd.method).1
  have X0 : Stand p l e ({ frames := 0, cells := 0, slots := 0, locals := 0 } : Room) s m #[(.ref wCW3)] below meth c s₁ [] 0 0 := Stand.of_body Bd
  have e0 : s₁.heap = h0 := by rw [← hh, Bd.state]; rfl
  have N0 := Fr.nil n0
  have pre0 : ∀ t, Steps p.tables e below (s₁.setTop (mkF m 0 #[.val (.ref wCW3)] [])) t → Steps p.tables e below (s₁.setTop (entryFrame m #[(.ref wCW3)] 1)) t := fun t k => castTop (own_ef_1_R m wCW3) k
  obtain ⟨T1, X1, e1, st1⟩ := getS2 X0 hx hZ hown (host := "") (Or.inl (hw _ (List.mem_of_getElem? (i := 34) rfl))) Via.refl e0 (G.1.ext O0.2) (g := (mkF m 1 #[.val (.ref wCW3)] [(.ref wCW3)])) rfl (hb hby own_d1_1)
  obtain ⟨T2, X2, e2, st2⟩ := getS2 X1 hx hZ hown (host := "") (Or.inl (hw _ (List.mem_of_getElem? (i := 49) rfl))) Via.refl e1 (G.2.2.2.2.2.2.2.2.2.2.2.2.1.ext O0.2) (g := (mkF m 8 #[.val (.ref wCW3)] [(.ref wCW3)])) rfl (hb hby own_d1_8)
  obtain ⟨fs, hr, hrun, hended, hW, hsame⟩ := X2.leave (v := some (.int (0 : Int32))) (fun h => by rw [Bd.returns] at h; cases h)
  refine ⟨_, _, pre0 _ ?_, hrun, hended, _, _, rfl, ?_, ⟨_, rfl⟩, hW, hsame.mono (by decide) (by decide)⟩
  · show Steps p.tables e below (s₁.setTop (mkF m 0 #[.val (.ref wCW3)] [])) _
    refine XS.aloadN X0.here hx rfl (hb hby own_d1_0) rfl rfl ?_
    show Steps p.tables e below (s₁.setTop (mkF m 1 #[.val (.ref wCW3)] [(.ref wCW3)])) _
    refine st1 _ ?_
    show Steps p.tables e below (T1.setTop (mkF m 4 #[.val (.ref wCW3)] [(.ref wW1), (.ref wCW3)])) _
    refine Jvm.RoadKit.acmp (g := (mkF m 4 #[.val (.ref wCW3)] [(.ref wW1), (.ref wCW3)])) X1 hx rfl rfl rfl (pc0 := 4) (pc' := 7) (same := false) rfl (hb hby own_d1_4) rfl (decide_eq_false fun q => (Ne.symm G.2.2.2.2.2.2.2.2.2.2.2.2.2.2.2.2.2.2.2.2.2.2.2.2.2.2.2.2.2.2.2.2.2.2.2.2.2.2.2.2.1) (Value.ref.inj q)) (by decide) (by decide) ?_
    show Steps p.tables e below (T1.setTop (mkF m 7 #[.val (.ref wCW3)] [])) _
    refine XS.aloadN X1.here hx rfl (hb hby own_d1_7) rfl rfl ?_
    show Steps p.tables e below (T1.setTop (mkF m 8 #[.val (.ref wCW3)] [(.ref wCW3)])) _
    refine st2 _ ?_
    show Steps p.tables e below (T2.setTop (mkF m 11 #[.val (.ref wCW3)] [(.ref wCW1), (.ref wCW3)])) _
    refine Jvm.RoadKit.acmp (g := (mkF m 11 #[.val (.ref wCW3)] [(.ref wCW1), (.ref wCW3)])) X2 hx rfl rfl rfl (pc0 := 11) (pc' := 18) (same := false) rfl (hb hby own_d1_11) rfl (decide_eq_false fun q => (Ne.symm G.2.2.2.2.2.2.2.2.2.2.2.2.2.2.2.2.2.2.2.2.2.2.2.2.2.2.2.2.2.2.2.2.2.2.2.2.2.2.2.2.2.2.2.2.2.2.2.2.1) (Value.ref.inj q)) (by decide) (by decide) ?_
    show Steps p.tables e below (T2.setTop (mkF m 18 #[.val (.ref wCW3)] [])) _
    refine XS.iconst X2.here hx rfl (hb hby own_d1_18) ?_
    show Steps p.tables e below (T2.setTop (mkF m 19 #[.val (.ref wCW3)] [(.int (0 : Int32))])) _
    exact retN X2 hx (t := .boolean) Bd.returns (by simp) (hb hby own_d1_19) hr
  · show OwnQ _ h0 n0 _ T2.heap _
    exact ⟨rfl, N0, e2⟩
set_option maxRecDepth 65536 in
set_option maxHeartbeats 40000000 in
theorem own_law_2 (l : Launch) (Z : State) (a0 : Array Value) (hw : ∀ d ∈ tables_1, d.before a0 Z = true) (ws : List Jvm.Cond) (wW1 : Addr) (wW2 : Addr) (wW3 : Addr) (wW4 : Addr) (wW5 : Addr) (wW6 : Addr) (wCW1 : Addr) (wCW2 : Addr) (wCW3 : Addr) (wCW4 : Addr) (wCW5 : Addr) (wCW6 : Addr) (G : OwnG Z wW1 wW2 wW3 wW4 wW5 wW6 wCW1 wCW2 wCW3 wCW4 wCW5 wCW6) (h0 : Heap) (n0 : Nat) (O0 : Old Z n0 h0) (p1 : Int32) (hi : ((p1 &&& (2147483647 : Int32)) % (12 : Int32)) = (2 : Int32)) :
    MetFree l x (head1 (Jvm.Cond.code x code maxLocals ret :: ws) room_1) (fun a U => a = #[(.int p1)] ∧ Z.Warmed39 U.vm ∧ U.heap = h0) (fun _ _ _ _ _ => True) (fun _ U o U' => ∃ v L, o = .returned v ∧ (v = some (.int 1) ∧ Fr n0 L) ∧ FrameEnd U o U' L room_1.cells room_1.slots) := by
  refine MetFree.of_bodySF (plainFor_of_name own_pn_0) hisR ?_
  intro p e s m args below meth c s₁ Bd hml0 hP hK
  obtain ⟨rfl, hZ, hh⟩ := hP
  have hx := Bd.exec
  have hby := Bd.bytes
  have hml : c.maxLocals = 7 := hml0
  have hown : s.vm.findClass "com/example/credlib/credlib/engine/RuleStatesCredentialPinLaw" = some m.cls := findClass_of_methodNamed Bd.named
  have hnm := (name_of_methodNamed Bd.named Bd.method).1
  have X0 : Stand p l e room_1 s m #[(.int p1)] below meth c s₁ [] 0 0 := Stand.of_body Bd
  have e0 : s₁.heap = h0 := by rw [← hh, Bd.state]; rfl
  have N0 := Fr.nil n0
  have pre0 : ∀ t, Steps p.tables e below (s₁.setTop (mkF m 0 #[.val (.int p1), .unset, .unset, .unset, .unset, .unset, .unset] [])) t → Steps p.tables e below (s₁.setTop (entryFrame m #[(.int p1)] maxLocals)) t := fun t k => castTop (own_ef_0_I m p1) k
  obtain ⟨T1, h1, k1, X1, e1, E1, A1, Ov1, st1⟩ := newR X0 hx hZ hown (hw _ (List.mem_of_getElem? (i := 0) rfl)) (hw _ (List.mem_of_getElem? (i := 1) rfl)) e0 (g := (mkF m 2 #[.val (.int p1), .unset, .unset, .unset, .unset, .unset, .unset] [(.int (12 : Int32))])) rfl (hb hby at_2) rfl (by decide) (cap := 12) (by decide) (by decide) (by decide) (by decide)
  obtain ⟨b1, g1⟩ : ∃ z, z = h0.size := ⟨_, rfl⟩
  rw [← g1] at A1 st1
  have ge_b1 : n0 ≤ b1 := own_new O0 g1
  have sz_b1 : h0.size ≤ b1 := Nat.le_trans (Keep.refl h0 []).1 (Nat.le_of_eq g1.symm)
  have O1 := O0.ext E1
  have K1 := (Keep.refl h0 []).ext E1
  have V1 : Arv Z h1 b1 k1 (.object "com/example/credlib/credlib/engine/Rule") (12 : Int32) [.null, .null, .null, .null, .null, .null, .null, .null, .null, .null, .null, .null] .null := (Arv.new A1 (by decide)).pad (pad_rep [] .null 12)
  obtain ⟨T2, X2, e2, st2⟩ := getS2 X1 hx hZ hown (host := "") (Or.inl (hw _ (List.mem_of_getElem? (i := 2) rfl))) Via.refl e1 (G.1.ext O1.2) (g := (mkF m 7 #[.val (.int p1), .unset, .unset, .unset, .unset, .unset, .unset] [(.int (0 : Int32)), (.ref b1), (.ref b1)])) rfl (hb hby at_7)
  obtain ⟨cl3, Ar3, qk3, Sz3, Nn3, Hs3, Gs3⟩ := id (V1)
  have hin3 : ¬ ((0 : Int32) < 0 ∨ cl3.slots.size ≤ ((0 : Int32)).toNatClampNeg) := inb_of Sz3 ⟨by decide, by decide⟩
  obtain ⟨T3, h3, X3, e3, W3, st3⟩ := stR X2 hx hZ e2 Ar3 (j := (0 : Int32)) hin3 rfl (Sto.ofV Ar3 qk3 Ov1 (Ins.self (G.2.1.ext O1.2))) (g := (mkF m 10 #[.val (.int p1), .unset, .unset, .unset, .unset, .unset, .unset] [(.ref wW1), (.int (0 : Int32)), (.ref b1), (.ref b1)])) rfl rfl (hb hby at_10)
  have V3 := Arv.set Ar3 qk3 Sz3 Nn3 Hs3 Gs3 rfl W3 0 rfl (Nat.le_of_ble_eq_true rfl)
  have O3 := O1.wr W3 ge_b1
  have K3 := K1.wr W3 (Or.inr sz_b1)
  have N3 := Fr.snoc X3 N0 ge_b1
  obtain ⟨T4, X4, e4, st4⟩ := getS2 X3 hx hZ hown (host := "") (Or.inl (hw _ (List.mem_of_getElem? (i := 6) rfl))) Via.refl e3 (G.2.2.1.ext O3.2) (g := (mkF m 13 #[.val (.int p1), .unset, .unset, .unset, .unset, .unset, .unset] [(.int (1 : Int32)), (.ref b1), (.ref b1)])) rfl (hb hby at_13)
  obtain ⟨cl5, Ar5, qk5, Sz5, Nn5, Hs5, Gs5⟩ := id (V3)
  have hin5 : ¬ ((1 : Int32) < 0 ∨ cl5.slots.size ≤ ((1 : Int32)).toNatClampNeg) := inb_of Sz5 ⟨by decide, by decide⟩
  obtain ⟨T5, h5, X5, e5, W5, st5⟩ := stR X4 hx hZ e4 Ar5 (j := (1 : Int32)) hin5 rfl (Sto.ofV Ar5 qk5 Ov1 (Ins.self (G.2.2.2.1.ext O3.2))) (g := (mkF m 16 #[.val (.int p1), .unset, .unset, .unset, .unset, .unset, .unset] [(.ref wW2), (.int (1 : Int32)), (.ref b1), (.ref b1)])) rfl rfl (hb hby at_16)
  have V5 := Arv.set Ar5 qk5 Sz5 Nn5 Hs5 Gs5 rfl W5 1 rfl (Nat.le_of_ble_eq_true rfl)
  have O5 := O3.wr W5 ge_b1
  have K5 := K3.wr W5 (Or.inr sz_b1)
  have N5 := Fr.snoc X5 N3 ge_b1
  obtain ⟨T6, X6, e6, st6⟩ := getS2 X5 hx hZ hown (host := "") (Or.inl (hw _ (List.mem_of_getElem? (i := 8) rfl))) Via.refl e5 (G.2.2.2.2.1.ext O5.2) (g := (mkF m 19 #[.val (.int p1), .unset, .unset, .unset, .unset, .unset, .unset] [(.int (2 : Int32)), (.ref b1), (.ref b1)])) rfl (hb hby at_19)
  obtain ⟨cl7, Ar7, qk7, Sz7, Nn7, Hs7, Gs7⟩ := id (V5)
  have hin7 : ¬ ((2 : Int32) < 0 ∨ cl7.slots.size ≤ ((2 : Int32)).toNatClampNeg) := inb_of Sz7 ⟨by decide, by decide⟩
  obtain ⟨T7, h7, X7, e7, W7, st7⟩ := stR X6 hx hZ e6 Ar7 (j := (2 : Int32)) hin7 rfl (Sto.ofV Ar7 qk7 Ov1 (Ins.self (G.2.2.2.2.2.1.ext O5.2))) (g := (mkF m 22 #[.val (.int p1), .unset, .unset, .unset, .unset, .unset, .unset] [(.ref wW3), (.int (2 : Int32)), (.ref b1), (.ref b1)])) rfl rfl (hb hby at_22)
  have V7 := Arv.set Ar7 qk7 Sz7 Nn7 Hs7 Gs7 rfl W7 2 rfl (Nat.le_of_ble_eq_true rfl)
  have O7 := O5.wr W7 ge_b1
  have K7 := K5.wr W7 (Or.inr sz_b1)
  have N7 := Fr.snoc X7 N5 ge_b1
  obtain ⟨T8, X8, e8, st8⟩ := getS2 X7 hx hZ hown (host := "") (Or.inl (hw _ (List.mem_of_getElem? (i := 10) rfl))) Via.refl e7 (G.2.2.2.2.2.2.1.ext O7.2) (g := (mkF m 25 #[.val (.int p1), .unset, .unset, .unset, .unset, .unset, .unset] [(.int (3 : Int32)), (.ref b1), (.ref b1)])) rfl (hb hby at_25)
  obtain ⟨cl9, Ar9, qk9, Sz9, Nn9, Hs9, Gs9⟩ := id (V7)
  have hin9 : ¬ ((3 : Int32) < 0 ∨ cl9.slots.size ≤ ((3 : Int32)).toNatClampNeg) := inb_of Sz9 ⟨by decide, by decide⟩
  obtain ⟨T9, h9, X9, e9, W9, st9⟩ := stR X8 hx hZ e8 Ar9 (j := (3 : Int32)) hin9 rfl (Sto.ofV Ar9 qk9 Ov1 (Ins.self (G.2.2.2.2.2.2.2.1.ext O7.2))) (g := (mkF m 28 #[.val (.int p1), .unset, .unset, .unset, .unset, .unset, .unset] [(.ref wW4), (.int (3 : Int32)), (.ref b1), (.ref b1)])) rfl rfl (hb hby at_28)
  have V9 := Arv.set Ar9 qk9 Sz9 Nn9 Hs9 Gs9 rfl W9 3 rfl (Nat.le_of_ble_eq_true rfl)
  have O9 := O7.wr W9 ge_b1
  have K9 := K7.wr W9 (Or.inr sz_b1)
  have N9 := Fr.snoc X9 N7 ge_b1
  obtain ⟨T10, X10, e10, st10⟩ := getS2 X9 hx hZ hown (host := "") (Or.inl (hw _ (List.mem_of_getElem? (i := 12) rfl))) Via.refl e9 (G.2.2.2.2.2.2.2.2.1.ext O9.2) (g := (mkF m 31 #[.val (.int p1), .unset, .unset, .unset, .unset, .unset, .unset] [(.int (4 : Int32)), (.ref b1), (.ref b1)])) rfl (hb hby at_31)
  obtain ⟨cl11, Ar11, qk11, Sz11, Nn11, Hs11, Gs11⟩ := id (V9)
  have hin11 : ¬ ((4 : Int32) < 0 ∨ cl11.slots.size ≤ ((4 : Int32)).toNatClampNeg) := inb_of Sz11 ⟨by decide, by decide⟩
  obtain ⟨T11, h11, X11, e11, W11, st11⟩ := stR X10 hx hZ e10 Ar11 (j := (4 : Int32)) hin11 rfl (Sto.ofV Ar11 qk11 Ov1 (Ins.self (G.2.2.2.2.2.2.2.2.2.1.ext O9.2))) (g := (mkF m 34 #[.val (.int p1), .unset, .unset, .unset, .unset, .unset, .unset] [(.ref wW5), (.int (4 : Int32)), (.ref b1), (.ref b1)])) rfl rfl (hb hby at_34)
  have V11 := Arv.set Ar11 qk11 Sz11 Nn11 Hs11 Gs11 rfl W11 4 rfl (Nat.le_of_ble_eq_true rfl)
  have O11 := O9.wr W11 ge_b1
  have K11 := K9.wr W11 (Or.inr sz_b1)
  have N11 := Fr.snoc X11 N9 ge_b1
  obtain ⟨T12, X12, e12, st12⟩ := getS2 X11 hx hZ hown (host := "") (Or.inl (hw _ (List.mem_of_getElem? (i := 14) rfl))) Via.refl e11 (G.2.2.2.2.2.2.2.2.2.2.1.ext O11.2) (g := (mkF m 37 #[.val (.int p1), .unset, .unset, .unset, .unset, .unset, .unset] [(.int (5 : Int32)), (.ref b1), (.ref b1)])) rfl (hb hby at_37)
  obtain ⟨cl13, Ar13, qk13, Sz13, Nn13, Hs13, Gs13⟩ := id (V11)
  have hin13 : ¬ ((5 : Int32) < 0 ∨ cl13.slots.size ≤ ((5 : Int32)).toNatClampNeg) := inb_of Sz13 ⟨by decide, by decide⟩
  obtain ⟨T13, h13, X13, e13, W13, st13⟩ := stR X12 hx hZ e12 Ar13 (j := (5 : Int32)) hin13 rfl (Sto.ofV Ar13 qk13 Ov1 (Ins.self (G.2.2.2.2.2.2.2.2.2.2.2.1.ext O11.2))) (g := (mkF m 40 #[.val (.int p1), .unset, .unset, .unset, .unset, .unset, .unset] [(.ref wW6), (.int (5 : Int32)), (.ref b1), (.ref b1)])) rfl rfl (hb hby at_40)
  have V13 := Arv.set Ar13 qk13 Sz13 Nn13 Hs13 Gs13 rfl W13 5 rfl (Nat.le_of_ble_eq_true rfl)
  have O13 := O11.wr W13 ge_b1
  have K13 := K11.wr W13 (Or.inr sz_b1)
  have N13 := Fr.snoc X13 N11 ge_b1
  obtain ⟨T14, X14, e14, st14⟩ := getS2 X13 hx hZ hown (host := "") (Or.inl (hw _ (List.mem_of_getElem? (i := 16) rfl))) Via.refl e13 (G.2.2.2.2.2.2.2.2.2.2.2.2.1.ext O13.2) (g := (mkF m 44 #[.val (.int p1), .unset, .unset, .unset, .unset, .unset, .unset] [(.int (6 : Int32)), (.ref b1), (.ref b1)])) rfl (hb hby at_44)
  obtain ⟨cl15, Ar15, qk15, Sz15, Nn15, Hs15, Gs15⟩ := id (V13)
  have hin15 : ¬ ((6 : Int32) < 0 ∨ cl15.slots.size ≤ ((6 : Int32)).toNatClampNeg) := inb_of Sz15 ⟨by decide, by decide⟩
  obtain ⟨T15, h15, X15, e15, W15, st15⟩ := stR X14 hx hZ e14 Ar15 (j := (6 : Int32)) hin15 rfl (Sto.ofV Ar15 qk15 Ov1 (Ins.self (G.2.2.2.2.2.2.2.2.2.2.2.2.2.1.ext O13.2))) (g := (mkF m 47 #[.val (.int p1), .unset, .unset, .unset, .unset, .unset, .unset] [(.ref wCW1), (.int (6 : Int32)), (.ref b1), (.ref b1)])) rfl rfl (hb hby at_47)
  have V15 := Arv.set Ar15 qk15 Sz15 Nn15 Hs15 Gs15 rfl W15 6 rfl (Nat.le_of_ble_eq_true rfl)
  have O15 := O13.wr W15 ge_b1
  have K15 := K13.wr W15 (Or.inr sz_b1)
  have N15 := Fr.snoc X15 N13 ge_b1
  obtain ⟨T16, X16, e16, st16⟩ := getS2 X15 hx hZ hown (host := "") (Or.inl (hw _ (List.mem_of_getElem? (i := 18) rfl))) Via.refl e15 (G.2.2.2.2.2.2.2.2.2.2.2.2.2.2.1.ext O15.2) (g := (mkF m 51 #[.val (.int p1), .unset, .unset, .unset, .unset, .unset, .unset] [(.int (7 : Int32)), (.ref b1), (.ref b1)])) rfl (hb hby at_51)
  obtain ⟨cl17, Ar17, qk17, Sz17, Nn17, Hs17, Gs17⟩ := id (V15)
  have hin17 : ¬ ((7 : Int32) < 0 ∨ cl17.slots.size ≤ ((7 : Int32)).toNatClampNeg) := inb_of Sz17 ⟨by decide, by decide⟩
  obtain ⟨T17, h17, X17, e17, W17, st17⟩ := stR X16 hx hZ e16 Ar17 (j := (7 : Int32)) hin17 rfl (Sto.ofV Ar17 qk17 Ov1 (Ins.self (G.2.2.2.2.2.2.2.2.2.2.2.2.2.2.2.1.ext O15.2))) (g := (mkF m 54 #[.val (.int p1), .unset, .unset, .unset, .unset, .unset, .unset] [(.ref wCW2), (.int (7 : Int32)), (.ref b1), (.ref b1)])) rfl rfl (hb hby at_54)
  have V17 := Arv.set Ar17 qk17 Sz17 Nn17 Hs17 Gs17 rfl W17 7 rfl (Nat.le_of_ble_eq_true rfl)
  have O17 := O15.wr W17 ge_b1
  have K17 := K15.wr W17 (Or.inr sz_b1)
  have N17 := Fr.snoc X17 N15 ge_b1
  obtain ⟨T18, X18, e18, st18⟩ := getS2 X17 hx hZ hown (host := "") (Or.inl (hw _ (List.mem_of_getElem? (i := 20) rfl))) Via.refl e17 (G.2.2.2.2.2.2.2.2.2.2.2.2.2.2.2.2.1.ext O17.2) (g := (mkF m 58 #[.val (.int p1), .unset, .unset, .unset, .unset, .unset, .unset] [(.int (8 : Int32)), (.ref b1), (.ref b1)])) rfl (hb hby at_58)
  obtain ⟨cl19, Ar19, qk19, Sz19, Nn19, Hs19, Gs19⟩ := id (V17)
  have hin19 : ¬ ((8 : Int32) < 0 ∨ cl19.slots.size ≤ ((8 : Int32)).toNatClampNeg) := inb_of Sz19 ⟨by decide, by decide⟩
  obtain ⟨T19, h19, X19, e19, W19, st19⟩ := stR X18 hx hZ e18 Ar19 (j := (8 : Int32)) hin19 rfl (Sto.ofV Ar19 qk19 Ov1 (Ins.self (G.2.2.2.2.2.2.2.2.2.2.2.2.2.2.2.2.2.1.ext O17.2))) (g := (mkF m 61 #[.val (.int p1), .unset, .unset, .unset, .unset, .unset, .unset] [(.ref wCW3), (.int (8 : Int32)), (.ref b1), (.ref b1)])) rfl rfl (hb hby at_61)
  have V19 := Arv.set Ar19 qk19 Sz19 Nn19 Hs19 Gs19 rfl W19 8 rfl (Nat.le_of_ble_eq_true rfl)
  have O19 := O17.wr W19 ge_b1
  have K19 := K17.wr W19 (Or.inr sz_b1)
  have N19 := Fr.snoc X19 N17 ge_b1
  obtain ⟨T20, X20, e20, st20⟩ := getS2 X19 hx hZ hown (host := "") (Or.inl (hw _ (List.mem_of_getElem? (i := 22) rfl))) Via.refl e19 (G.2.2.2.2.2.2.2.2.2.2.2.2.2.2.2.2.2.2.1.ext O19.2) (g := (mkF m 65 #[.val (.int p1), .unset, .unset, .unset, .unset, .unset, .unset] [(.int (9 : Int32)), (.ref b1), (.ref b1)])) rfl (hb hby at_65)
  obtain ⟨cl21, Ar21, qk21, Sz21, Nn21, Hs21, Gs21⟩ := id (V19)
  have hin21 : ¬ ((9 : Int32) < 0 ∨ cl21.slots.size ≤ ((9 : Int32)).toNatClampNeg) := inb_of Sz21 ⟨by decide, by decide⟩
  obtain ⟨T21, h21, X21, e21, W21, st21⟩ := stR X20 hx hZ e20 Ar21 (j := (9 : Int32)) hin21 rfl (Sto.ofV Ar21 qk21 Ov1 (Ins.self (G.2.2.2.2.2.2.2.2.2.2.2.2.2.2.2.2.2.2.2.1.ext O19.2))) (g := (mkF m 68 #[.val (.int p1), .unset, .unset, .unset, .unset, .unset, .unset] [(.ref wCW4), (.int (9 : Int32)), (.ref b1), (.ref b1)])) rfl rfl (hb hby at_68)
  have V21 := Arv.set Ar21 qk21 Sz21 Nn21 Hs21 Gs21 rfl W21 9 rfl (Nat.le_of_ble_eq_true rfl)
  have O21 := O19.wr W21 ge_b1
  have K21 := K19.wr W21 (Or.inr sz_b1)
  have N21 := Fr.snoc X21 N19 ge_b1
  obtain ⟨T22, X22, e22, st22⟩ := getS2 X21 hx hZ hown (host := "") (Or.inl (hw _ (List.mem_of_getElem? (i := 24) rfl))) Via.refl e21 (G.2.2.2.2.2.2.2.2.2.2.2.2.2.2.2.2.2.2.2.2.1.ext O21.2) (g := (mkF m 72 #[.val (.int p1), .unset, .unset, .unset, .unset, .unset, .unset] [(.int (10 : Int32)), (.ref b1), (.ref b1)])) rfl (hb hby at_72)
  obtain ⟨cl23, Ar23, qk23, Sz23, Nn23, Hs23, Gs23⟩ := id (V21)
  have hin23 : ¬ ((10 : Int32) < 0 ∨ cl23.slots.size ≤ ((10 : Int32)).toNatClampNeg) := inb_of Sz23 ⟨by decide, by decide⟩
  obtain ⟨T23, h23, X23, e23, W23, st23⟩ := stR X22 hx hZ e22 Ar23 (j := (10 : Int32)) hin23 rfl (Sto.ofV Ar23 qk23 Ov1 (Ins.self (G.2.2.2.2.2.2.2.2.2.2.2.2.2.2.2.2.2.2.2.2.2.1.ext O21.2))) (g := (mkF m 75 #[.val (.int p1), .unset, .unset, .unset, .unset, .unset, .unset] [(.ref wCW5), (.int (10 : Int32)), (.ref b1), (.ref b1)])) rfl rfl (hb hby at_75)
  have V23 := Arv.set Ar23 qk23 Sz23 Nn23 Hs23 Gs23 rfl W23 10 rfl (Nat.le_of_ble_eq_true rfl)
  have O23 := O21.wr W23 ge_b1
  have K23 := K21.wr W23 (Or.inr sz_b1)
  have N23 := Fr.snoc X23 N21 ge_b1
  obtain ⟨T24, X24, e24, st24⟩ := getS2 X23 hx hZ hown (host := "") (Or.inl (hw _ (List.mem_of_getElem? (i := 26) rfl))) Via.refl e23 (G.2.2.2.2.2.2.2.2.2.2.2.2.2.2.2.2.2.2.2.2.2.2.1.ext O23.2) (g := (mkF m 79 #[.val (.int p1), .unset, .unset, .unset, .unset, .unset, .unset] [(.int (11 : Int32)), (.ref b1), (.ref b1)])) rfl (hb hby at_79)
  obtain ⟨cl25, Ar25, qk25, Sz25, Nn25, Hs25, Gs25⟩ := id (V23)
  have hin25 : ¬ ((11 : Int32) < 0 ∨ cl25.slots.size ≤ ((11 : Int32)).toNatClampNeg) := inb_of Sz25 ⟨by decide, by decide⟩
  obtain ⟨T25, h25, X25, e25, W25, st25⟩ := stR X24 hx hZ e24 Ar25 (j := (11 : Int32)) hin25 rfl (Sto.ofV Ar25 qk25 Ov1 (Ins.self (G.2.2.2.2.2.2.2.2.2.2.2.2.2.2.2.2.2.2.2.2.2.2.2.1.ext O23.2))) (g := (mkF m 82 #[.val (.int p1), .unset, .unset, .unset, .unset, .unset, .unset] [(.ref wCW6), (.int (11 : Int32)), (.ref b1), (.ref b1)])) rfl rfl (hb hby at_82)
  have V25 := Arv.set Ar25 qk25 Sz25 Nn25 Hs25 Gs25 rfl W25 11 rfl (Nat.le_of_ble_eq_true rfl)
  have O25 := O23.wr W25 ge_b1
  have K25 := K23.wr W25 (Or.inr sz_b1)
  have N25 := Fr.snoc X25 N23 ge_b1
  obtain ⟨cl26, Ar26, qk26, Sz26, Nn26, Hs26, Gs26⟩ := id (V25)
  have hin27 : ¬ ((2 : Int32) < 0 ∨ cl26.slots.size ≤ ((2 : Int32)).toNatClampNeg) := inb_of Sz26 ⟨by decide, by decide⟩
  have hat27 : cl26.slots[((2 : Int32)).toNatClampNeg]? = some (.ref wW3) := Hs26.at hin27 rfl
  obtain ⟨cq28, kq28, q28a, q28b, q28c⟩ := isOf hZ e25 (G.2.2.2.2.2.1.ext O25.2)
  obtain ⟨_, _, ⟨T28, L28, k28, n28⟩, -, X28, ⟨Lc28, hQ28, l28, y28, z28⟩, st28⟩ := X25.virtualBack hx (y := (⟨"com/example/credlib/credlib/engine/Rule", "statesCredential", "()Z"⟩ : MethodName)) (z := (⟨"com/example/credlib/credlib/engine/Rule", "statesCredential", "()Z"⟩ : MethodName)) hown (mvT hZ (hw _ (List.mem_of_getElem? (i := 29) rfl))) (mvT hZ (hw _ (List.mem_of_getElem? (i := 30) rfl))) (notFace_of_selects (args := #[]) (mvT hZ (hw _ (List.mem_of_getElem? (i := 32) rfl)))) (mvT hZ (hw _ (List.mem_of_getElem? (i := 32) rfl))) (mvT hZ (hw _ (List.mem_of_getElem? (i := 31) rfl))) (by decide) (backOf (W := 0) (own_statesCredential_8 l Z a0 hw [] wW1 wW2 wW3 wW4 wW5 wW6 wCW1 wCW2 wCW3 wCW4 wCW5 wCW6 G h25 n0 O25) hZ (hw _ (List.mem_of_getElem? (i := 33) rfl)) (hw _ (List.mem_of_getElem? (i := 3) rfl)) (by decide) (by decide)) q28a q28c (g := (mkF m 111 #[.val (.int p1), .val (.ref b1), .val (.int (2 : Int32)), .val (.ref wW3), .val (.int (0 : Int32)), .unset, .unset] [(.ref wW3)])) rfl (by rw [hml]; rfl) (Steps.refl _) (argsL := []) (rest := []) (lenOf own_pd_0 rfl) rfl (by show 2 * 0 + _ ≤ _; exact Nat.le_of_eq rfl) (hb hby at_111) (fun _ _ => ⟨rfl, e25, (by decide : 1 + 0 ≤ _), (by decide : 12 + 0 ≤ _)⟩)
  dsimp only [Pt.U, Pt.locs, Pt.cells, Pt.slots] at X28 l28 y28 z28 st28 hQ28
  subst l28 y28 z28
  obtain ⟨rfl, N28q, e28⟩ := hQ28
  have N28 := Fr.app N25 N28q
  obtain ⟨cq29, kq29, q29a, q29b, q29c⟩ := isOf hZ e28 (G.2.2.2.2.2.1.ext O25.2)
  obtain ⟨_, _, ⟨T29, L29, k29, n29⟩, -, X29, ⟨Lc29, hQ29, l29, y29, z29⟩, st29⟩ := X28.virtualBack hx (y := (⟨"com/example/credlib/credlib/engine/Rule", "atInstant", "()Lcom/example/credlib/credlib/engine/Rule;"⟩ : MethodName)) (z := (⟨"com/example/credlib/credlib/engine/Rule", "atInstant", "()Lcom/example/credlib/credlib/engine/Rule;"⟩ : MethodName)) hown (mvT hZ (hw _ (List.mem_of_getElem? (i := 35) rfl))) (mvT hZ (hw _ (List.mem_of_getElem? (i := 36) rfl))) (notFace_of_selects (args := #[]) (mvT hZ (hw _ (List.mem_of_getElem? (i := 38) rfl)))) (mvT hZ (hw _ (List.mem_of_getElem? (i := 38) rfl))) (mvT hZ (hw _ (List.mem_of_getElem? (i := 37) rfl))) (by decide) (backOf (W := 0) (own_atInstant_9 l Z a0 hw [] wW1 wW2 wW3 wW4 wW5 wW6 wCW1 wCW2 wCW3 wCW4 wCW5 wCW6 G h25 n0 O25) hZ (hw _ (List.mem_of_getElem? (i := 39) rfl)) (hw _ (List.mem_of_getElem? (i := 3) rfl)) (by decide) (by decide)) q29a q29c (g := (mkF m 117 #[.val (.int p1), .val (.ref b1), .val (.int (2 : Int32)), .val (.ref wW3), .val (.int (0 : Int32)), .val (.int (0 : Int32)), .unset] [(.ref wW3)])) rfl (by rw [hml]; rfl) (Steps.refl _) (argsL := []) (rest := []) (lenOf own_pd_2 rfl) rfl (by show 2 * 0 + _ ≤ _; exact Nat.le_of_eq rfl) (hb hby at_117) (fun _ _ => ⟨rfl, e28, (by decide : 1 + 0 ≤ _), (by decide : 12 + 0 ≤ _)⟩)
  dsimp only [Pt.U, Pt.locs, Pt.cells, Pt.slots] at X29 l29 y29 z29 st29 hQ29
  subst l29 y29 z29
  obtain ⟨rfl, N29q, e29⟩ := hQ29
  have N29 := Fr.app N28 N29q
  obtain ⟨cq30, kq30, q30a, q30b, q30c⟩ := isOf hZ e29 (G.2.2.2.2.2.2.2.2.2.2.2.2.2.2.2.2.2.1.ext O25.2)
  obtain ⟨_, _, ⟨T30, L30, k30, n30⟩, -, X30, ⟨Lc30, hQ30, l30, y30, z30⟩, st30⟩ := X29.virtualBack hx (y := (⟨"com/example/credlib/credlib/engine/Rule", "statesCredential", "()Z"⟩ : MethodName)) (z := (⟨"com/example/credlib/credlib/engine/Rule", "statesCredential", "()Z"⟩ : MethodName)) hown (mvT hZ (hw _ (List.mem_of_getElem? (i := 29) rfl))) (mvT hZ (hw _ (List.mem_of_getElem? (i := 30) rfl))) (notFace_of_selects (args := #[]) (mvT hZ (hw _ (List.mem_of_getElem? (i := 32) rfl)))) (mvT hZ (hw _ (List.mem_of_getElem? (i := 32) rfl))) (mvT hZ (hw _ (List.mem_of_getElem? (i := 31) rfl))) (by decide) (backOf (W := 0) (own_statesCredential_11 l Z a0 hw [] wW1 wW2 wW3 wW4 wW5 wW6 wCW1 wCW2 wCW3 wCW4 wCW5 wCW6 G h25 n0 O25) hZ (hw _ (List.mem_of_getElem? (i := 33) rfl)) (hw _ (List.mem_of_getElem? (i := 3) rfl)) (by decide) (by decide)) q30a q30c (g := (mkF m 120 #[.val (.int p1), .val (.ref b1), .val (.int (2 : Int32)), .val (.ref wW3), .val (.int (0 : Int32)), .val (.int (0 : Int32)), .unset] [(.ref wCW3)])) rfl (by rw [hml]; rfl) (Steps.refl _) (argsL := []) (rest := []) (lenOf own_pd_0 rfl) rfl (by show 2 * 0 + _ ≤ _; exact Nat.le_of_eq rfl) (hb hby at_120) (fun _ _ => ⟨rfl, e29, (by decide : 1 + 0 ≤ _), (by decide : 12 + 0 ≤ _)⟩)
  dsimp only [Pt.U, Pt.locs, Pt.cells, Pt.slots] at X30 l30 y30 z30 st30 hQ30
  subst l30 y30 z30
  obtain ⟨rfl, N30q, e30⟩ := hQ30
  have N30 := Fr.app N29 N30q
  obtain ⟨fs, hr, hrun, hended, hW, hsame⟩ := X30.leave (v := some (.int (1 : Int32))) (fun h => by rw [Bd.returns] at h; cases h)
  refine ⟨_, _, pre0 _ ?_, hrun, hended, _, _, rfl, ?_, ⟨_, rfl⟩, hW, hsame.mono (by decide) (by decide)⟩
  · show Steps p.tables e below (s₁.setTop (mkF m 0 #[.val (.int p1), .unset, .unset, .unset, .unset, .unset, .unset] [])) _
    refine XS.bipush X0.here hx rfl (hb hby at_0) ?_
    show Steps p.tables e below (s₁.setTop (mkF m 2 #[.val (.int p1), .unset, .unset, .unset, .unset, .unset, .unset] [(.int (12 : Int32))])) _
    refine st1 _ ?_
    show Steps p.tables e below (T1.setTop (mkF m 5 #[.val (.int p1), .unset, .unset, .unset, .unset, .unset, .unset] [(.ref b1)])) _
    refine XS.dup X1.here hx rfl (hb hby at_5) rfl rfl ?_
    show Steps p.tables e below (T1.setTop (mkF m 6 #[.val (.int p1), .unset, .unset, .unset, .unset, .unset, .unset] [(.ref b1), (.ref b1)])) _
    refine XS.iconst X1.here hx rfl (hb hby at_6) ?_
    show Steps p.tables e below (T1.setTop (mkF m 7 #[.val (.int p1), .unset, .unset, .unset, .unset, .unset, .unset] [(.int (0 : Int32)), (.ref b1), (.ref b1)])) _
    refine st2 _ ?_
    show Steps p.tables e below (T2.setTop (mkF m 10 #[.val (.int p1), .unset, .unset, .unset, .unset, .unset, .unset] [(.ref wW1), (.int (0 : Int32)), (.ref b1), (.ref b1)])) _
    refine st3 _ ?_
    show Steps p.tables e below (T3.setTop (mkF m 11 #[.val (.int p1), .unset, .unset, .unset, .unset, .unset, .unset] [(.ref b1)])) _
    refine XS.dup X3.here hx rfl (hb hby at_11) rfl rfl ?_
    show Steps p.tables e below (T3.setTop (mkF m 12 #[.val (.int p1), .unset, .unset, .unset, .unset, .unset, .unset] [(.ref b1), (.ref b1)])) _
    refine XS.iconst X3.here hx rfl (hb hby at_12) ?_
    show Steps p.tables e below (T3.setTop (mkF m 13 #[.val (.int p1), .unset, .unset, .unset, .unset, .unset, .unset] [(.int (1 : Int32)), (.ref b1), (.ref b1)])) _
    refine st4 _ ?_
    show Steps p.tables e below (T4.setTop (mkF m 16 #[.val (.int p1), .unset, .unset, .unset, .unset, .unset, .unset] [(.ref wW2), (.int (1 : Int32)), (.ref b1), (.ref b1)])) _
    refine st5 _ ?_
    show Steps p.tables e below (T5.setTop (mkF m 17 #[.val (.int p1), .unset, .unset, .unset, .unset, .unset, .unset] [(.ref b1)])) _
    refine XS.dup X5.here hx rfl (hb hby at_17) rfl rfl ?_
    show Steps p.tables e below (T5.setTop (mkF m 18 #[.val (.int p1), .unset, .unset, .unset, .unset, .unset, .unset] [(.ref b1), (.ref b1)])) _
    refine XS.iconst X5.here hx rfl (hb hby at_18) ?_
    show Steps p.tables e below (T5.setTop (mkF m 19 #[.val (.int p1), .unset, .unset, .unset, .unset, .unset, .unset] [(.int (2 : Int32)), (.ref b1), (.ref b1)])) _
    refine st6 _ ?_
    show Steps p.tables e below (T6.setTop (mkF m 22 #[.val (.int p1), .unset, .unset, .unset, .unset, .unset, .unset] [(.ref wW3), (.int (2 : Int32)), (.ref b1), (.ref b1)])) _
    refine st7 _ ?_
    show Steps p.tables e below (T7.setTop (mkF m 23 #[.val (.int p1), .unset, .unset, .unset, .unset, .unset, .unset] [(.ref b1)])) _
    refine XS.dup X7.here hx rfl (hb hby at_23) rfl rfl ?_
    show Steps p.tables e below (T7.setTop (mkF m 24 #[.val (.int p1), .unset, .unset, .unset, .unset, .unset, .unset] [(.ref b1), (.ref b1)])) _
    refine XS.iconst X7.here hx rfl (hb hby at_24) ?_
    show Steps p.tables e below (T7.setTop (mkF m 25 #[.val (.int p1), .unset, .unset, .unset, .unset, .unset, .unset] [(.int (3 : Int32)), (.ref b1), (.ref b1)])) _
    refine st8 _ ?_
    show Steps p.tables e below (T8.setTop (mkF m 28 #[.val (.int p1), .unset, .unset, .unset, .unset, .unset, .unset] [(.ref wW4), (.int (3 : Int32)), (.ref b1), (.ref b1)])) _
    refine st9 _ ?_
    show Steps p.tables e below (T9.setTop (mkF m 29 #[.val (.int p1), .unset, .unset, .unset, .unset, .unset, .unset] [(.ref b1)])) _
    refine XS.dup X9.here hx rfl (hb hby at_29) rfl rfl ?_
    show Steps p.tables e below (T9.setTop (mkF m 30 #[.val (.int p1), .unset, .unset, .unset, .unset, .unset, .unset] [(.ref b1), (.ref b1)])) _
    refine XS.iconst X9.here hx rfl (hb hby at_30) ?_
    show Steps p.tables e below (T9.setTop (mkF m 31 #[.val (.int p1), .unset, .unset, .unset, .unset, .unset, .unset] [(.int (4 : Int32)), (.ref b1), (.ref b1)])) _
    refine st10 _ ?_
    show Steps p.tables e below (T10.setTop (mkF m 34 #[.val (.int p1), .unset, .unset, .unset, .unset, .unset, .unset] [(.ref wW5), (.int (4 : Int32)), (.ref b1), (.ref b1)])) _
    refine st11 _ ?_
    show Steps p.tables e below (T11.setTop (mkF m 35 #[.val (.int p1), .unset, .unset, .unset, .unset, .unset, .unset] [(.ref b1)])) _
    refine XS.dup X11.here hx rfl (hb hby at_35) rfl rfl ?_
    show Steps p.tables e below (T11.setTop (mkF m 36 #[.val (.int p1), .unset, .unset, .unset, .unset, .unset, .unset] [(.ref b1), (.ref b1)])) _
    refine XS.iconst X11.here hx rfl (hb hby at_36) ?_
    show Steps p.tables e below (T11.setTop (mkF m 37 #[.val (.int p1), .unset, .unset, .unset, .unset, .unset, .unset] [(.int (5 : Int32)), (.ref b1), (.ref b1)])) _
    refine st12 _ ?_
    show Steps p.tables e below (T12.setTop (mkF m 40 #[.val (.int p1), .unset, .unset, .unset, .unset, .unset, .unset] [(.ref wW6), (.int (5 : Int32)), (.ref b1), (.ref b1)])) _
    refine st13 _ ?_
    show Steps p.tables e below (T13.setTop (mkF m 41 #[.val (.int p1), .unset, .unset, .unset, .unset, .unset, .unset] [(.ref b1)])) _
    refine XS.dup X13.here hx rfl (hb hby at_41) rfl rfl ?_
    show Steps p.tables e below (T13.setTop (mkF m 42 #[.val (.int p1), .unset, .unset, .unset, .unset, .unset, .unset] [(.ref b1), (.ref b1)])) _
    refine XS.bipush X13.here hx rfl (hb hby at_42) ?_
    show Steps p.tables e below (T13.setTop (mkF m 44 #[.val (.int p1), .unset, .unset, .unset, .unset, .unset, .unset] [(.int (6 : Int32)), (.ref b1), (.ref b1)])) _
    refine st14 _ ?_
    show Steps p.tables e below (T14.setTop (mkF m 47 #[.val (.int p1), .unset, .unset, .unset, .unset, .unset, .unset] [(.ref wCW1), (.int (6 : Int32)), (.ref b1), (.ref b1)])) _
    refine st15 _ ?_
    show Steps p.tables e below (T15.setTop (mkF m 48 #[.val (.int p1), .unset, .unset, .unset, .unset, .unset, .unset] [(.ref b1)])) _
    refine XS.dup X15.here hx rfl (hb hby at_48) rfl rfl ?_
    show Steps p.tables e below (T15.setTop (mkF m 49 #[.val (.int p1), .unset, .unset, .unset, .unset, .unset, .unset] [(.ref b1), (.ref b1)])) _
    refine XS.bipush X15.here hx rfl (hb hby at_49) ?_
    show Steps p.tables e below (T15.setTop (mkF m 51 #[.val (.int p1), .unset, .unset, .unset, .unset, .unset, .unset] [(.int (7 : Int32)), (.ref b1), (.ref b1)])) _
    refine st16 _ ?_
    show Steps p.tables e below (T16.setTop (mkF m 54 #[.val (.int p1), .unset, .unset, .unset, .unset, .unset, .unset] [(.ref wCW2), (.int (7 : Int32)), (.ref b1), (.ref b1)])) _
    refine st17 _ ?_
    show Steps p.tables e below (T17.setTop (mkF m 55 #[.val (.int p1), .unset, .unset, .unset, .unset, .unset, .unset] [(.ref b1)])) _
    refine XS.dup X17.here hx rfl (hb hby at_55) rfl rfl ?_
    show Steps p.tables e below (T17.setTop (mkF m 56 #[.val (.int p1), .unset, .unset, .unset, .unset, .unset, .unset] [(.ref b1), (.ref b1)])) _
    refine XS.bipush X17.here hx rfl (hb hby at_56) ?_
    show Steps p.tables e below (T17.setTop (mkF m 58 #[.val (.int p1), .unset, .unset, .unset, .unset, .unset, .unset] [(.int (8 : Int32)), (.ref b1), (.ref b1)])) _
    refine st18 _ ?_
    show Steps p.tables e below (T18.setTop (mkF m 61 #[.val (.int p1), .unset, .unset, .unset, .unset, .unset, .unset] [(.ref wCW3), (.int (8 : Int32)), (.ref b1), (.ref b1)])) _
    refine st19 _ ?_
    show Steps p.tables e below (T19.setTop (mkF m 62 #[.val (.int p1), .unset, .unset, .unset, .unset, .unset, .unset] [(.ref b1)])) _
    refine XS.dup X19.here hx rfl (hb hby at_62) rfl rfl ?_
    show Steps p.tables e below (T19.setTop (mkF m 63 #[.val (.int p1), .unset, .unset, .unset, .unset, .unset, .unset] [(.ref b1), (.ref b1)])) _
    refine XS.bipush X19.here hx rfl (hb hby at_63) ?_
    show Steps p.tables e below (T19.setTop (mkF m 65 #[.val (.int p1), .unset, .unset, .unset, .unset, .unset, .unset] [(.int (9 : Int32)), (.ref b1), (.ref b1)])) _
    refine st20 _ ?_
    show Steps p.tables e below (T20.setTop (mkF m 68 #[.val (.int p1), .unset, .unset, .unset, .unset, .unset, .unset] [(.ref wCW4), (.int (9 : Int32)), (.ref b1), (.ref b1)])) _
    refine st21 _ ?_
    show Steps p.tables e below (T21.setTop (mkF m 69 #[.val (.int p1), .unset, .unset, .unset, .unset, .unset, .unset] [(.ref b1)])) _
    refine XS.dup X21.here hx rfl (hb hby at_69) rfl rfl ?_
    show Steps p.tables e below (T21.setTop (mkF m 70 #[.val (.int p1), .unset, .unset, .unset, .unset, .unset, .unset] [(.ref b1), (.ref b1)])) _
    refine XS.bipush X21.here hx rfl (hb hby at_70) ?_
    show Steps p.tables e below (T21.setTop (mkF m 72 #[.val (.int p1), .unset, .unset, .unset, .unset, .unset, .unset] [(.int (10 : Int32)), (.ref b1), (.ref b1)])) _
    refine st22 _ ?_
    show Steps p.tables e below (T22.setTop (mkF m 75 #[.val (.int p1), .unset, .unset, .unset, .unset, .unset, .unset] [(.ref wCW5), (.int (10 : Int32)), (.ref b1), (.ref b1)])) _
    refine st23 _ ?_
    show Steps p.tables e below (T23.setTop (mkF m 76 #[.val (.int p1), .unset, .unset, .unset, .unset, .unset, .unset] [(.ref b1)])) _
    refine XS.dup X23.here hx rfl (hb hby at_76) rfl rfl ?_
    show Steps p.tables e below (T23.setTop (mkF m 77 #[.val (.int p1), .unset, .unset, .unset, .unset, .unset, .unset] [(.ref b1), (.ref b1)])) _
    refine XS.bipush X23.here hx rfl (hb hby at_77) ?_
    show Steps p.tables e below (T23.setTop (mkF m 79 #[.val (.int p1), .unset, .unset, .unset, .unset, .unset, .unset] [(.int (11 : Int32)), (.ref b1), (.ref b1)])) _
    refine st24 _ ?_
    show Steps p.tables e below (T24.setTop (mkF m 82 #[.val (.int p1), .unset, .unset, .unset, .unset, .unset, .unset] [(.ref wCW6), (.int (11 : Int32)), (.ref b1), (.ref b1)])) _
    refine st25 _ ?_
    show Steps p.tables e below (T25.setTop (mkF m 83 #[.val (.int p1), .unset, .unset, .unset, .unset, .unset, .unset] [(.ref b1)])) _
    refine XS.astoreN X25.here hx rfl (hb hby at_83) rfl rfl (l' := #[.val (.int p1), .val (.ref b1), .unset, .unset, .unset, .unset, .unset]) rfl ?_
    show Steps p.tables e below (T25.setTop (mkF m 84 #[.val (.int p1), .val (.ref b1), .unset, .unset, .unset, .unset, .unset] [])) _
    refine XS.iloadN X25.here hx rfl (hb hby at_84) rfl ?_
    show Steps p.tables e below (T25.setTop (mkF m 85 #[.val (.int p1), .val (.ref b1), .unset, .unset, .unset, .unset, .unset] [(.int p1)])) _
    refine Jvm.Stand.ldcI X25 hx hown (mvT hZ (hw _ (List.mem_of_getElem? (i := 28) rfl))) rfl (hb hby at_85) ?_
    show Steps p.tables e below (T25.setTop (mkF m 87 #[.val (.int p1), .val (.ref b1), .unset, .unset, .unset, .unset, .unset] [(.int (2147483647 : Int32)), (.int p1)])) _
    refine XS.iand X25.here hx rfl (hb hby at_87) rfl ?_
    show Steps p.tables e below (T25.setTop (mkF m 88 #[.val (.int p1), .val (.ref b1), .unset, .unset, .unset, .unset, .unset] [(.int (p1 &&& (2147483647 : Int32)))])) _
    refine XS.bipush X25.here hx rfl (hb hby at_88) ?_
    show Steps p.tables e below (T25.setTop (mkF m 90 #[.val (.int p1), .val (.ref b1), .unset, .unset, .unset, .unset, .unset] [(.int (12 : Int32)), (.int (p1 &&& (2147483647 : Int32)))])) _
    refine iremM X25 hx rfl (hb hby at_90) rfl (by decide) ?_
    show Steps p.tables e below (T25.setTop (mkF m 91 #[.val (.int p1), .val (.ref b1), .unset, .unset, .unset, .unset, .unset] [(.int ((p1 &&& (2147483647 : Int32)) % (12 : Int32)))])) _
    refine castTop (g' := (mkF m 91 #[.val (.int p1), .val (.ref b1), .unset, .unset, .unset, .unset, .unset] [(.int (2 : Int32))])) (by rw [hi]) ?_
    show Steps p.tables e below (T25.setTop (mkF m 91 #[.val (.int p1), .val (.ref b1), .unset, .unset, .unset, .unset, .unset] [(.int (2 : Int32))])) _
    refine XS.istoreN X25.here hx rfl (hb hby at_91) rfl (l' := #[.val (.int p1), .val (.ref b1), .val (.int (2 : Int32)), .unset, .unset, .unset, .unset]) rfl ?_
    show Steps p.tables e below (T25.setTop (mkF m 92 #[.val (.int p1), .val (.ref b1), .val (.int (2 : Int32)), .unset, .unset, .unset, .unset] [])) _
    refine XS.aloadN X25.here hx rfl (hb hby at_92) rfl rfl ?_
    show Steps p.tables e below (T25.setTop (mkF m 93 #[.val (.int p1), .val (.ref b1), .val (.int (2 : Int32)), .unset, .unset, .unset, .unset] [(.ref b1)])) _
    refine XS.iloadN X25.here hx rfl (hb hby at_93) rfl ?_
    show Steps p.tables e below (T25.setTop (mkF m 94 #[.val (.int p1), .val (.ref b1), .val (.int (2 : Int32)), .unset, .unset, .unset, .unset] [(.int (2 : Int32)), (.ref b1)])) _
    refine X25.aaload hx (j := (2 : Int32)) (v := (.ref wW3)) (by rw [e25]; exact Ar26.1) (State.isArrayOf_alike hZ.alike Ar26.2.1) rfl Ar26.2.2 hin27 hat27 (g := (mkF m 94 #[.val (.int p1), .val (.ref b1), .val (.int (2 : Int32)), .unset, .unset, .unset, .unset] [(.int (2 : Int32)), (.ref b1)])) rfl rfl (hb hby at_94) _ ?_
    show Steps p.tables e below (T25.setTop (mkF m 95 #[.val (.int p1), .val (.ref b1), .val (.int (2 : Int32)), .unset, .unset, .unset, .unset] [(.ref wW3)])) _
    refine XS.astoreN X25.here hx rfl (hb hby at_95) rfl rfl (l' := #[.val (.int p1), .val (.ref b1), .val (.int (2 : Int32)), .val (.ref wW3), .unset, .unset, .unset]) rfl ?_
    show Steps p.tables e below (T25.setTop (mkF m 96 #[.val (.int p1), .val (.ref b1), .val (.int (2 : Int32)), .val (.ref wW3), .unset, .unset, .unset] [])) _
    refine XS.iloadN X25.here hx rfl (hb hby at_96) rfl ?_
    show Steps p.tables e below (T25.setTop (mkF m 97 #[.val (.int p1), .val (.ref b1), .val (.int (2 : Int32)), .val (.ref wW3), .unset, .unset, .unset] [(.int (2 : Int32))])) _
    refine XS.bipush X25.here hx rfl (hb hby at_97) ?_
    show Steps p.tables e below (T25.setTop (mkF m 99 #[.val (.int p1), .val (.ref b1), .val (.int (2 : Int32)), .val (.ref wW3), .unset, .unset, .unset] [(.int (6 : Int32)), (.int (2 : Int32))])) _
    refine iremM X25 hx rfl (hb hby at_99) rfl (by decide) ?_
    show Steps p.tables e below (T25.setTop (mkF m 100 #[.val (.int p1), .val (.ref b1), .val (.int (2 : Int32)), .val (.ref wW3), .unset, .unset, .unset] [(.int ((2 : Int32) % (6 : Int32)))])) _
    refine castTop (g' := (mkF m 100 #[.val (.int p1), .val (.ref b1), .val (.int (2 : Int32)), .val (.ref wW3), .unset, .unset, .unset] [(.int (2 : Int32))])) (by rw [show ((2 : Int32) % (6 : Int32)) = (2 : Int32) from by decide]) ?_
    show Steps p.tables e below (T25.setTop (mkF m 100 #[.val (.int p1), .val (.ref b1), .val (.int (2 : Int32)), .val (.ref wW3), .unset, .unset, .unset] [(.int (2 : Int32))])) _
    refine XS.ifYes X25.here hx rfl (pc0 := 100) (pc' := 107) rfl (hb hby at_100) rfl (by decide) (by decide) (by decide) ?_
    show Steps p.tables e below (T25.setTop (mkF m 107 #[.val (.int p1), .val (.ref b1), .val (.int (2 : Int32)), .val (.ref wW3), .unset, .unset, .unset] [])) _
    refine XS.iconst X25.here hx rfl (hb hby at_107) ?_
    show Steps p.tables e below (T25.setTop (mkF m 108 #[.val (.int p1), .val (.ref b1), .val (.int (2 : Int32)), .val (.ref wW3), .unset, .unset, .unset] [(.int (0 : Int32))])) _
    refine XS.istore X25.here hx rfl (hb hby at_108) rfl (l' := #[.val (.int p1), .val (.ref b1), .val (.int (2 : Int32)), .val (.ref wW3), .val (.int (0 : Int32)), .unset, .unset]) rfl ?_
    show Steps p.tables e below (T25.setTop (mkF m 110 #[.val (.int p1), .val (.ref b1), .val (.int (2 : Int32)), .val (.ref wW3), .val (.int (0 : Int32)), .unset, .unset] [])) _
    refine XS.aloadN X25.here hx rfl (hb hby at_110) rfl rfl ?_
    show Steps p.tables e below (T25.setTop (mkF m 111 #[.val (.int p1), .val (.ref b1), .val (.int (2 : Int32)), .val (.ref wW3), .val (.int (0 : Int32)), .unset, .unset] [(.ref wW3)])) _
    refine st28.trans ?_
    show Steps p.tables e below (T28.setTop (mkF m 114 #[.val (.int p1), .val (.ref b1), .val (.int (2 : Int32)), .val (.ref wW3), .val (.int (0 : Int32)), .unset, .unset] [(.int (0 : Int32))])) _
    refine XS.istore X28.here hx rfl (hb hby at_114) rfl (l' := #[.val (.int p1), .val (.ref b1), .val (.int (2 : Int32)), .val (.ref wW3), .val (.int (0 : Int32)), .val (.int (0 : Int32)), .unset]) rfl ?_
    show Steps p.tables e below (T28.setTop (mkF m 116 #[.val (.int p1), .val (.ref b1), .val (.int (2 : Int32)), .val (.ref wW3), .val (.int (0 : Int32)), .val (.int (0 : Int32)), .unset] [])) _
    refine XS.aloadN X28.here hx rfl (hb hby at_116) rfl rfl ?_
    show Steps p.tables e below (T28.setTop (mkF m 117 #[.val (.int p1), .val (.ref b1), .val (.int (2 : Int32)), .val (.ref wW3), .val (.int (0 : Int32)), .val (.int (0 : Int32)), .unset] [(.ref wW3)])) _
    refine st29.trans ?_
    show Steps p.tables e below (T29.setTop (mkF m 120 #[.val (.int p1), .val (.ref b1), .val (.int (2 : Int32)), .val (.ref wW3), .val (.int (0 : Int32)), .val (.int (0 : Int32)), .unset] [(.ref wCW3)])) _
    refine st30.trans ?_
    show Steps p.tables e below (T30.setTop (mkF m 123 #[.val (.int p1), .val (.ref b1), .val (.int (2 : Int32)), .val (.ref wW3), .val (.int (0 : Int32)), .val (.int (0 : Int32)), .unset] [(.int (0 : Int32))])) _
    refine XS.istore X30.here hx rfl (hb hby at_123) rfl (l' := #[.val (.int p1), .val (.ref b1), .val (.int (2 : Int32)), .val (.ref wW3), .val (.int (0 : Int32)), .val (.int (0 : Int32)), .val (.int (0 : Int32))]) rfl ?_
    show Steps p.tables e below (T30.setTop (mkF m 125 #[.val (.int p1), .val (.ref b1), .val (.int (2 : Int32)), .val (.ref wW3), .val (.int (0 : Int32)), .val (.int (0 : Int32)), .val (.int (0 : Int32))] [])) _
    refine XS.iload X30.here hx rfl (hb hby at_125) rfl ?_
    show Steps p.tables e below (T30.setTop (mkF m 127 #[.val (.int p1), .val (.ref b1), .val (.int (2 : Int32)), .val (.ref wW3), .val (.int (0 : Int32)), .val (.int (0 : Int32)), .val (.int (0 : Int32))] [(.int (0 : Int32))])) _
    refine XS.iload X30.here hx rfl (hb hby at_127) rfl ?_
    show Steps p.tables e below (T30.setTop (mkF m 129 #[.val (.int p1), .val (.ref b1), .val (.int (2 : Int32)), .val (.ref wW3), .val (.int (0 : Int32)), .val (.int (0 : Int32)), .val (.int (0 : Int32))] [(.int (0 : Int32)), (.int (0 : Int32))])) _
    refine XS.icmpNo X30.here hx rfl (hb hby at_129) rfl (by decide) ?_
    show Steps p.tables e below (T30.setTop (mkF m 132 #[.val (.int p1), .val (.ref b1), .val (.int (2 : Int32)), .val (.ref wW3), .val (.int (0 : Int32)), .val (.int (0 : Int32)), .val (.int (0 : Int32))] [])) _
    refine XS.iload X30.here hx rfl (hb hby at_132) rfl ?_
    show Steps p.tables e below (T30.setTop (mkF m 134 #[.val (.int p1), .val (.ref b1), .val (.int (2 : Int32)), .val (.ref wW3), .val (.int (0 : Int32)), .val (.int (0 : Int32)), .val (.int (0 : Int32))] [(.int (0 : Int32))])) _
    refine XS.iload X30.here hx rfl (hb hby at_134) rfl ?_
    show Steps p.tables e below (T30.setTop (mkF m 136 #[.val (.int p1), .val (.ref b1), .val (.int (2 : Int32)), .val (.ref wW3), .val (.int (0 : Int32)), .val (.int (0 : Int32)), .val (.int (0 : Int32))] [(.int (0 : Int32)), (.int (0 : Int32))])) _
    refine XS.icmpNo X30.here hx rfl (hb hby at_136) rfl (by decide) ?_
    show Steps p.tables e below (T30.setTop (mkF m 139 #[.val (.int p1), .val (.ref b1), .val (.int (2 : Int32)), .val (.ref wW3), .val (.int (0 : Int32)), .val (.int (0 : Int32)), .val (.int (0 : Int32))] [])) _
    refine XS.iconst X30.here hx rfl (hb hby at_139) ?_
    show Steps p.tables e below (T30.setTop (mkF m 140 #[.val (.int p1), .val (.ref b1), .val (.int (2 : Int32)), .val (.ref wW3), .val (.int (0 : Int32)), .val (.int (0 : Int32)), .val (.int (0 : Int32))] [(.int (1 : Int32))])) _
    refine XS.goto X30.here hx rfl (pc0 := 140) (pc' := 144) rfl (hb hby at_140) (by decide) (by decide) ?_
    show Steps p.tables e below (T30.setTop (mkF m 144 #[.val (.int p1), .val (.ref b1), .val (.int (2 : Int32)), .val (.ref wW3), .val (.int (0 : Int32)), .val (.int (0 : Int32)), .val (.int (0 : Int32))] [(.int (1 : Int32))])) _
    exact retN X30 hx (t := .boolean) Bd.returns (by simp) (hb hby at_144) hr
  · exact ⟨rfl, N30⟩
set_option maxRecDepth 65536 in
set_option maxHeartbeats 40000000 in
theorem own_statesCredential_12 (l : Launch) (Z : State) (a0 : Array Value) (hw : ∀ d ∈ tables_1, d.before a0 Z = true) (ws : List Jvm.Cond) (wW1 : Addr) (wW2 : Addr) (wW3 : Addr) (wW4 : Addr) (wW5 : Addr) (wW6 : Addr) (wCW1 : Addr) (wCW2 : Addr) (wCW3 : Addr) (wCW4 : Addr) (wCW5 : Addr) (wCW6 : Addr) (G : OwnG Z wW1 wW2 wW3 wW4 wW5 wW6 wCW1 wCW2 wCW3 wCW4 wCW5 wCW6) (h0 : Heap) (n0 : Nat) (O0 : Old Z n0 h0) :
    MetFree l (⟨"com/example/credlib/credlib/engine/Rule", "statesCredential", "()Z"⟩ : MethodName) (head1 (Jvm.Cond.code (⟨"com/example/credlib/credlib/engine/Rule", "statesCredential", "()Z"⟩ : MethodName) prog_18_method_4_code 1 (some .boolean) :: ws) ({ frames := 0, cells := 0, slots := 0, locals := 0 } : Room)) (fun a U => a = #[(.ref wW4)] ∧ Z.Warmed39 U.vm ∧ U.heap = h0) (fun _ _ _ _ _ => True) (fun _ U o U' => ∃ v L, o = .returned v ∧ OwnQ (some (.int (0 : Int32))) h0 n0 v U'.heap L ∧ FrameEnd U o U' L ({ frames := 0, cells := 0, slots := 0, locals := 0 } : Room).cells ({ frames := 0, cells := 0, slots := 0, locals := 0 } : Room).slots) := by
  refine MetFree.of_bodySF (plainFor_of_name own_pn_1) hisR ?_
  intro p e s m args below meth c s₁ Bd hml0 hP hK
  obtain ⟨rfl, hZ, hh⟩ := hP
  have hx := Bd.exec
  have hby := Bd.bytes
  have hml : c.maxLocals = 1 := hml0
  have hown : s.vm.findClass "com/example/credlib/credlib/engine/Rule" = some m.cls := findClass_of_methodNamed Bd.named
  have hnm := (name_of_methodNamed Bd.named Bd.method).1
  have X0 : Stand p l e ({ frames := 0, cells := 0, slots := 0, locals := 0 } : Room) s m #[(.ref wW4)] below meth c s₁ [] 0 0 := Stand.of_body Bd
  have e0 : s₁.heap = h0 := by rw [← hh, Bd.state]; rfl
  have N0 := Fr.nil n0
  have pre0 : ∀ t, Steps p.tables e below (s₁.setTop (mkF m 0 #[.val (.ref wW4)] [])) t → Steps p.tables e below (s₁.setTop (entryFrame m #[(.ref wW4)] 1)) t := fun t k => castTop (own_ef_1_R m wW4) k
  obtain ⟨T1, X1, e1, st1⟩ := getS2 X0 hx hZ hown (host := "") (Or.inl (hw _ (List.mem_of_getElem? (i := 34) rfl))) Via.refl e0 (G.1.ext O0.2) (g := (mkF m 1 #[.val (.ref wW4)] [(.ref wW4)])) rfl (hb hby own_d1_1)
  obtain ⟨T2, X2, e2, st2⟩ := getS2 X1 hx hZ hown (host := "") (Or.inl (hw _ (List.mem_of_getElem? (i := 49) rfl))) Via.refl e1 (G.2.2.2.2.2.2.2.2.2.2.2.2.1.ext O0.2) (g := (mkF m 8 #[.val (.ref wW4)] [(.ref wW4)])) rfl (hb hby own_d1_8)
  obtain ⟨fs, hr, hrun, hended, hW, hsame⟩ := X2.leave (v := some (.int (0 : Int32))) (fun h => by rw [Bd.returns] at h; cases h)
  refine ⟨_, _, pre0 _ ?_, hrun, hended, _, _, rfl, ?_, ⟨_, rfl⟩, hW, hsame.mono (by decide) (by decide)⟩
  · show Steps p.tables e below (s₁.setTop (mkF m 0 #[.val (.ref wW4)] [])) _
    refine XS.aloadN X0.here hx rfl (hb hby own_d1_0) rfl rfl ?_
    show Steps p.tables e below (s₁.setTop (mkF m 1 #[.val (.ref wW4)] [(.ref wW4)])) _
    refine st1 _ ?_
    show Steps p.tables e below (T1.setTop (mkF m 4 #[.val (.ref wW4)] [(.ref wW1), (.ref wW4)])) _
    refine Jvm.RoadKit.acmp (g := (mkF m 4 #[.val (.ref wW4)] [(.ref wW1), (.ref wW4)])) X1 hx rfl rfl rfl (pc0 := 4) (pc' := 7) (same := false) rfl (hb hby own_d1_4) rfl (decide_eq_false fun q => (Ne.symm G.2.2.2.2.2.2.2.2.2.2.2.2.2.2.2.2.2.2.2.2.2.2.2.2.2.2.2.2.2.2.2.2.2.2.2.2.2.1) (Value.ref.inj q)) (by decide) (by decide) ?_
    show Steps p.tables e below (T1.setTop (mkF m 7 #[.val (.ref wW4)] [])) _
    refine XS.aloadN X1.here hx rfl (hb hby own_d1_7) rfl rfl ?_
    show Steps p.tables e below (T1.setTop (mkF m 8 #[.val (.ref wW4)] [(.ref wW4)])) _
    refine st2 _ ?_
    show Steps p.tables e below (T2.setTop (mkF m 11 #[.val (.ref wW4)] [(.ref wCW1), (.ref wW4)])) _
    refine Jvm.RoadKit.acmp (g := (mkF m 11 #[.val (.ref wW4)] [(.ref wCW1), (.ref wW4)])) X2 hx rfl rfl rfl (pc0 := 11) (pc' := 18) (same := false) rfl (hb hby own_d1_11) rfl (decide_eq_false fun q => G.2.2.2.2.2.2.2.2.2.2.2.2.2.2.2.2.2.2.2.2.2.2.2.2.2.2.2.2.2.2.2.2.2.2.2.2.2.2.2.2.2.2.2.2.2.2.2.2.2.2.2.2.1 (Value.ref.inj q)) (by decide) (by decide) ?_
    show Steps p.tables e below (T2.setTop (mkF m 18 #[.val (.ref wW4)] [])) _
    refine XS.iconst X2.here hx rfl (hb hby own_d1_18) ?_
    show Steps p.tables e below (T2.setTop (mkF m 19 #[.val (.ref wW4)] [(.int (0 : Int32))])) _
    exact retN X2 hx (t := .boolean) Bd.returns (by simp) (hb hby own_d1_19) hr
  · show OwnQ _ h0 n0 _ T2.heap _
    exact ⟨rfl, N0, e2⟩
set_option maxRecDepth 65536 in
set_option maxHeartbeats 40000000 in
theorem own_ordinal_14 (l : Launch) (Z : State) (a0 : Array Value) (hw : ∀ d ∈ tables_1, d.before a0 Z = true) (ws : List Jvm.Cond) (wW1 : Addr) (wW2 : Addr) (wW3 : Addr) (wW4 : Addr) (wW5 : Addr) (wW6 : Addr) (wCW1 : Addr) (wCW2 : Addr) (wCW3 : Addr) (wCW4 : Addr) (wCW5 : Addr) (wCW6 : Addr) (G : OwnG Z wW1 wW2 wW3 wW4 wW5 wW6 wCW1 wCW2 wCW3 wCW4 wCW5 wCW6) (h0 : Heap) (n0 : Nat) (O0 : Old Z n0 h0) :
    MetFree l (⟨"java/lang/Enum", "ordinal", "()I"⟩ : MethodName) (head1 (Jvm.Cond.code (⟨"java/lang/Enum", "ordinal", "()I"⟩ : MethodName) jdk_37_method_2_code 1 (some .int) :: ws) ({ frames := 0, cells := 0, slots := 0, locals := 0 } : Room)) (fun a U => a = #[(.ref wW4)] ∧ Z.Warmed39 U.vm ∧ U.heap = h0) (fun _ _ _ _ _ => True) (fun _ U o U' => ∃ v L, o = .returned v ∧ OwnQ (some (.int (3 : Int32))) h0 n0 v U'.heap L ∧ FrameEnd U o U' L ({ frames := 0, cells := 0, slots := 0, locals := 0 } : Room).cells ({ frames := 0, cells := 0, slots := 0, locals := 0 } : Room).slots) := by
  refine MetFree.of_bodySF (plainFor_of_name own_pn_3) hisR ?_
  intro p e s m args below meth c s₁ Bd hml0 hP hK
  obtain ⟨rfl, hZ, hh⟩ := hP
  have hx := Bd.exec
  have hby := Bd.bytes
  have hml : c.maxLocals = 1 := hml0
  have hown : s.vm.findClass "java/lang/Enum" = some m.cls := findClass_of_methodNamed Bd.named
  have hnm := (name_of_methodNamed Bd.named Bd.method).1
  have X0 : Stand p l e ({ frames := 0, cells := 0, slots := 0, locals := 0 } : Room) s m #[(.ref wW4)] below meth c s₁ [] 0 0 := Stand.of_body Bd
  have e0 : s₁.heap = h0 := by rw [← hh, Bd.state]; rfl
  have N0 := Fr.nil n0
  have pre0 : ∀ t, Steps p.tables e below (s₁.setTop (mkF m 0 #[.val (.ref wW4)] [])) t → Steps p.tables e below (s₁.setTop (entryFrame m #[(.ref wW4)] 1)) t := fun t k => castTop (own_ef_3_R m wW4) k
  obtain ⟨T1, X1, e1, st1⟩ := getF X0 hx hZ hown (host := "") (Or.inl (hw _ (List.mem_of_getElem? (i := 47) rfl))) Via.refl e0 (G.2.2.2.2.2.2.2.2.2.2.2.2.2.2.2.2.2.2.2.2.2.2.2.2.2.2.1.ext O0.2) (g := (mkF m 1 #[.val (.ref wW4)] [(.ref wW4)])) rfl rfl (hb hby own_d3_1)
  obtain ⟨fs, hr, hrun, hended, hW, hsame⟩ := X1.leave (v := some (.int (3 : Int32))) (fun h => by rw [Bd.returns] at h; cases h)
  refine ⟨_, _, pre0 _ ?_, hrun, hended, _, _, rfl, ?_, ⟨_, rfl⟩, hW, hsame.mono (by decide) (by decide)⟩
  · show Steps p.tables e below (s₁.setTop (mkF m 0 #[.val (.ref wW4)] [])) _
    refine XS.aloadN X0.here hx rfl (hb hby own_d3_0) rfl rfl ?_
    show Steps p.tables e below (s₁.setTop (mkF m 1 #[.val (.ref wW4)] [(.ref wW4)])) _
    refine st1 _ ?_
    show Steps p.tables e below (T1.setTop (mkF m 4 #[.val (.ref wW4)] [(.int (3 : Int32))])) _
    exact retI X1 hx Bd.returns (hb hby own_d3_4) hr
  · show OwnQ _ h0 n0 _ T1.heap _
    exact ⟨rfl, N0, e1⟩
theorem own_d2_62 : decode prog_18_method_5_code 62 = .ok (.getstatic 31, 3) := by decide +kernel
theorem own_d2_65 : decode prog_18_method_5_code 65 = .ok (.goto 16, 3) := by decide +kernel
set_option maxRecDepth 65536 in
set_option maxHeartbeats 40000000 in
theorem own_atInstant_13 (l : Launch) (Z : State) (a0 : Array Value) (hw : ∀ d ∈ tables_1, d.before a0 Z = true) (ws : List Jvm.Cond) (wW1 : Addr) (wW2 : Addr) (wW3 : Addr) (wW4 : Addr) (wW5 : Addr) (wW6 : Addr) (wCW1 : Addr) (wCW2 : Addr) (wCW3 : Addr) (wCW4 : Addr) (wCW5 : Addr) (wCW6 : Addr) (G : OwnG Z wW1 wW2 wW3 wW4 wW5 wW6 wCW1 wCW2 wCW3 wCW4 wCW5 wCW6) (h0 : Heap) (n0 : Nat) (O0 : Old Z n0 h0) :
    MetFree l (⟨"com/example/credlib/credlib/engine/Rule", "atInstant", "()Lcom/example/credlib/credlib/engine/Rule;"⟩ : MethodName) (head1 (Jvm.Cond.code (⟨"com/example/credlib/credlib/engine/Rule", "atInstant", "()Lcom/example/credlib/credlib/engine/Rule;"⟩ : MethodName) prog_18_method_5_code 1 (some (.object "com/example/credlib/credlib/engine/Rule")) :: ws) ({ frames := 1, cells := 0, slots := 0, locals := 12 } : Room)) (fun a U => a = #[(.ref wW4)] ∧ Z.Warmed39 U.vm ∧ U.heap = h0) (fun _ _ _ _ _ => True) (fun _ U o U' => ∃ v L, o = .returned v ∧ OwnQ (some (.ref wCW4)) h0 n0 v U'.heap L ∧ FrameEnd U o U' L ({ frames := 1, cells := 0, slots := 0, locals := 12 } : Room).cells ({ frames := 1, cells := 0, slots := 0, locals := 12 } : Room).slots) := by
  refine MetFree.of_bodySF (plainFor_of_name own_pn_1) hisR ?_
  intro p e s m args below meth c s₁ Bd hml0 hP hK
  obtain ⟨rfl, hZ, hh⟩ := hP
  have hx := Bd.exec
  have hby := Bd.bytes
  have hml : c.maxLocals = 1 := hml0
  have hown : s.vm.findClass "com/example/credlib/credlib/engine/Rule" = some m.cls := findClass_of_methodNamed Bd.named
  have hnm := (name_of_methodNamed Bd.named Bd.method).1
  have X0 : Stand p l e ({ frames := 1, cells := 0, slots := 0, locals := 12 } : Room) s m #[(.ref wW4)] below meth c s₁ [] 0 0 := Stand.of_body Bd
  have e0 : s₁.heap = h0 := by rw [← hh, Bd.state]; rfl
  have N0 := Fr.nil n0
  have pre0 : ∀ t, Steps p.tables e below (s₁.setTop (mkF m 0 #[.val (.ref wW4)] [])) t → Steps p.tables e below (s₁.setTop (entryFrame m #[(.ref wW4)] 1)) t := fun t k => castTop (own_ef_2_R m wW4) k
  obtain ⟨cq1, kq1, q1a, q1b, q1c⟩ := isOf hZ e0 (G.2.2.2.2.2.2.2.1.ext O0.2)
  obtain ⟨_, _, ⟨T1, L1, k1, n1⟩, -, X1, ⟨Lc1, hQ1, l1, y1, z1⟩, st1⟩ := X0.virtualBackUp hx (x := (⟨"com/example/credlib/credlib/engine/Rule", "ordinal", "()I"⟩ : MethodName)) (y := (⟨"java/lang/Enum", "ordinal", "()I"⟩ : MethodName)) (owner := "java/lang/Enum") hown (mvT hZ (hw _ (List.mem_of_getElem? (i := 40) rfl))) (mvT hZ (hw _ (List.mem_of_getElem? (i := 41) rfl))) (mvT hZ (hw _ (List.mem_of_getElem? (i := 42) rfl))) (by decide) (mvT hZ (hw _ (List.mem_of_getElem? (i := 44) rfl))) (mvT hZ (hw _ (List.mem_of_getElem? (i := 43) rfl))) (backOf (W := 0) (own_ordinal_14 l Z a0 hw [] wW1 wW2 wW3 wW4 wW5 wW6 wCW1 wCW2 wCW3 wCW4 wCW5 wCW6 G h0 n0 O0) hZ (hw _ (List.mem_of_getElem? (i := 46) rfl)) (hw _ (List.mem_of_getElem? (i := 45) rfl)) (by decide) (by decide)) q1a q1c (g := (mkF m 1 #[.val (.ref wW4)] [(.ref wW4)])) rfl (by rw [hml]; rfl) (Steps.refl _) (argsL := []) (rest := []) (lenOf own_pd_1 rfl) rfl (by show 2 * 0 + _ ≤ _; exact Nat.le_of_eq rfl) (hb hby own_d2_1) (fun _ _ => ⟨rfl, e0, (by decide : 0 + 0 ≤ _), (by decide : 0 + 0 ≤ _)⟩)
  dsimp only [Pt.U, Pt.locs, Pt.cells, Pt.slots] at X1 l1 y1 z1 st1 hQ1
  subst l1 y1 z1
  obtain ⟨rfl, N1q, e1⟩ := hQ1
  have N1 := Fr.app N0 N1q
  obtain ⟨T2, X2, e2, st2⟩ := getS2 X1 hx hZ hown (host := "") (Or.inl (hw _ (List.mem_of_getElem? (i := 50) rfl))) Via.refl e1 (G.2.2.2.2.2.2.2.2.2.2.2.2.2.2.2.2.2.2.1.ext O0.2) (g := (mkF m 62 #[.val (.ref wW4)] [])) rfl (hb hby own_d2_62)
  obtain ⟨fs, hr, hrun, hended, hW, hsame⟩ := X2.leave (v := some (.ref wCW4)) (fun h => by rw [Bd.returns] at h; cases h)
  refine ⟨_, _, pre0 _ ?_, hrun, hended, _, _, rfl, ?_, ⟨_, rfl⟩, hW, hsame.mono (by decide) (by decide)⟩
  · show Steps p.tables e below (s₁.setTop (mkF m 0 #[.val (.ref wW4)] [])) _
    refine XS.aloadN X0.here hx rfl (hb hby own_d2_0) rfl rfl ?_
    show Steps p.tables e below (s₁.setTop (mkF m 1 #[.val (.ref wW4)] [(.ref wW4)])) _
    refine st1.trans ?_
    show Steps p.tables e below (T1.setTop (mkF m 4 #[.val (.ref wW4)] [(.int (3 : Int32))])) _
    refine XS.tswIn X1.here hx rfl (o := 58) (pc0 := 4) (pc' := 62) rfl (hb hby own_d2_4) rfl (by decide) rfl (by decide) (by decide) ?_
    show Steps p.tables e below (T1.setTop (mkF m 62 #[.val (.ref wW4)] [])) _
    refine st2 _ ?_
    show Steps p.tables e below (T2.setTop (mkF m 65 #[.val (.ref wW4)] [(.ref wCW4)])) _
    refine XS.goto X2.here hx rfl (pc0 := 65) (pc' := 81) rfl (hb hby own_d2_65) (by decide) (by decide) ?_
    show Steps p.tables e below (T2.setTop (mkF m 81 #[.val (.ref wW4)] [(.ref wCW4)])) _
    jvm_step X2.here [X2.here.top, hx, (hb hby own_d2_81), X2.method', Bd.returns, Value.isRef, FieldType.isReference]
    first | (intro acts; rw [hr _ acts rfl rfl rfl]) | rw [hr _ _ rfl rfl rfl]
    exact Steps.refl _
  · show OwnQ _ h0 n0 _ T2.heap _
    exact ⟨rfl, N1, e2⟩
set_option maxRecDepth 65536 in
set_option maxHeartbeats 40000000 in
theorem own_statesCredential_15 (l : Launch) (Z : State) (a0 : Array Value) (hw : ∀ d ∈ tables_1, d.before a0 Z = true) (ws : List Jvm.Cond) (wW1 : Addr) (wW2 : Addr) (wW3 : Addr) (wW4 : Addr) (wW5 : Addr) (wW6 : Addr) (wCW1 : Addr) (wCW2 : Addr) (wCW3 : Addr) (wCW4 : Addr) (wCW5 : Addr) (wCW6 : Addr) (G : OwnG Z wW1 wW2 wW3 wW4 wW5 wW6 wCW1 wCW2 wCW3 wCW4 wCW5 wCW6) (h0 : Heap) (n0 : Nat) (O0 : Old Z n0 h0) :
    MetFree l (⟨"com/example/credlib/credlib/engine/Rule", "statesCredential", "()Z"⟩ : MethodName) (head1 (Jvm.Cond.code (⟨"com/example/credlib/credlib/engine/Rule", "statesCredential", "()Z"⟩ : MethodName) prog_18_method_4_code 1 (some .boolean) :: ws) ({ frames := 0, cells := 0, slots := 0, locals := 0 } : Room)) (fun a U => a = #[(.ref wCW4)] ∧ Z.Warmed39 U.vm ∧ U.heap = h0) (fun _ _ _ _ _ => True) (fun _ U o U' => ∃ v L, o = .returned v ∧ OwnQ (some (.int (0 : Int32))) h0 n0 v U'.heap L ∧ FrameEnd U o U' L ({ frames := 0, cells := 0, slots := 0, locals := 0 } : Room).cells ({ frames := 0, cells := 0, slots := 0, locals := 0 } : Room).slots) := by
  refine MetFree.of_bodySF (plainFor_of_name own_pn_1) hisR ?_
  intro p e s m args below meth c s₁ Bd hml0 hP hK
  obtain ⟨rfl, hZ, hh⟩ := hP
  have hx := Bd.exec
  have hby := Bd.bytes
  have hml : c.maxLocals = 1 := hml0
  have hown : s.vm.findClass "com/example/credlib/credlib/engine/Rule" = some m.cls := findClass_of_methodNamed Bd.named
  have hnm := (name_of_methodNamed Bd.named Bd.method).1
  have X0 : Stand p l e ({ frames := 0, cells := 0, slots := 0, locals := 0 } : Room) s m #[(.ref wCW4)] below meth c s₁ [] 0 0 := Stand.of_body Bd
  have e0 : s₁.heap = h0 := by rw [← hh, Bd.state]; rfl
  have N0 := Fr.nil n0
  have pre0 : ∀ t, Steps p.tables e below (s₁.setTop (mkF m 0 #[.val (.ref wCW4)] [])) t → Steps p.tables e below (s₁.setTop (entryFrame m #[(.ref wCW4)] 1)) t := fun t k => castTop (own_ef_1_R m wCW4) k
  obtain ⟨T1, X1, e1, st1⟩ := getS2 X0 hx hZ hown (host := "") (Or.inl (hw _ (List.mem_of_getElem? (i := 34) rfl))) Via.refl e0 (G.1.ext O0.2) (g := (mkF m 1 #[.val (.ref wCW4)] [(.ref wCW4)])) rfl (hb hby own_d1_1)
  obtain ⟨T2, X2, e2, st2⟩ := getS2 X1 hx hZ hown (host := "") (Or.inl (hw _ (List.mem_of_getElem? (i := 49) rfl))) Via.refl e1 (G.2.2.2.2.2.2.2.2.2.2.2.2.1.ext O0.2) (g := (mkF m 8 #[.val (.ref wCW4)] [(.ref wCW4)])) rfl (hb hby own_d1_8)
  obtain ⟨fs, hr, hrun, hended, hW, hsame⟩ := X2.leave (v := some (.int (0 : Int32))) (fun h => by rw [Bd.returns] at h; cases h)
  refine ⟨_, _, pre0 _ ?_, hrun, hended, _, _, rfl, ?_, ⟨_, rfl⟩, hW, hsame.mono (by decide) (by decide)⟩
  · show Steps p.tables e below (s₁.setTop (mkF m 0 #[.val (.ref wCW4)] [])) _
    refine XS.aloadN X0.here hx rfl (hb hby own_d1_0) rfl rfl ?_
    show Steps p.tables e below (s₁.setTop (mkF m 1 #[.val (.ref wCW4)] [(.ref wCW4)])) _
    refine st1 _ ?_
    show Steps p.tables e below (T1.setTop (mkF m 4 #[.val (.ref wCW4)] [(.ref wW1), (.ref wCW4)])) _
    refine Jvm.RoadKit.acmp (g := (mkF m 4 #[.val (.ref wCW4)] [(.ref wW1), (.ref wCW4)])) X1 hx rfl rfl rfl (pc0 := 4) (pc' := 7) (same := false) rfl (hb hby own_d1_4) rfl (decide_eq_false fun q => (Ne.symm G.2.2.2.2.2.2.2.2.2.2.2.2.2.2.2.2.2.2.2.2.2.2.2.2.2.2.2.2.2.2.2.2.2.2.2.2.2.2.1) (Value.ref.inj q)) (by decide) (by decide) ?_
    show Steps p.tables e below (T1.setTop (mkF m 7 #[.val (.ref wCW4)] [])) _
    refine XS.aloadN X1.here hx rfl (hb hby own_d1_7) rfl rfl ?_
    show Steps p.tables e below (T1.setTop (mkF m 8 #[.val (.ref wCW4)] [(.ref wCW4)])) _
    refine st2 _ ?_
    show Steps p.tables e below (T2.setTop (mkF m 11 #[.val (.ref wCW4)] [(.ref wCW1), (.ref wCW4)])) _
    refine Jvm.RoadKit.acmp (g := (mkF m 11 #[.val (.ref wCW4)] [(.ref wCW1), (.ref wCW4)])) X2 hx rfl rfl rfl (pc0 := 11) (pc' := 18) (same := false) rfl (hb hby own_d1_11) rfl (decide_eq_false fun q => (Ne.symm G.2.2.2.2.2.2.2.2.2.2.2.2.2.2.2.2.2.2.2.2.2.2.2.2.2.2.2.2.2.2.2.2.2.2.2.2.2.2.2.2.2.2.2.2.2.2.2.1) (Value.ref.inj q)) (by decide) (by decide) ?_
    show Steps p.tables e below (T2.setTop (mkF m 18 #[.val (.ref wCW4)] [])) _
    refine XS.iconst X2.here hx rfl (hb hby own_d1_18) ?_
    show Steps p.tables e below (T2.setTop (mkF m 19 #[.val (.ref wCW4)] [(.int (0 : Int32))])) _
    exact retN X2 hx (t := .boolean) Bd.returns (by simp) (hb hby own_d1_19) hr
  · show OwnQ _ h0 n0 _ T2.heap _
    exact ⟨rfl, N0, e2⟩
set_option maxRecDepth 65536 in
set_option maxHeartbeats 40000000 in
theorem own_law_3 (l : Launch) (Z : State) (a0 : Array Value) (hw : ∀ d ∈ tables_1, d.before a0 Z = true) (ws : List Jvm.Cond) (wW1 : Addr) (wW2 : Addr) (wW3 : Addr) (wW4 : Addr) (wW5 : Addr) (wW6 : Addr) (wCW1 : Addr) (wCW2 : Addr) (wCW3 : Addr) (wCW4 : Addr) (wCW5 : Addr) (wCW6 : Addr) (G : OwnG Z wW1 wW2 wW3 wW4 wW5 wW6 wCW1 wCW2 wCW3 wCW4 wCW5 wCW6) (h0 : Heap) (n0 : Nat) (O0 : Old Z n0 h0) (p1 : Int32) (hi : ((p1 &&& (2147483647 : Int32)) % (12 : Int32)) = (3 : Int32)) :
    MetFree l x (head1 (Jvm.Cond.code x code maxLocals ret :: ws) room_1) (fun a U => a = #[(.int p1)] ∧ Z.Warmed39 U.vm ∧ U.heap = h0) (fun _ _ _ _ _ => True) (fun _ U o U' => ∃ v L, o = .returned v ∧ (v = some (.int 1) ∧ Fr n0 L) ∧ FrameEnd U o U' L room_1.cells room_1.slots) := by
  refine MetFree.of_bodySF (plainFor_of_name own_pn_0) hisR ?_
  intro p e s m args below meth c s₁ Bd hml0 hP hK
  obtain ⟨rfl, hZ, hh⟩ := hP
  have hx := Bd.exec
  have hby := Bd.bytes
  have hml : c.maxLocals = 7 := hml0
  have hown : s.vm.findClass "com/example/credlib/credlib/engine/RuleStatesCredentialPinLaw" = some m.cls := findClass_of_methodNamed Bd.named
  have hnm := (name_of_methodNamed Bd.named Bd.method).1
  have X0 : Stand p l e room_1 s m #[(.int p1)] below meth c s₁ [] 0 0 := Stand.of_body Bd
  have e0 : s₁.heap = h0 := by rw [← hh, Bd.state]; rfl
  have N0 := Fr.nil n0
  have pre0 : ∀ t, Steps p.tables e below (s₁.setTop (mkF m 0 #[.val (.int p1), .unset, .unset, .unset, .unset, .unset, .unset] [])) t → Steps p.tables e below (s₁.setTop (entryFrame m #[(.int p1)] maxLocals)) t := fun t k => castTop (own_ef_0_I m p1) k
  obtain ⟨T1, h1, k1, X1, e1, E1, A1, Ov1, st1⟩ := newR X0 hx hZ hown (hw _ (List.mem_of_getElem? (i := 0) rfl)) (hw _ (List.mem_of_getElem? (i := 1) rfl)) e0 (g := (mkF m 2 #[.val (.int p1), .unset, .unset, .unset, .unset, .unset, .unset] [(.int (12 : Int32))])) rfl (hb hby at_2) rfl (by decide) (cap := 12) (by decide) (by decide) (by decide) (by decide)
  obtain ⟨b1, g1⟩ : ∃ z, z = h0.size := ⟨_, rfl⟩
  rw [← g1] at A1 st1
  have ge_b1 : n0 ≤ b1 := own_new O0 g1
  have sz_b1 : h0.size ≤ b1 := Nat.le_trans (Keep.refl h0 []).1 (Nat.le_of_eq g1.symm)
  have O1 := O0.ext E1
  have K1 := (Keep.refl h0 []).ext E1
  have V1 : Arv Z h1 b1 k1 (.object "com/example/credlib/credlib/engine/Rule") (12 : Int32) [.null, .null, .null, .null, .null, .null, .null, .null, .null, .null, .null, .null] .null := (Arv.new A1 (by decide)).pad (pad_rep [] .null 12)
  obtain ⟨T2, X2, e2, st2⟩ := getS2 X1 hx hZ hown (host := "") (Or.inl (hw _ (List.mem_of_getElem? (i := 2) rfl))) Via.refl e1 (G.1.ext O1.2) (g := (mkF m 7 #[.val (.int p1), .unset, .unset, .unset, .unset, .unset, .unset] [(.int (0 : Int32)), (.ref b1), (.ref b1)])) rfl (hb hby at_7)
  obtain ⟨cl3, Ar3, qk3, Sz3, Nn3, Hs3, Gs3⟩ := id (V1)
  have hin3 : ¬ ((0 : Int32) < 0 ∨ cl3.slots.size ≤ ((0 : Int32)).toNatClampNeg) := inb_of Sz3 ⟨by decide, by decide⟩
  obtain ⟨T3, h3, X3, e3, W3, st3⟩ := stR X2 hx hZ e2 Ar3 (j := (0 : Int32)) hin3 rfl (Sto.ofV Ar3 qk3 Ov1 (Ins.self (G.2.1.ext O1.2))) (g := (mkF m 10 #[.val (.int p1), .unset, .unset, .unset, .unset, .unset, .unset] [(.ref wW1), (.int (0 : Int32)), (.ref b1), (.ref b1)])) rfl rfl (hb hby at_10)
  have V3 := Arv.set Ar3 qk3 Sz3 Nn3 Hs3 Gs3 rfl W3 0 rfl (Nat.le_of_ble_eq_true rfl)
  have O3 := O1.wr W3 ge_b1
  have K3 := K1.wr W3 (Or.inr sz_b1)
  have N3 := Fr.snoc X3 N0 ge_b1
  obtain ⟨T4, X4, e4, st4⟩ := getS2 X3 hx hZ hown (host := "") (Or.inl (hw _ (List.mem_of_getElem? (i := 6) rfl))) Via.refl e3 (G.2.2.1.ext O3.2) (g := (mkF m 13 #[.val (.int p1), .unset, .unset, .unset, .unset, .unset, .unset] [(.int (1 : Int32)), (.ref b1), (.ref b1)])) rfl (hb hby at_13)
  obtain ⟨cl5, Ar5, qk5, Sz5, Nn5, Hs5, Gs5⟩ := id (V3)
  have hin5 : ¬ ((1 : Int32) < 0 ∨ cl5.slots.size ≤ ((1 : Int32)).toNatClampNeg) := inb_of Sz5 ⟨by decide, by decide⟩
  obtain ⟨T5, h5, X5, e5, W5, st5⟩ := stR X4 hx hZ e4 Ar5 (j := (1 : Int32)) hin5 rfl (Sto.ofV Ar5 qk5 Ov1 (Ins.self (G.2.2.2.1.ext O3.2))) (g := (mkF m 16 #[.val (.int p1), .unset, .unset, .unset, .unset, .unset, .unset] [(.ref wW2), (.int (1 : Int32)), (.ref b1), (.ref b1)])) rfl rfl (hb hby at_16)
  have V5 := Arv.set Ar5 qk5 Sz5 Nn5 Hs5 Gs5 rfl W5 1 rfl (Nat.le_of_ble_eq_true rfl)
  have O5 := O3.wr W5 ge_b1
  have K5 := K3.wr W5 (Or.inr sz_b1)
  have N5 := Fr.snoc X5 N3 ge_b1
  obtain ⟨T6, X6, e6, st6⟩ := getS2 X5 hx hZ hown (host := "") (Or.inl (hw _ (List.mem_of_getElem? (i := 8) rfl))) Via.refl e5 (G.2.2.2.2.1.ext O5.2) (g := (mkF m 19 #[.val (.int p1), .unset, .unset, .unset, .unset, .unset, .unset] [(.int (2 : Int32)), (.ref b1), (.ref b1)])) rfl (hb hby at_19)
  obtain ⟨cl7, Ar7, qk7, Sz7, Nn7, Hs7, Gs7⟩ := id (V5)
  have hin7 : ¬ ((2 : Int32) < 0 ∨ cl7.slots.size ≤ ((2 : Int32)).toNatClampNeg) := inb_of Sz7 ⟨by decide, by decide⟩
  obtain ⟨T7, h7, X7, e7, W7, st7⟩ := stR X6 hx hZ e6 Ar7 (j := (2 : Int32)) hin7 rfl (Sto.ofV Ar7 qk7 Ov1 (Ins.self (G.2.2.2.2.2.1.ext O5.2))) (g := (mkF m 22 #[.val (.int p1), .unset, .unset, .unset, .unset, .unset, .unset] [(.ref wW3), (.int (2 : Int32)), (.ref b1), (.ref b1)])) rfl rfl (hb hby at_22)
  have V7 := Arv.set Ar7 qk7 Sz7 Nn7 Hs7 Gs7 rfl W7 2 rfl (Nat.le_of_ble_eq_true rfl)
  have O7 := O5.wr W7 ge_b1
  have K7 := K5.wr W7 (Or.inr sz_b1)
  have N7 := Fr.snoc X7 N5 ge_b1
  obtain ⟨T8, X8, e8, st8⟩ := getS2 X7 hx hZ hown (host := "") (Or.inl (hw _ (List.mem_of_getElem? (i := 10) rfl))) Via.refl e7 (G.2.2.2.2.2.2.1.ext O7.2) (g := (mkF m 25 #[.val (.int p1), .unset, .unset, .unset, .unset, .unset, .unset] [(.int (3 : Int32)), (.ref b1), (.ref b1)])) rfl (hb hby at_25)
  obtain ⟨cl9, Ar9, qk9, Sz9, Nn9, Hs9, Gs9⟩ := id (V7)
  have hin9 : ¬ ((3 : Int32) < 0 ∨ cl9.slots.size ≤ ((3 : Int32)).toNatClampNeg) := inb_of Sz9 ⟨by decide, by decide⟩
  obtain ⟨T9, h9, X9, e9, W9, st9⟩ := stR X8 hx hZ e8 Ar9 (j := (3 : Int32)) hin9 rfl (Sto.ofV Ar9 qk9 Ov1 (Ins.self (G.2.2.2.2.2.2.2.1.ext O7.2))) (g := (mkF m 28 #[.val (.int p1), .unset, .unset, .unset, .unset, .unset, .unset] [(.ref wW4), (.int (3 : Int32)), (.ref b1), (.ref b1)])) rfl rfl (hb hby at_28)
  have V9 := Arv.set Ar9 qk9 Sz9 Nn9 Hs9 Gs9 rfl W9 3 rfl (Nat.le_of_ble_eq_true rfl)
  have O9 := O7.wr W9 ge_b1
  have K9 := K7.wr W9 (Or.inr sz_b1)
  have N9 := Fr.snoc X9 N7 ge_b1
  obtain ⟨T10, X10, e10, st10⟩ := getS2 X9 hx hZ hown (host := "") (Or.inl (hw _ (List.mem_of_getElem? (i := 12) rfl))) Via.refl e9 (G.2.2.2.2.2.2.2.2.1.ext O9.2) (g := (mkF m 31 #[.val (.int p1), .unset, .unset, .unset, .unset, .unset, .unset] [(.int (4 : Int32)), (.ref b1), (.ref b1)])) rfl (hb hby at_31)
  obtain ⟨cl11, Ar11, qk11, Sz11, Nn11, Hs11, Gs11⟩ := id (V9)
  have hin11 : ¬ ((4 : Int32) < 0 ∨ cl11.slots.size ≤ ((4 : Int32)).toNatClampNeg) := inb_of Sz11 ⟨by decide, by decide⟩
  obtain ⟨T11, h11, X11, e11, W11, st11⟩ := stR X10 hx hZ e10 Ar11 (j := (4 : Int32)) hin11 rfl (Sto.ofV Ar11 qk11 Ov1 (Ins.self (G.2.2.2.2.2.2.2.2.2.1.ext O9.2))) (g := (mkF m 34 #[.val (.int p1), .unset, .unset, .unset, .unset, .unset, .unset] [(.ref wW5), (.int (4 : Int32)), (.ref b1), (.ref b1)])) rfl rfl (hb hby at_34)
  have V11 := Arv.set Ar11 qk11 Sz11 Nn11 Hs11 Gs11 rfl W11 4 rfl (Nat.le_of_ble_eq_true rfl)
  have O11 := O9.wr W11 ge_b1
  have K11 := K9.wr W11 (Or.inr sz_b1)
  have N11 := Fr.snoc X11 N9 ge_b1
  obtain ⟨T12, X12, e12, st12⟩ := getS2 X11 hx hZ hown (host := "") (Or.inl (hw _ (List.mem_of_getElem? (i := 14) rfl))) Via.refl e11 (G.2.2.2.2.2.2.2.2.2.2.1.ext O11.2) (g := (mkF m 37 #[.val (.int p1), .unset, .unset, .unset, .unset, .unset, .unset] [(.int (5 : Int32)), (.ref b1), (.ref b1)])) rfl (hb hby at_37)
  obtain ⟨cl13, Ar13, qk13, Sz13, Nn13, Hs13, Gs13⟩ := id (V11)
  have hin13 : ¬ ((5 : Int32) < 0 ∨ cl13.slots.size ≤ ((5 : Int32)).toNatClampNeg) := inb_of Sz13 ⟨by decide, by decide⟩
  obtain ⟨T13, h13, X13, e13, W13, st13⟩ := stR X12 hx hZ e12 Ar13 (j := (5 : Int32)) hin13 rfl (Sto.ofV Ar13 qk13 Ov1 (Ins.self (G.2.2.2.2.2.2.2.2.2.2.2.1.ext O11.2))) (g := (mkF m 40 #[.val (.int p1), .unset, .unset, .unset, .unset, .unset, .unset] [(.ref wW6), (.int (5 : Int32)), (.ref b1), (.ref b1)])) rfl rfl (hb hby at_40)
  have V13 := Arv.set Ar13 qk13 Sz13 Nn13 Hs13 Gs13 rfl W13 5 rfl (Nat.le_of_ble_eq_true rfl)
  have O13 := O11.wr W13 ge_b1
  have K13 := K11.wr W13 (Or.inr sz_b1)
  have N13 := Fr.snoc X13 N11 ge_b1
  obtain ⟨T14, X14, e14, st14⟩ := getS2 X13 hx hZ hown (host := "") (Or.inl (hw _ (List.mem_of_getElem? (i := 16) rfl))) Via.refl e13 (G.2.2.2.2.2.2.2.2.2.2.2.2.1.ext O13.2) (g := (mkF m 44 #[.val (.int p1), .unset, .unset, .unset, .unset, .unset, .unset] [(.int (6 : Int32)), (.ref b1), (.ref b1)])) rfl (hb hby at_44)
  obtain ⟨cl15, Ar15, qk15, Sz15, Nn15, Hs15, Gs15⟩ := id (V13)
  have hin15 : ¬ ((6 : Int32) < 0 ∨ cl15.slots.size ≤ ((6 : Int32)).toNatClampNeg) := inb_of Sz15 ⟨by decide, by decide⟩
  obtain ⟨T15, h15, X15, e15, W15, st15⟩ := stR X14 hx hZ e14 Ar15 (j := (6 : Int32)) hin15 rfl (Sto.ofV Ar15 qk15 Ov1 (Ins.self (G.2.2.2.2.2.2.2.2.2.2.2.2.2.1.ext O13.2))) (g := (mkF m 47 #[.val (.int p1), .unset, .unset, .unset, .unset, .unset, .unset] [(.ref wCW1), (.int (6 : Int32)), (.ref b1), (.ref b1)])) rfl rfl (hb hby at_47)
  have V15 := Arv.set Ar15 qk15 Sz15 Nn15 Hs15 Gs15 rfl W15 6 rfl (Nat.le_of_ble_eq_true rfl)
  have O15 := O13.wr W15 ge_b1
  have K15 := K13.wr W15 (Or.inr sz_b1)
  have N15 := Fr.snoc X15 N13 ge_b1
  obtain ⟨T16, X16, e16, st16⟩ := getS2 X15 hx hZ hown (host := "") (Or.inl (hw _ (List.mem_of_getElem? (i := 18) rfl))) Via.refl e15 (G.2.2.2.2.2.2.2.2.2.2.2.2.2.2.1.ext O15.2) (g := (mkF m 51 #[.val (.int p1), .unset, .unset, .unset, .unset, .unset, .unset] [(.int (7 : Int32)), (.ref b1), (.ref b1)])) rfl (hb hby at_51)
  obtain ⟨cl17, Ar17, qk17, Sz17, Nn17, Hs17, Gs17⟩ := id (V15)
  have hin17 : ¬ ((7 : Int32) < 0 ∨ cl17.slots.size ≤ ((7 : Int32)).toNatClampNeg) := inb_of Sz17 ⟨by decide, by decide⟩
  obtain ⟨T17, h17, X17, e17, W17, st17⟩ := stR X16 hx hZ e16 Ar17 (j := (7 : Int32)) hin17 rfl (Sto.ofV Ar17 qk17 Ov1 (Ins.self (G.2.2.2.2.2.2.2.2.2.2.2.2.2.2.2.1.ext O15.2))) (g := (mkF m 54 #[.val (.int p1), .unset, .unset, .unset, .unset, .unset, .unset] [(.ref wCW2), (.int (7 : Int32)), (.ref b1), (.ref b1)])) rfl rfl (hb hby at_54)
  have V17 := Arv.set Ar17 qk17 Sz17 Nn17 Hs17 Gs17 rfl W17 7 rfl (Nat.le_of_ble_eq_true rfl)
  have O17 := O15.wr W17 ge_b1
  have K17 := K15.wr W17 (Or.inr sz_b1)
  have N17 := Fr.snoc X17 N15 ge_b1
  obtain ⟨T18, X18, e18, st18⟩ := getS2 X17 hx hZ hown (host := "") (Or.inl (hw _ (List.mem_of_getElem? (i := 20) rfl))) Via.refl e17 (G.2.2.2.2.2.2.2.2.2.2.2.2.2.2.2.2.1.ext O17.2) (g := (mkF m 58 #[.val (.int p1), .unset, .unset, .unset, .unset, .unset, .unset] [(.int (8 : Int32)), (.ref b1), (.ref b1)])) rfl (hb hby at_58)
  obtain ⟨cl19, Ar19, qk19, Sz19, Nn19, Hs19, Gs19⟩ := id (V17)
  have hin19 : ¬ ((8 : Int32) < 0 ∨ cl19.slots.size ≤ ((8 : Int32)).toNatClampNeg) := inb_of Sz19 ⟨by decide, by decide⟩
  obtain ⟨T19, h19, X19, e19, W19, st19⟩ := stR X18 hx hZ e18 Ar19 (j := (8 : Int32)) hin19 rfl (Sto.ofV Ar19 qk19 Ov1 (Ins.self (G.2.2.2.2.2.2.2.2.2.2.2.2.2.2.2.2.2.1.ext O17.2))) (g := (mkF m 61 #[.val (.int p1), .unset, .unset, .unset, .unset, .unset, .unset] [(.ref wCW3), (.int (8 : Int32)), (.ref b1), (.ref b1)])) rfl rfl (hb hby at_61)
  have V19 := Arv.set Ar19 qk19 Sz19 Nn19 Hs19 Gs19 rfl W19 8 rfl (Nat.le_of_ble_eq_true rfl)
  have O19 := O17.wr W19 ge_b1
  have K19 := K17.wr W19 (Or.inr sz_b1)
  have N19 := Fr.snoc X19 N17 ge_b1
  obtain ⟨T20, X20, e20, st20⟩ := getS2 X19 hx hZ hown (host := "") (Or.inl (hw _ (List.mem_of_getElem? (i := 22) rfl))) Via.refl e19 (G.2.2.2.2.2.2.2.2.2.2.2.2.2.2.2.2.2.2.1.ext O19.2) (g := (mkF m 65 #[.val (.int p1), .unset, .unset, .unset, .unset, .unset, .unset] [(.int (9 : Int32)), (.ref b1), (.ref b1)])) rfl (hb hby at_65)
  obtain ⟨cl21, Ar21, qk21, Sz21, Nn21, Hs21, Gs21⟩ := id (V19)
  have hin21 : ¬ ((9 : Int32) < 0 ∨ cl21.slots.size ≤ ((9 : Int32)).toNatClampNeg) := inb_of Sz21 ⟨by decide, by decide⟩
  obtain ⟨T21, h21, X21, e21, W21, st21⟩ := stR X20 hx hZ e20 Ar21 (j := (9 : Int32)) hin21 rfl (Sto.ofV Ar21 qk21 Ov1 (Ins.self (G.2.2.2.2.2.2.2.2.2.2.2.2.2.2.2.2.2.2.2.1.ext O19.2))) (g := (mkF m 68 #[.val (.int p1), .unset, .unset, .unset, .unset, .unset, .unset] [(.ref wCW4), (.int (9 : Int32)), (.ref b1), (.ref b1)])) rfl rfl (hb hby at_68)
  have V21 := Arv.set Ar21 qk21 Sz21 Nn21 Hs21 Gs21 rfl W21 9 rfl (Nat.le_of_ble_eq_true rfl)
  have O21 := O19.wr W21 ge_b1
  have K21 := K19.wr W21 (Or.inr sz_b1)
  have N21 := Fr.snoc X21 N19 ge_b1
  obtain ⟨T22, X22, e22, st22⟩ := getS2 X21 hx hZ hown (host := "") (Or.inl (hw _ (List.mem_of_getElem? (i := 24) rfl))) Via.refl e21 (G.2.2.2.2.2.2.2.2.2.2.2.2.2.2.2.2.2.2.2.2.1.ext O21.2) (g := (mkF m 72 #[.val (.int p1), .unset, .unset, .unset, .unset, .unset, .unset] [(.int (10 : Int32)), (.ref b1), (.ref b1)])) rfl (hb hby at_72)
  obtain ⟨cl23, Ar23, qk23, Sz23, Nn23, Hs23, Gs23⟩ := id (V21)
  have hin23 : ¬ ((10 : Int32) < 0 ∨ cl23.slots.size ≤ ((10 : Int32)).toNatClampNeg) := inb_of Sz23 ⟨by decide, by decide⟩
  obtain ⟨T23, h23, X23, e23, W23, st23⟩ := stR X22 hx hZ e22 Ar23 (j := (10 : Int32)) hin23 rfl (Sto.ofV Ar23 qk23 Ov1 (Ins.self (G.2.2.2.2.2.2.2.2.2.2.2.2.2.2.2.2.2.2.2.2.2.1.ext O21.2))) (g := (mkF m 75 #[.val (.int p1), .unset, .unset, .unset, .unset, .unset, .unset] [(.ref wCW5), (.int (10 : Int32)), (.ref b1), (.ref b1)])) rfl rfl (hb hby at_75)
  have V23 := Arv.set Ar23 qk23 Sz23 Nn23 Hs23 Gs23 rfl W23 10 rfl (Nat.le_of_ble_eq_true rfl)
  have O23 := O21.wr W23 ge_b1
  have K23 := K21.wr W23 (Or.inr sz_b1)
  have N23 := Fr.snoc X23 N21 ge_b1
  obtain ⟨T24, X24, e24, st24⟩ := getS2 X23 hx hZ hown (host := "") (Or.inl (hw _ (List.mem_of_getElem? (i := 26) rfl))) Via.refl e23 (G.2.2.2.2.2.2.2.2.2.2.2.2.2.2.2.2.2.2.2.2.2.2.1.ext O23.2) (g := (mkF m 79 #[.val (.int p1), .unset, .unset, .unset, .unset, .unset, .unset] [(.int (11 : Int32)), (.ref b1), (.ref b1)])) rfl (hb hby at_79)
  obtain ⟨cl25, Ar25, qk25, Sz25, Nn25, Hs25, Gs25⟩ := id (V23)
  have hin25 : ¬ ((11 : Int32) < 0 ∨ cl25.slots.size ≤ ((11 : Int32)).toNatClampNeg) := inb_of Sz25 ⟨by decide, by decide⟩
  obtain ⟨T25, h25, X25, e25, W25, st25⟩ := stR X24 hx hZ e24 Ar25 (j := (11 : Int32)) hin25 rfl (Sto.ofV Ar25 qk25 Ov1 (Ins.self (G.2.2.2.2.2.2.2.2.2.2.2.2.2.2.2.2.2.2.2.2.2.2.2.1.ext O23.2))) (g := (mkF m 82 #[.val (.int p1), .unset, .unset, .unset, .unset, .unset, .unset] [(.ref wCW6), (.int (11 : Int32)), (.ref b1), (.ref b1)])) rfl rfl (hb hby at_82)
  have V25 := Arv.set Ar25 qk25 Sz25 Nn25 Hs25 Gs25 rfl W25 11 rfl (Nat.le_of_ble_eq_true rfl)
  have O25 := O23.wr W25 ge_b1
  have K25 := K23.wr W25 (Or.inr sz_b1)
  have N25 := Fr.snoc X25 N23 ge_b1
  obtain ⟨cl26, Ar26, qk26, Sz26, Nn26, Hs26, Gs26⟩ := id (V25)
  have hin27 : ¬ ((3 : Int32) < 0 ∨ cl26.slots.size ≤ ((3 : Int32)).toNatClampNeg) := inb_of Sz26 ⟨by decide, by decide⟩
  have hat27 : cl26.slots[((3 : Int32)).toNatClampNeg]? = some (.ref wW4) := Hs26.at hin27 rfl
  obtain ⟨cq28, kq28, q28a, q28b, q28c⟩ := isOf hZ e25 (G.2.2.2.2.2.2.2.1.ext O25.2)
  obtain ⟨_, _, ⟨T28, L28, k28, n28⟩, -, X28, ⟨Lc28, hQ28, l28, y28, z28⟩, st28⟩ := X25.virtualBack hx (y := (⟨"com/example/credlib/credlib/engine/Rule", "statesCredential", "()Z"⟩ : MethodName)) (z := (⟨"com/example/credlib/credlib/engine/Rule", "statesCredential", "()Z"⟩ : MethodName)) hown (mvT hZ (hw _ (List.mem_of_getElem? (i := 29) rfl))) (mvT hZ (hw _ (List.mem_of_getElem? (i := 30) rfl))) (notFace_of_selects (args := #[]) (mvT hZ (hw _ (List.mem_of_getElem? (i := 32) rfl)))) (mvT hZ (hw _ (List.mem_of_getElem? (i := 32) rfl))) (mvT hZ (hw _ (List.mem_of_getElem? (i := 31) rfl))) (by decide) (backOf (W := 0) (own_statesCredential_12 l Z a0 hw [] wW1 wW2 wW3 wW4 wW5 wW6 wCW1 wCW2 wCW3 wCW4 wCW5 wCW6 G h25 n0 O25) hZ (hw _ (List.mem_of_getElem? (i := 33) rfl)) (hw _ (List.mem_of_getElem? (i := 3) rfl)) (by decide) (by decide)) q28a q28c (g := (mkF m 111 #[.val (.int p1), .val (.ref b1), .val (.int (3 : Int32)), .val (.ref wW4), .val (.int (0 : Int32)), .unset, .unset] [(.ref wW4)])) rfl (by rw [hml]; rfl) (Steps.refl _) (argsL := []) (rest := []) (lenOf own_pd_0 rfl) rfl (by show 2 * 0 + _ ≤ _; exact Nat.le_of_eq rfl) (hb hby at_111) (fun _ _ => ⟨rfl, e25, (by decide : 1 + 0 ≤ _), (by decide : 12 + 0 ≤ _)⟩)
  dsimp only [Pt.U, Pt.locs, Pt.cells, Pt.slots] at X28 l28 y28 z28 st28 hQ28
  subst l28 y28 z28
  obtain ⟨rfl, N28q, e28⟩ := hQ28
  have N28 := Fr.app N25 N28q
  obtain ⟨cq29, kq29, q29a, q29b, q29c⟩ := isOf hZ e28 (G.2.2.2.2.2.2.2.1.ext O25.2)
  obtain ⟨_, _, ⟨T29, L29, k29, n29⟩, -, X29, ⟨Lc29, hQ29, l29, y29, z29⟩, st29⟩ := X28.virtualBack hx (y := (⟨"com/example/credlib/credlib/engine/Rule", "atInstant", "()Lcom/example/credlib/credlib/engine/Rule;"⟩ : MethodName)) (z := (⟨"com/example/credlib/credlib/engine/Rule", "atInstant", "()Lcom/example/credlib/credlib/engine/Rule;"⟩ : MethodName)) hown (mvT hZ (hw _ (List.mem_of_getElem? (i := 35) rfl))) (mvT hZ (hw _ (List.mem_of_getElem? (i := 36) rfl))) (notFace_of_selects (args := #[]) (mvT hZ (hw _ (List.mem_of_getElem? (i := 38) rfl)))) (mvT hZ (hw _ (List.mem_of_getElem? (i := 38) rfl))) (mvT hZ (hw _ (List.mem_of_getElem? (i := 37) rfl))) (by decide) (backOf (W := 0) (own_atInstant_13 l Z a0 hw [] wW1 wW2 wW3 wW4 wW5 wW6 wCW1 wCW2 wCW3 wCW4 wCW5 wCW6 G h25 n0 O25) hZ (hw _ (List.mem_of_getElem? (i := 39) rfl)) (hw _ (List.mem_of_getElem? (i := 3) rfl)) (by decide) (by decide)) q29a q29c (g := (mkF m 117 #[.val (.int p1), .val (.ref b1), .val (.int (3 : Int32)), .val (.ref wW4), .val (.int (0 : Int32)), .val (.int (0 : Int32)), .unset] [(.ref wW4)])) rfl (by rw [hml]; rfl) (Steps.refl _) (argsL := []) (rest := []) (lenOf own_pd_2 rfl) rfl (by show 2 * 0 + _ ≤ _; exact Nat.le_of_eq rfl) (hb hby at_117) (fun _ _ => ⟨rfl, e28, (by decide : 1 + 0 ≤ _), (by decide : 12 + 0 ≤ _)⟩)
  dsimp only [Pt.U, Pt.locs, Pt.cells, Pt.slots] at X29 l29 y29 z29 st29 hQ29
  subst l29 y29 z29
  obtain ⟨rfl, N29q, e29⟩ := hQ29
  have N29 := Fr.app N28 N29q
  obtain ⟨cq30, kq30, q30a, q30b, q30c⟩ := isOf hZ e29 (G.2.2.2.2.2.2.2.2.2.2.2.2.2.2.2.2.2.2.2.1.ext O25.2)
  obtain ⟨_, _, ⟨T30, L30, k30, n30⟩, -, X30, ⟨Lc30, hQ30, l30, y30, z30⟩, st30⟩ := X29.virtualBack hx (y := (⟨"com/example/credlib/credlib/engine/Rule", "statesCredential", "()Z"⟩ : MethodName)) (z := (⟨"com/example/credlib/credlib/engine/Rule", "statesCredential", "()Z"⟩ : MethodName)) hown (mvT hZ (hw _ (List.mem_of_getElem? (i := 29) rfl))) (mvT hZ (hw _ (List.mem_of_getElem? (i := 30) rfl))) (notFace_of_selects (args := #[]) (mvT hZ (hw _ (List.mem_of_getElem? (i := 32) rfl)))) (mvT hZ (hw _ (List.mem_of_getElem? (i := 32) rfl))) (mvT hZ (hw _ (List.mem_of_getElem? (i := 31) rfl))) (by decide) (backOf (W := 0) (own_statesCredential_15 l Z a0 hw [] wW1 wW2 wW3 wW4 wW5 wW6 wCW1 wCW2 wCW3 wCW4 wCW5 wCW6 G h25 n0 O25) hZ (hw _ (List.mem_of_getElem? (i := 33) rfl)) (hw _ (List.mem_of_getElem? (i := 3) rfl)) (by decide) (by decide)) q30a q30c (g := (mkF m 120 #[.val (.int p1), .val (.ref b1), .val (.int (3 : Int32)), .val (.ref wW4), .val (.int (0 : Int32)), .val (.int (0 : Int32)), .unset] [(.ref wCW4)])) rfl (by rw [hml]; rfl) (Steps.refl _) (argsL := []) (rest := []) (lenOf own_pd_0 rfl) rfl (by show 2 * 0 + _ ≤ _; exact Nat.le_of_eq rfl) (hb hby at_120) (fun _ _ => ⟨rfl, e29, (by decide : 1 + 0 ≤ _), (by decide : 12 + 0 ≤ _)⟩)
  dsimp only [Pt.U, Pt.locs, Pt.cells, Pt.slots] at X30 l30 y30 z30 st30 hQ30
  subst l30 y30 z30
  obtain ⟨rfl, N30q, e30⟩ := hQ30
  have N30 := Fr.app N29 N30q
  obtain ⟨fs, hr, hrun, hended, hW, hsame⟩ := X30.leave (v := some (.int (1 : Int32))) (fun h => by rw [Bd.returns] at h; cases h)
  refine ⟨_, _, pre0 _ ?_, hrun, hended, _, _, rfl, ?_, ⟨_, rfl⟩, hW, hsame.mono (by decide) (by decide)⟩
  · show Steps p.tables e below (s₁.setTop (mkF m 0 #[.val (.int p1), .unset, .unset, .unset, .unset, .unset, .unset] [])) _
    refine XS.bipush X0.here hx rfl (hb hby at_0) ?_
    show Steps p.tables e below (s₁.setTop (mkF m 2 #[.val (.int p1), .unset, .unset, .unset, .unset, .unset, .unset] [(.int (12 : Int32))])) _
    refine st1 _ ?_
    show Steps p.tables e below (T1.setTop (mkF m 5 #[.val (.int p1), .unset, .unset, .unset, .unset, .unset, .unset] [(.ref b1)])) _
    refine XS.dup X1.here hx rfl (hb hby at_5) rfl rfl ?_
    show Steps p.tables e below (T1.setTop (mkF m 6 #[.val (.int p1), .unset, .unset, .unset, .unset, .unset, .unset] [(.ref b1), (.ref b1)])) _
    refine XS.iconst X1.here hx rfl (hb hby at_6) ?_
    show Steps p.tables e below (T1.setTop (mkF m 7 #[.val (.int p1), .unset, .unset, .unset, .unset, .unset, .unset] [(.int (0 : Int32)), (.ref b1), (.ref b1)])) _
    refine st2 _ ?_
    show Steps p.tables e below (T2.setTop (mkF m 10 #[.val (.int p1), .unset, .unset, .unset, .unset, .unset, .unset] [(.ref wW1), (.int (0 : Int32)), (.ref b1), (.ref b1)])) _
    refine st3 _ ?_
    show Steps p.tables e below (T3.setTop (mkF m 11 #[.val (.int p1), .unset, .unset, .unset, .unset, .unset, .unset] [(.ref b1)])) _
    refine XS.dup X3.here hx rfl (hb hby at_11) rfl rfl ?_
    show Steps p.tables e below (T3.setTop (mkF m 12 #[.val (.int p1), .unset, .unset, .unset, .unset, .unset, .unset] [(.ref b1), (.ref b1)])) _
    refine XS.iconst X3.here hx rfl (hb hby at_12) ?_
    show Steps p.tables e below (T3.setTop (mkF m 13 #[.val (.int p1), .unset, .unset, .unset, .unset, .unset, .unset] [(.int (1 : Int32)), (.ref b1), (.ref b1)])) _
    refine st4 _ ?_
    show Steps p.tables e below (T4.setTop (mkF m 16 #[.val (.int p1), .unset, .unset, .unset, .unset, .unset, .unset] [(.ref wW2), (.int (1 : Int32)), (.ref b1), (.ref b1)])) _
    refine st5 _ ?_
    show Steps p.tables e below (T5.setTop (mkF m 17 #[.val (.int p1), .unset, .unset, .unset, .unset, .unset, .unset] [(.ref b1)])) _
    refine XS.dup X5.here hx rfl (hb hby at_17) rfl rfl ?_
    show Steps p.tables e below (T5.setTop (mkF m 18 #[.val (.int p1), .unset, .unset, .unset, .unset, .unset, .unset] [(.ref b1), (.ref b1)])) _
    refine XS.iconst X5.here hx rfl (hb hby at_18) ?_
    show Steps p.tables e below (T5.setTop (mkF m 19 #[.val (.int p1), .unset, .unset, .unset, .unset, .unset, .unset] [(.int (2 : Int32)), (.ref b1), (.ref b1)])) _
    refine st6 _ ?_
    show Steps p.tables e below (T6.setTop (mkF m 22 #[.val (.int p1), .unset, .unset, .unset, .unset, .unset, .unset] [(.ref wW3), (.int (2 : Int32)), (.ref b1), (.ref b1)])) _
    refine st7 _ ?_
    show Steps p.tables e below (T7.setTop (mkF m 23 #[.val (.int p1), .unset, .unset, .unset, .unset, .unset, .unset] [(.ref b1)])) _
    refine XS.dup X7.here hx rfl (hb hby at_23) rfl rfl ?_
    show Steps p.tables e below (T7.setTop (mkF m 24 #[.val (.int p1), .unset, .unset, .unset, .unset, .unset, .unset] [(.ref b1), (.ref b1)])) _
    refine XS.iconst X7.here hx rfl (hb hby at_24) ?_
    show Steps p.tables e below (T7.setTop (mkF m 25 #[.val (.int p1), .unset, .unset, .unset, .unset, .unset, .unset] [(.int (3 : Int32)), (.ref b1), (.ref b1)])) _
    refine st8 _ ?_
    show Steps p.tables e below (T8.setTop (mkF m 28 #[.val (.int p1), .unset, .unset, .unset, .unset, .unset, .unset] [(.ref wW4), (.int (3 : Int32)), (.ref b1), (.ref b1)])) _
    refine st9 _ ?_
    show Steps p.tables e below (T9.setTop (mkF m 29 #[.val (.int p1), .unset, .unset, .unset, .unset, .unset, .unset] [(.ref b1)])) _
    refine XS.dup X9.here hx rfl (hb hby at_29) rfl rfl ?_
    show Steps p.tables e below (T9.setTop (mkF m 30 #[.val (.int p1), .unset, .unset, .unset, .unset, .unset, .unset] [(.ref b1), (.ref b1)])) _
    refine XS.iconst X9.here hx rfl (hb hby at_30) ?_
    show Steps p.tables e below (T9.setTop (mkF m 31 #[.val (.int p1), .unset, .unset, .unset, .unset, .unset, .unset] [(.int (4 : Int32)), (.ref b1), (.ref b1)])) _
    refine st10 _ ?_
    show Steps p.tables e below (T10.setTop (mkF m 34 #[.val (.int p1), .unset, .unset, .unset, .unset, .unset, .unset] [(.ref wW5), (.int (4 : Int32)), (.ref b1), (.ref b1)])) _
    refine st11 _ ?_
    show Steps p.tables e below (T11.setTop (mkF m 35 #[.val (.int p1), .unset, .unset, .unset, .unset, .unset, .unset] [(.ref b1)])) _
    refine XS.dup X11.here hx rfl (hb hby at_35) rfl rfl ?_
    show Steps p.tables e below (T11.setTop (mkF m 36 #[.val (.int p1), .unset, .unset, .unset, .unset, .unset, .unset] [(.ref b1), (.ref b1)])) _
    refine XS.iconst X11.here hx rfl (hb hby at_36) ?_
    show Steps p.tables e below (T11.setTop (mkF m 37 #[.val (.int p1), .unset, .unset, .unset, .unset, .unset, .unset] [(.int (5 : Int32)), (.ref b1), (.ref b1)])) _
    refine st12 _ ?_
    show Steps p.tables e below (T12.setTop (mkF m 40 #[.val (.int p1), .unset, .unset, .unset, .unset, .unset, .unset] [(.ref wW6), (.int (5 : Int32)), (.ref b1), (.ref b1)])) _
    refine st13 _ ?_
    show Steps p.tables e below (T13.setTop (mkF m 41 #[.val (.int p1), .unset, .unset, .unset, .unset, .unset, .unset] [(.ref b1)])) _
    refine XS.dup X13.here hx rfl (hb hby at_41) rfl rfl ?_
    show Steps p.tables e below (T13.setTop (mkF m 42 #[.val (.int p1), .unset, .unset, .unset, .unset, .unset, .unset] [(.ref b1), (.ref b1)])) _
    refine XS.bipush X13.here hx rfl (hb hby at_42) ?_
    show Steps p.tables e below (T13.setTop (mkF m 44 #[.val (.int p1), .unset, .unset, .unset, .unset, .unset, .unset] [(.int (6 : Int32)), (.ref b1), (.ref b1)])) _
    refine st14 _ ?_
    show Steps p.tables e below (T14.setTop (mkF m 47 #[.val (.int p1), .unset, .unset, .unset, .unset, .unset, .unset] [(.ref wCW1), (.int (6 : Int32)), (.ref b1), (.ref b1)])) _
    refine st15 _ ?_
    show Steps p.tables e below (T15.setTop (mkF m 48 #[.val (.int p1), .unset, .unset, .unset, .unset, .unset, .unset] [(.ref b1)])) _
    refine XS.dup X15.here hx rfl (hb hby at_48) rfl rfl ?_
    show Steps p.tables e below (T15.setTop (mkF m 49 #[.val (.int p1), .unset, .unset, .unset, .unset, .unset, .unset] [(.ref b1), (.ref b1)])) _
    refine XS.bipush X15.here hx rfl (hb hby at_49) ?_
    show Steps p.tables e below (T15.setTop (mkF m 51 #[.val (.int p1), .unset, .unset, .unset, .unset, .unset, .unset] [(.int (7 : Int32)), (.ref b1), (.ref b1)])) _
    refine st16 _ ?_
    show Steps p.tables e below (T16.setTop (mkF m 54 #[.val (.int p1), .unset, .unset, .unset, .unset, .unset, .unset] [(.ref wCW2), (.int (7 : Int32)), (.ref b1), (.ref b1)])) _
    refine st17 _ ?_
    show Steps p.tables e below (T17.setTop (mkF m 55 #[.val (.int p1), .unset, .unset, .unset, .unset, .unset, .unset] [(.ref b1)])) _
    refine XS.dup X17.here hx rfl (hb hby at_55) rfl rfl ?_
    show Steps p.tables e below (T17.setTop (mkF m 56 #[.val (.int p1), .unset, .unset, .unset, .unset, .unset, .unset] [(.ref b1), (.ref b1)])) _
    refine XS.bipush X17.here hx rfl (hb hby at_56) ?_
    show Steps p.tables e below (T17.setTop (mkF m 58 #[.val (.int p1), .unset, .unset, .unset, .unset, .unset, .unset] [(.int (8 : Int32)), (.ref b1), (.ref b1)])) _
    refine st18 _ ?_
    show Steps p.tables e below (T18.setTop (mkF m 61 #[.val (.int p1), .unset, .unset, .unset, .unset, .unset, .unset] [(.ref wCW3), (.int (8 : Int32)), (.ref b1), (.ref b1)])) _
    refine st19 _ ?_
    show Steps p.tables e below (T19.setTop (mkF m 62 #[.val (.int p1), .unset, .unset, .unset, .unset, .unset, .unset] [(.ref b1)])) _
    refine XS.dup X19.here hx rfl (hb hby at_62) rfl rfl ?_
    show Steps p.tables e below (T19.setTop (mkF m 63 #[.val (.int p1), .unset, .unset, .unset, .unset, .unset, .unset] [(.ref b1), (.ref b1)])) _
    refine XS.bipush X19.here hx rfl (hb hby at_63) ?_
    show Steps p.tables e below (T19.setTop (mkF m 65 #[.val (.int p1), .unset, .unset, .unset, .unset, .unset, .unset] [(.int (9 : Int32)), (.ref b1), (.ref b1)])) _
    refine st20 _ ?_
    show Steps p.tables e below (T20.setTop (mkF m 68 #[.val (.int p1), .unset, .unset, .unset, .unset, .unset, .unset] [(.ref wCW4), (.int (9 : Int32)), (.ref b1), (.ref b1)])) _
    refine st21 _ ?_
    show Steps p.tables e below (T21.setTop (mkF m 69 #[.val (.int p1), .unset, .unset, .unset, .unset, .unset, .unset] [(.ref b1)])) _
    refine XS.dup X21.here hx rfl (hb hby at_69) rfl rfl ?_
    show Steps p.tables e below (T21.setTop (mkF m 70 #[.val (.int p1), .unset, .unset, .unset, .unset, .unset, .unset] [(.ref b1), (.ref b1)])) _
    refine XS.bipush X21.here hx rfl (hb hby at_70) ?_
    show Steps p.tables e below (T21.setTop (mkF m 72 #[.val (.int p1), .unset, .unset, .unset, .unset, .unset, .unset] [(.int (10 : Int32)), (.ref b1), (.ref b1)])) _
    refine st22 _ ?_
    show Steps p.tables e below (T22.setTop (mkF m 75 #[.val (.int p1), .unset, .unset, .unset, .unset, .unset, .unset] [(.ref wCW5), (.int (10 : Int32)), (.ref b1), (.ref b1)])) _
    refine st23 _ ?_
    show Steps p.tables e below (T23.setTop (mkF m 76 #[.val (.int p1), .unset, .unset, .unset, .unset, .unset, .unset] [(.ref b1)])) _
    refine XS.dup X23.here hx rfl (hb hby at_76) rfl rfl ?_
    show Steps p.tables e below (T23.setTop (mkF m 77 #[.val (.int p1), .unset, .unset, .unset, .unset, .unset, .unset] [(.ref b1), (.ref b1)])) _
    refine XS.bipush X23.here hx rfl (hb hby at_77) ?_
    show Steps p.tables e below (T23.setTop (mkF m 79 #[.val (.int p1), .unset, .unset, .unset, .unset, .unset, .unset] [(.int (11 : Int32)), (.ref b1), (.ref b1)])) _
    refine st24 _ ?_
    show Steps p.tables e below (T24.setTop (mkF m 82 #[.val (.int p1), .unset, .unset, .unset, .unset, .unset, .unset] [(.ref wCW6), (.int (11 : Int32)), (.ref b1), (.ref b1)])) _
    refine st25 _ ?_
    show Steps p.tables e below (T25.setTop (mkF m 83 #[.val (.int p1), .unset, .unset, .unset, .unset, .unset, .unset] [(.ref b1)])) _
    refine XS.astoreN X25.here hx rfl (hb hby at_83) rfl rfl (l' := #[.val (.int p1), .val (.ref b1), .unset, .unset, .unset, .unset, .unset]) rfl ?_
    show Steps p.tables e below (T25.setTop (mkF m 84 #[.val (.int p1), .val (.ref b1), .unset, .unset, .unset, .unset, .unset] [])) _
    refine XS.iloadN X25.here hx rfl (hb hby at_84) rfl ?_
    show Steps p.tables e below (T25.setTop (mkF m 85 #[.val (.int p1), .val (.ref b1), .unset, .unset, .unset, .unset, .unset] [(.int p1)])) _
    refine Jvm.Stand.ldcI X25 hx hown (mvT hZ (hw _ (List.mem_of_getElem? (i := 28) rfl))) rfl (hb hby at_85) ?_
    show Steps p.tables e below (T25.setTop (mkF m 87 #[.val (.int p1), .val (.ref b1), .unset, .unset, .unset, .unset, .unset] [(.int (2147483647 : Int32)), (.int p1)])) _
    refine XS.iand X25.here hx rfl (hb hby at_87) rfl ?_
    show Steps p.tables e below (T25.setTop (mkF m 88 #[.val (.int p1), .val (.ref b1), .unset, .unset, .unset, .unset, .unset] [(.int (p1 &&& (2147483647 : Int32)))])) _
    refine XS.bipush X25.here hx rfl (hb hby at_88) ?_
    show Steps p.tables e below (T25.setTop (mkF m 90 #[.val (.int p1), .val (.ref b1), .unset, .unset, .unset, .unset, .unset] [(.int (12 : Int32)), (.int (p1 &&& (2147483647 : Int32)))])) _
    refine iremM X25 hx rfl (hb hby at_90) rfl (by decide) ?_
    show Steps p.tables e below (T25.setTop (mkF m 91 #[.val (.int p1), .val (.ref b1), .unset, .unset, .unset, .unset, .unset] [(.int ((p1 &&& (2147483647 : Int32)) % (12 : Int32)))])) _
    refine castTop (g' := (mkF m 91 #[.val (.int p1), .val (.ref b1), .unset, .unset, .unset, .unset, .unset] [(.int (3 : Int32))])) (by rw [hi]) ?_
    show Steps p.tables e below (T25.setTop (mkF m 91 #[.val (.int p1), .val (.ref b1), .unset, .unset, .unset, .unset, .unset] [(.int (3 : Int32))])) _
    refine XS.istoreN X25.here hx rfl (hb hby at_91) rfl (l' := #[.val (.int p1), .val (.ref b1), .val (.int (3 : Int32)), .unset, .unset, .unset, .unset]) rfl ?_
    show Steps p.tables e below (T25.setTop (mkF m 92 #[.val (.int p1), .val (.ref b1), .val (.int (3 : Int32)), .unset, .unset, .unset, .unset] [])) _
    refine XS.aloadN X25.here hx rfl (hb hby at_92) rfl rfl ?_
    show Steps p.tables e below (T25.setTop (mkF m 93 #[.val (.int p1), .val (.ref b1), .val (.int (3 : Int32)), .unset, .unset, .unset, .unset] [(.ref b1)])) _
    refine XS.iloadN X25.here hx rfl (hb hby at_93) rfl ?_
    show Steps p.tables e below (T25.setTop (mkF m 94 #[.val (.int p1), .val (.ref b1), .val (.int (3 : Int32)), .unset, .unset, .unset, .unset] [(.int (3 : Int32)), (.ref b1)])) _
    refine X25.aaload hx (j := (3 : Int32)) (v := (.ref wW4)) (by rw [e25]; exact Ar26.1) (State.isArrayOf_alike hZ.alike Ar26.2.1) rfl Ar26.2.2 hin27 hat27 (g := (mkF m 94 #[.val (.int p1), .val (.ref b1), .val (.int (3 : Int32)), .unset, .unset, .unset, .unset] [(.int (3 : Int32)), (.ref b1)])) rfl rfl (hb hby at_94) _ ?_
    show Steps p.tables e below (T25.setTop (mkF m 95 #[.val (.int p1), .val (.ref b1), .val (.int (3 : Int32)), .unset, .unset, .unset, .unset] [(.ref wW4)])) _
    refine XS.astoreN X25.here hx rfl (hb hby at_95) rfl rfl (l' := #[.val (.int p1), .val (.ref b1), .val (.int (3 : Int32)), .val (.ref wW4), .unset, .unset, .unset]) rfl ?_
    show Steps p.tables e below (T25.setTop (mkF m 96 #[.val (.int p1), .val (.ref b1), .val (.int (3 : Int32)), .val (.ref wW4), .unset, .unset, .unset] [])) _
    refine XS.iloadN X25.here hx rfl (hb hby at_96) rfl ?_
    show Steps p.tables e below (T25.setTop (mkF m 97 #[.val (.int p1), .val (.ref b1), .val (.int (3 : Int32)), .val (.ref wW4), .unset, .unset, .unset] [(.int (3 : Int32))])) _
    refine XS.bipush X25.here hx rfl (hb hby at_97) ?_
    show Steps p.tables e below (T25.setTop (mkF m 99 #[.val (.int p1), .val (.ref b1), .val (.int (3 : Int32)), .val (.ref wW4), .unset, .unset, .unset] [(.int (6 : Int32)), (.int (3 : Int32))])) _
    refine iremM X25 hx rfl (hb hby at_99) rfl (by decide) ?_
    show Steps p.tables e below (T25.setTop (mkF m 100 #[.val (.int p1), .val (.ref b1), .val (.int (3 : Int32)), .val (.ref wW4), .unset, .unset, .unset] [(.int ((3 : Int32) % (6 : Int32)))])) _
    refine castTop (g' := (mkF m 100 #[.val (.int p1), .val (.ref b1), .val (.int (3 : Int32)), .val (.ref wW4), .unset, .unset, .unset] [(.int (3 : Int32))])) (by rw [show ((3 : Int32) % (6 : Int32)) = (3 : Int32) from by decide]) ?_
    show Steps p.tables e below (T25.setTop (mkF m 100 #[.val (.int p1), .val (.ref b1), .val (.int (3 : Int32)), .val (.ref wW4), .unset, .unset, .unset] [(.int (3 : Int32))])) _
    refine XS.ifYes X25.here hx rfl (pc0 := 100) (pc' := 107) rfl (hb hby at_100) rfl (by decide) (by decide) (by decide) ?_
    show Steps p.tables e below (T25.setTop (mkF m 107 #[.val (.int p1), .val (.ref b1), .val (.int (3 : Int32)), .val (.ref wW4), .unset, .unset, .unset] [])) _
    refine XS.iconst X25.here hx rfl (hb hby at_107) ?_
    show Steps p.tables e below (T25.setTop (mkF m 108 #[.val (.int p1), .val (.ref b1), .val (.int (3 : Int32)), .val (.ref wW4), .unset, .unset, .unset] [(.int (0 : Int32))])) _
    refine XS.istore X25.here hx rfl (hb hby at_108) rfl (l' := #[.val (.int p1), .val (.ref b1), .val (.int (3 : Int32)), .val (.ref wW4), .val (.int (0 : Int32)), .unset, .unset]) rfl ?_
    show Steps p.tables e below (T25.setTop (mkF m 110 #[.val (.int p1), .val (.ref b1), .val (.int (3 : Int32)), .val (.ref wW4), .val (.int (0 : Int32)), .unset, .unset] [])) _
    refine XS.aloadN X25.here hx rfl (hb hby at_110) rfl rfl ?_
    show Steps p.tables e below (T25.setTop (mkF m 111 #[.val (.int p1), .val (.ref b1), .val (.int (3 : Int32)), .val (.ref wW4), .val (.int (0 : Int32)), .unset, .unset] [(.ref wW4)])) _
    refine st28.trans ?_
    show Steps p.tables e below (T28.setTop (mkF m 114 #[.val (.int p1), .val (.ref b1), .val (.int (3 : Int32)), .val (.ref wW4), .val (.int (0 : Int32)), .unset, .unset] [(.int (0 : Int32))])) _
    refine XS.istore X28.here hx rfl (hb hby at_114) rfl (l' := #[.val (.int p1), .val (.ref b1), .val (.int (3 : Int32)), .val (.ref wW4), .val (.int (0 : Int32)), .val (.int (0 : Int32)), .unset]) rfl ?_
    show Steps p.tables e below (T28.setTop (mkF m 116 #[.val (.int p1), .val (.ref b1), .val (.int (3 : Int32)), .val (.ref wW4), .val (.int (0 : Int32)), .val (.int (0 : Int32)), .unset] [])) _
    refine XS.aloadN X28.here hx rfl (hb hby at_116) rfl rfl ?_
    show Steps p.tables e below (T28.setTop (mkF m 117 #[.val (.int p1), .val (.ref b1), .val (.int (3 : Int32)), .val (.ref wW4), .val (.int (0 : Int32)), .val (.int (0 : Int32)), .unset] [(.ref wW4)])) _
    refine st29.trans ?_
    show Steps p.tables e below (T29.setTop (mkF m 120 #[.val (.int p1), .val (.ref b1), .val (.int (3 : Int32)), .val (.ref wW4), .val (.int (0 : Int32)), .val (.int (0 : Int32)), .unset] [(.ref wCW4)])) _
    refine st30.trans ?_
    show Steps p.tables e below (T30.setTop (mkF m 123 #[.val (.int p1), .val (.ref b1), .val (.int (3 : Int32)), .val (.ref wW4), .val (.int (0 : Int32)), .val (.int (0 : Int32)), .unset] [(.int (0 : Int32))])) _
    refine XS.istore X30.here hx rfl (hb hby at_123) rfl (l' := #[.val (.int p1), .val (.ref b1), .val (.int (3 : Int32)), .val (.ref wW4), .val (.int (0 : Int32)), .val (.int (0 : Int32)), .val (.int (0 : Int32))]) rfl ?_
    show Steps p.tables e below (T30.setTop (mkF m 125 #[.val (.int p1), .val (.ref b1), .val (.int (3 : Int32)), .val (.ref wW4), .val (.int (0 : Int32)), .val (.int (0 : Int32)), .val (.int (0 : Int32))] [])) _
    refine XS.iload X30.here hx rfl (hb hby at_125) rfl ?_
    show Steps p.tables e below (T30.setTop (mkF m 127 #[.val (.int p1), .val (.ref b1), .val (.int (3 : Int32)), .val (.ref wW4), .val (.int (0 : Int32)), .val (.int (0 : Int32)), .val (.int (0 : Int32))] [(.int (0 : Int32))])) _
    refine XS.iload X30.here hx rfl (hb hby at_127) rfl ?_
    show Steps p.tables e below (T30.setTop (mkF m 129 #[.val (.int p1), .val (.ref b1), .val (.int (3 : Int32)), .val (.ref wW4), .val (.int (0 : Int32)), .val (.int (0 : Int32)), .val (.int (0 : Int32))] [(.int (0 : Int32)), (.int (0 : Int32))])) _
    refine XS.icmpNo X30.here hx rfl (hb hby at_129) rfl (by decide) ?_
    show Steps p.tables e below (T30.setTop (mkF m 132 #[.val (.int p1), .val (.ref b1), .val (.int (3 : Int32)), .val (.ref wW4), .val (.int (0 : Int32)), .val (.int (0 : Int32)), .val (.int (0 : Int32))] [])) _
    refine XS.iload X30.here hx rfl (hb hby at_132) rfl ?_
    show Steps p.tables e below (T30.setTop (mkF m 134 #[.val (.int p1), .val (.ref b1), .val (.int (3 : Int32)), .val (.ref wW4), .val (.int (0 : Int32)), .val (.int (0 : Int32)), .val (.int (0 : Int32))] [(.int (0 : Int32))])) _
    refine XS.iload X30.here hx rfl (hb hby at_134) rfl ?_
    show Steps p.tables e below (T30.setTop (mkF m 136 #[.val (.int p1), .val (.ref b1), .val (.int (3 : Int32)), .val (.ref wW4), .val (.int (0 : Int32)), .val (.int (0 : Int32)), .val (.int (0 : Int32))] [(.int (0 : Int32)), (.int (0 : Int32))])) _
    refine XS.icmpNo X30.here hx rfl (hb hby at_136) rfl (by decide) ?_
    show Steps p.tables e below (T30.setTop (mkF m 139 #[.val (.int p1), .val (.ref b1), .val (.int (3 : Int32)), .val (.ref wW4), .val (.int (0 : Int32)), .val (.int (0 : Int32)), .val (.int (0 : Int32))] [])) _
    refine XS.iconst X30.here hx rfl (hb hby at_139) ?_
    show Steps p.tables e below (T30.setTop (mkF m 140 #[.val (.int p1), .val (.ref b1), .val (.int (3 : Int32)), .val (.ref wW4), .val (.int (0 : Int32)), .val (.int (0 : Int32)), .val (.int (0 : Int32))] [(.int (1 : Int32))])) _
    refine XS.goto X30.here hx rfl (pc0 := 140) (pc' := 144) rfl (hb hby at_140) (by decide) (by decide) ?_
    show Steps p.tables e below (T30.setTop (mkF m 144 #[.val (.int p1), .val (.ref b1), .val (.int (3 : Int32)), .val (.ref wW4), .val (.int (0 : Int32)), .val (.int (0 : Int32)), .val (.int (0 : Int32))] [(.int (1 : Int32))])) _
    exact retN X30 hx (t := .boolean) Bd.returns (by simp) (hb hby at_144) hr
  · exact ⟨rfl, N30⟩
set_option maxRecDepth 65536 in
set_option maxHeartbeats 40000000 in
theorem own_statesCredential_16 (l : Launch) (Z : State) (a0 : Array Value) (hw : ∀ d ∈ tables_1, d.before a0 Z = true) (ws : List Jvm.Cond) (wW1 : Addr) (wW2 : Addr) (wW3 : Addr) (wW4 : Addr) (wW5 : Addr) (wW6 : Addr) (wCW1 : Addr) (wCW2 : Addr) (wCW3 : Addr) (wCW4 : Addr) (wCW5 : Addr) (wCW6 : Addr) (G : OwnG Z wW1 wW2 wW3 wW4 wW5 wW6 wCW1 wCW2 wCW3 wCW4 wCW5 wCW6) (h0 : Heap) (n0 : Nat) (O0 : Old Z n0 h0) :
    MetFree l (⟨"com/example/credlib/credlib/engine/Rule", "statesCredential", "()Z"⟩ : MethodName) (head1 (Jvm.Cond.code (⟨"com/example/credlib/credlib/engine/Rule", "statesCredential", "()Z"⟩ : MethodName) prog_18_method_4_code 1 (some .boolean) :: ws) ({ frames := 0, cells := 0, slots := 0, locals := 0 } : Room)) (fun a U => a = #[(.ref wW5)] ∧ Z.Warmed39 U.vm ∧ U.heap = h0) (fun _ _ _ _ _ => True) (fun _ U o U' => ∃ v L, o = .returned v ∧ OwnQ (some (.int (0 : Int32))) h0 n0 v U'.heap L ∧ FrameEnd U o U' L ({ frames := 0, cells := 0, slots := 0, locals := 0 } : Room).cells ({ frames := 0, cells := 0, slots := 0, locals := 0 } : Room).slots) := by
  refine MetFree.of_bodySF (plainFor_of_name own_pn_1) hisR ?_
  intro p e s m args below meth c s₁ Bd hml0 hP hK
  obtain ⟨rfl, hZ, hh⟩ := hP
  have hx := Bd.exec
  have hby := Bd.bytes
  have hml : c.maxLocals = 1 := hml0
  have hown : s.vm.findClass "com/example/credlib/credlib/engine/Rule" = some m.cls := findClass_of_methodNamed Bd.named
  have hnm := (name_of_methodNamed Bd.named Bd.method).1
  have X0 : Stand p l e ({ frames := 0, cells := 0, slots := 0, locals := 0 } : Room) s m #[(.ref wW5)] below meth c s₁ [] 0 0 := Stand.of_body Bd
  have e0 : s₁.heap = h0 := by rw [← hh, Bd.state]; rfl
  have N0 := Fr.nil n0
  have pre0 : ∀ t, Steps p.tables e below (s₁.setTop (mkF m 0 #[.val (.ref wW5)] [])) t → Steps p.tables e below (s₁.setTop (entryFrame m #[(.ref wW5)] 1)) t := fun t k => castTop (own_ef_1_R m wW5) k
  obtain ⟨T1, X1, e1, st1⟩ := getS2 X0 hx hZ hown (host := "") (Or.inl (hw _ (List.mem_of_getElem? (i := 34) rfl))) Via.refl e0 (G.1.ext O0.2) (g := (mkF m 1 #[.val (.ref wW5)] [(.ref wW5)])) rfl (hb hby own_d1_1)
  obtain ⟨T2, X2, e2, st2⟩ := getS2 X1 hx hZ hown (host := "") (Or.inl (hw _ (List.mem_of_getElem? (i := 49) rfl))) Via.refl e1 (G.2.2.2.2.2.2.2.2.2.2.2.2.1.ext O0.2) (g := (mkF m 8 #[.val (.ref wW5)] [(.ref wW5)])) rfl (hb hby own_d1_8)
  obtain ⟨fs, hr, hrun, hended, hW, hsame⟩ := X2.leave (v := some (.int (0 : Int32))) (fun h => by rw [Bd.returns] at h; cases h)
  refine ⟨_, _, pre0 _ ?_, hrun, hended, _, _, rfl, ?_, ⟨_, rfl⟩, hW, hsame.mono (by decide) (by decide)⟩
  · show Steps p.tables e below (s₁.setTop (mkF m 0 #[.val (.ref wW5)] [])) _
    refine XS.aloadN X0.here hx rfl (hb hby own_d1_0) rfl rfl ?_
    show Steps p.tables e below (s₁.setTop (mkF m 1 #[.val (.ref wW5)] [(.ref wW5)])) _
    refine st1 _ ?_
    show Steps p.tables e below (T1.setTop (mkF m 4 #[.val (.ref wW5)] [(.ref wW1), (.ref wW5)])) _
    refine Jvm.RoadKit.acmp (g := (mkF m 4 #[.val (.ref wW5)] [(.ref wW1), (.ref wW5)])) X1 hx rfl rfl rfl (pc0 := 4) (pc' := 7) (same := false) rfl (hb hby own_d1_4) rfl (decide_eq_false fun q => (Ne.symm G.2.2.2.2.2.2.2.2.2.2.2.2.2.2.2.2.2.2.2.2.2.2.2.2.2.2.2.2.2.2.2.2.2.2.2.2.2.2.2.2.2.2.2.1) (Value.ref.inj q)) (by decide) (by decide) ?_
    show Steps p.tables e below (T1.setTop (mkF m 7 #[.val (.ref wW5)] [])) _
    refine XS.aloadN X1.here hx rfl (hb hby own_d1_7) rfl rfl ?_
    show Steps p.tables e below (T1.setTop (mkF m 8 #[.val (.ref wW5)] [(.ref wW5)])) _
    refine st2 _ ?_
    show Steps p.tables e below (T2.setTop (mkF m 11 #[.val (.ref wW5)] [(.ref wCW1), (.ref wW5)])) _
    refine Jvm.RoadKit.acmp (g := (mkF m 11 #[.val (.ref wW5)] [(.ref wCW1), (.ref wW5)])) X2 hx rfl rfl rfl (pc0 := 11) (pc' := 18) (same := false) rfl (hb hby own_d1_11) rfl (decide_eq_false fun q => G.2.2.2.2.2.2.2.2.2.2.2.2.2.2.2.2.2.2.2.2.2.2.2.2.2.2.2.2.2.2.2.2.2.2.2.2.2.2.2.2.2.2.2.2.2.2.2.2.2.2.2.2.2.2.2.2.2.2.2.2.2.2.2.2.2.2.2.2.2.2.2.2.2.2.2.2.2.2.1 (Value.ref.inj q)) (by decide) (by decide) ?_
    show Steps p.tables e below (T2.setTop (mkF m 18 #[.val (.ref wW5)] [])) _
    refine XS.iconst X2.here hx rfl (hb hby own_d1_18) ?_
    show Steps p.tables e below (T2.setTop (mkF m 19 #[.val (.ref wW5)] [(.int (0 : Int32))])) _
    exact retN X2 hx (t := .boolean) Bd.returns (by simp) (hb hby own_d1_19) hr
  · show OwnQ _ h0 n0 _ T2.heap _
    exact ⟨rfl, N0, e2⟩
set_option maxRecDepth 65536 in
set_option maxHeartbeats 40000000 in
theorem own_ordinal_18 (l : Launch) (Z : State) (a0 : Array Value) (hw : ∀ d ∈ tables_1, d.before a0 Z = true) (ws : List Jvm.Cond) (wW1 : Addr) (wW2 : Addr) (wW3 : Addr) (wW4 : Addr) (wW5 : Addr) (wW6 : Addr) (wCW1 : Addr) (wCW2 : Addr) (wCW3 : Addr) (wCW4 : Addr) (wCW5 : Addr) (wCW6 : Addr) (G : OwnG Z wW1 wW2 wW3 wW4 wW5 wW6 wCW1 wCW2 wCW3 wCW4 wCW5 wCW6) (h0 : Heap) (n0 : Nat) (O0 : Old Z n0 h0) :
    MetFree l (⟨"java/lang/Enum", "ordinal", "()I"⟩ : MethodName) (head1 (Jvm.Cond.code (⟨"java/lang/Enum", "ordinal", "()I"⟩ : MethodName) jdk_37_method_2_code 1 (some .int) :: ws) ({ frames := 0, cells := 0, slots := 0, locals := 0 } : Room)) (fun a U => a = #[(.ref wW5)] ∧ Z.Warmed39 U.vm ∧ U.heap = h0) (fun _ _ _ _ _ => True) (fun _ U o U' => ∃ v L, o = .returned v ∧ OwnQ (some (.int (4 : Int32))) h0 n0 v U'.heap L ∧ FrameEnd U o U' L ({ frames := 0, cells := 0, slots := 0, locals := 0 } : Room).cells ({ frames := 0, cells := 0, slots := 0, locals := 0 } : Room).slots) := by
  refine MetFree.of_bodySF (plainFor_of_name own_pn_3) hisR ?_
  intro p e s m args below meth c s₁ Bd hml0 hP hK
  obtain ⟨rfl, hZ, hh⟩ := hP
  have hx := Bd.exec
  have hby := Bd.bytes
  have hml : c.maxLocals = 1 := hml0
  have hown : s.vm.findClass "java/lang/Enum" = some m.cls := findClass_of_methodNamed Bd.named
  have hnm := (name_of_methodNamed Bd.named Bd.method).1
  have X0 : Stand p l e ({ frames := 0, cells := 0, slots := 0, locals := 0 } : Room) s m #[(.ref wW5)] below meth c s₁ [] 0 0 := Stand.of_body Bd
  have e0 : s₁.heap = h0 := by rw [← hh, Bd.state]; rfl
  have N0 := Fr.nil n0
  have pre0 : ∀ t, Steps p.tables e below (s₁.setTop (mkF m 0 #[.val (.ref wW5)] [])) t → Steps p.tables e below (s₁.setTop (entryFrame m #[(.ref wW5)] 1)) t := fun t k => castTop (own_ef_3_R m wW5) k
  obtain ⟨T1, X1, e1, st1⟩ := getF X0 hx hZ hown (host := "") (Or.inl (hw _ (List.mem_of_getElem? (i := 47) rfl))) Via.refl e0 (G.2.2.2.2.2.2.2.2.2.2.2.2.2.2.2.2.2.2.2.2.2.2.2.2.2.2.2.2.2.2.2.2.1.ext O0.2) (g := (mkF m 1 #[.val (.ref wW5)] [(.ref wW5)])) rfl rfl (hb hby own_d3_1)
  obtain ⟨fs, hr, hrun, hended, hW, hsame⟩ := X1.leave (v := some (.int (4 : Int32))) (fun h => by rw [Bd.returns] at h; cases h)
  refine ⟨_, _, pre0 _ ?_, hrun, hended, _, _, rfl, ?_, ⟨_, rfl⟩, hW, hsame.mono (by decide) (by decide)⟩
  · show Steps p.tables e below (s₁.setTop (mkF m 0 #[.val (.ref wW5)] [])) _
    refine XS.aloadN X0.here hx rfl (hb hby own_d3_0) rfl rfl ?_
    show Steps p.tables e below (s₁.setTop (mkF m 1 #[.val (.ref wW5)] [(.ref wW5)])) _
    refine st1 _ ?_
    show Steps p.tables e below (T1.setTop (mkF m 4 #[.val (.ref wW5)] [(.int (4 : Int32))])) _
    exact retI X1 hx Bd.returns (hb hby own_d3_4) hr
  · show OwnQ _ h0 n0 _ T1.heap _
    exact ⟨rfl, N0, e1⟩
theorem own_d2_68 : decode prog_18_method_5_code 68 = .ok (.getstatic 34, 3) := by decide +kernel
theorem own_d2_71 : decode prog_18_method_5_code 71 = .ok (.goto 10, 3) := by decide +kernel
set_option maxRecDepth 65536 in
set_option maxHeartbeats 40000000 in
theorem own_atInstant_17 (l : Launch) (Z : State) (a0 : Array Value) (hw : ∀ d ∈ tables_1, d.before a0 Z = true) (ws : List Jvm.Cond) (wW1 : Addr) (wW2 : Addr) (wW3 : Addr) (wW4 : Addr) (wW5 : Addr) (wW6 : Addr) (wCW1 : Addr) (wCW2 : Addr) (wCW3 : Addr) (wCW4 : Addr) (wCW5 : Addr) (wCW6 : Addr) (G : OwnG Z wW1 wW2 wW3 wW4 wW5 wW6 wCW1 wCW2 wCW3 wCW4 wCW5 wCW6) (h0 : Heap) (n0 : Nat) (O0 : Old Z n0 h0) :
    MetFree l (⟨"com/example/credlib/credlib/engine/Rule", "atInstant", "()Lcom/example/credlib/credlib/engine/Rule;"⟩ : MethodName) (head1 (Jvm.Cond.code (⟨"com/example/credlib/credlib/engine/Rule", "atInstant", "()Lcom/example/credlib/credlib/engine/Rule;"⟩ : MethodName) prog_18_method_5_code 1 (some (.object "com/example/credlib/credlib/engine/Rule")) :: ws) ({ frames := 1, cells := 0, slots := 0, locals := 12 } : Room)) (fun a U => a = #[(.ref wW5)] ∧ Z.Warmed39 U.vm ∧ U.heap = h0) (fun _ _ _ _ _ => True) (fun _ U o U' => ∃ v L, o = .returned v ∧ OwnQ (some (.ref wCW5)) h0 n0 v U'.heap L ∧ FrameEnd U o U' L ({ frames := 1, cells := 0, slots := 0, locals := 12 } : Room).cells ({ frames := 1, cells := 0, slots := 0, locals := 12 } : Room).slots) := by
  refine MetFree.of_bodySF (plainFor_of_name own_pn_1) hisR ?_
  intro p e s m args below meth c s₁ Bd hml0 hP hK
  obtain ⟨rfl, hZ, hh⟩ := hP
  have hx := Bd.exec
  have hby := Bd.bytes
  have hml : c.maxLocals = 1 := hml0
  have hown : s.vm.findClass "com/example/credlib/credlib/engine/Rule" = some m.cls := findClass_of_methodNamed Bd.named
  have hnm := (name_of_methodNamed Bd.named Bd.method).1
  have X0 : Stand p l e ({ frames := 1, cells := 0, slots := 0, locals := 12 } : Room) s m #[(.ref wW5)] below meth c s₁ [] 0 0 := Stand.of_body Bd
  have e0 : s₁.heap = h0 := by rw [← hh, Bd.state]; rfl
  have N0 := Fr.nil n0
  have pre0 : ∀ t, Steps p.tables e below (s₁.setTop (mkF m 0 #[.val (.ref wW5)] [])) t → Steps p.tables e below (s₁.setTop (entryFrame m #[(.ref wW5)] 1)) t := fun t k => castTop (own_ef_2_R m wW5) k
  obtain ⟨cq1, kq1, q1a, q1b, q1c⟩ := isOf hZ e0 (G.2.2.2.2.2.2.2.2.2.1.ext O0.2)
  obtain ⟨_, _, ⟨T1, L1, k1, n1⟩, -, X1, ⟨Lc1, hQ1, l1, y1, z1⟩, st1⟩ := X0.virtualBackUp hx (x := (⟨"com/example/credlib/credlib/engine/Rule", "ordinal", "()I"⟩ : MethodName)) (y := (⟨"java/lang/Enum", "ordinal", "()I"⟩ : MethodName)) (owner := "java/lang/Enum") hown (mvT hZ (hw _ (List.mem_of_getElem? (i := 40) rfl))) (mvT hZ (hw _ (List.mem_of_getElem? (i := 41) rfl))) (mvT hZ (hw _ (List.mem_of_getElem? (i := 42) rfl))) (by decide) (mvT hZ (hw _ (List.mem_of_getElem? (i := 44) rfl))) (mvT hZ (hw _ (List.mem_of_getElem? (i := 43) rfl))) (backOf (W := 0) (own_ordinal_18 l Z a0 hw [] wW1 wW2 wW3 wW4 wW5 wW6 wCW1 wCW2 wCW3 wCW4 wCW5 wCW6 G h0 n0 O0) hZ (hw _ (List.mem_of_getElem? (i := 46) rfl)) (hw _ (List.mem_of_getElem? (i := 45) rfl)) (by decide) (by decide)) q1a q1c (g := (mkF m 1 #[.val (.ref wW5)] [(.ref wW5)])) rfl (by rw [hml]; rfl) (Steps.refl _) (argsL := []) (rest := []) (lenOf own_pd_1 rfl) rfl (by show 2 * 0 + _ ≤ _; exact Nat.le_of_eq rfl) (hb hby own_d2_1) (fun _ _ => ⟨rfl, e0, (by decide : 0 + 0 ≤ _), (by decide : 0 + 0 ≤ _)⟩)
  dsimp only [Pt.U, Pt.locs, Pt.cells, Pt.slots] at X1 l1 y1 z1 st1 hQ1
  subst l1 y1 z1
  obtain ⟨rfl, N1q, e1⟩ := hQ1
  have N1 := Fr.app N0 N1q
  obtain ⟨T2, X2, e2, st2⟩ := getS2 X1 hx hZ hown (host := "") (Or.inl (hw _ (List.mem_of_getElem? (i := 52) rfl))) Via.refl e1 (G.2.2.2.2.2.2.2.2.2.2.2.2.2.2.2.2.2.2.2.2.1.ext O0.2) (g := (mkF m 68 #[.val (.ref wW5)] [])) rfl (hb hby own_d2_68)
  obtain ⟨fs, hr, hrun, hended, hW, hsame⟩ := X2.leave (v := some (.ref wCW5)) (fun h => by rw [Bd.returns] at h; cases h)
  refine ⟨_, _, pre0 _ ?_, hrun, hended, _, _, rfl, ?_, ⟨_, rfl⟩, hW, hsame.mono (by decide) (by decide)⟩
  · show Steps p.tables e below (s₁.setTop (mkF m 0 #[.val (.ref wW5)] [])) _
    refine XS.aloadN X0.here hx rfl (hb hby own_d2_0) rfl rfl ?_
    show Steps p.tables e below (s₁.setTop (mkF m 1 #[.val (.ref wW5)] [(.ref wW5)])) _
    refine st1.trans ?_
    show Steps p.tables e below (T1.setTop (mkF m 4 #[.val (.ref wW5)] [(.int (4 : Int32))])) _
    refine XS.tswIn X1.here hx rfl (o := 64) (pc0 := 4) (pc' := 68) rfl (hb hby own_d2_4) rfl (by decide) rfl (by decide) (by decide) ?_
    show Steps p.tables e below (T1.setTop (mkF m 68 #[.val (.ref wW5)] [])) _
    refine st2 _ ?_
    show Steps p.tables e below (T2.setTop (mkF m 71 #[.val (.ref wW5)] [(.ref wCW5)])) _
    refine XS.goto X2.here hx rfl (pc0 := 71) (pc' := 81) rfl (hb hby own_d2_71) (by decide) (by decide) ?_
    show Steps p.tables e below (T2.setTop (mkF m 81 #[.val (.ref wW5)] [(.ref wCW5)])) _
    jvm_step X2.here [X2.here.top, hx, (hb hby own_d2_81), X2.method', Bd.returns, Value.isRef, FieldType.isReference]
    first | (intro acts; rw [hr _ acts rfl rfl rfl]) | rw [hr _ _ rfl rfl rfl]
    exact Steps.refl _
  · show OwnQ _ h0 n0 _ T2.heap _
    exact ⟨rfl, N1, e2⟩
set_option maxRecDepth 65536 in
set_option maxHeartbeats 40000000 in
theorem own_statesCredential_19 (l : Launch) (Z : State) (a0 : Array Value) (hw : ∀ d ∈ tables_1, d.before a0 Z = true) (ws : List Jvm.Cond) (wW1 : Addr) (wW2 : Addr) (wW3 : Addr) (wW4 : Addr) (wW5 : Addr) (wW6 : Addr) (wCW1 : Addr) (wCW2 : Addr) (wCW3 : Addr) (wCW4 : Addr) (wCW5 : Addr) (wCW6 : Addr) (G : OwnG Z wW1 wW2 wW3 wW4 wW5 wW6 wCW1 wCW2 wCW3 wCW4 wCW5 wCW6) (h0 : Heap) (n0 : Nat) (O0 : Old Z n0 h0) :
    MetFree l (⟨"com/example/credlib/credlib/engine/Rule", "statesCredential", "()Z"⟩ : MethodName) (head1 (Jvm.Cond.code (⟨"com/example/credlib/credlib/engine/Rule", "statesCredential", "()Z"⟩ : MethodName) prog_18_method_4_code 1 (some .boolean) :: ws) ({ frames := 0, cells := 0, slots := 0, locals := 0 } : Room)) (fun a U => a = #[(.ref wCW5)] ∧ Z.Warmed39 U.vm ∧ U.heap = h0) (fun _ _ _ _ _ => True) (fun _ U o U' => ∃ v L, o = .returned v ∧ OwnQ (some (.int (0 : Int32))) h0 n0 v U'.heap L ∧ FrameEnd U o U' L ({ frames := 0, cells := 0, slots := 0, locals := 0 } : Room).cells ({ frames := 0, cells := 0, slots := 0, locals := 0 } : Room).slots) := by
  refine MetFree.of_bodySF (plainFor_of_name own_pn_1) hisR ?_
  intro p e s m args below meth c s₁ Bd hml0 hP hK
  obtain ⟨rfl, hZ, hh⟩ := hP
  have hx := Bd.exec
  have hby := Bd.bytes
  have hml : c.maxLocals = 1 := hml0
  have hown : s.vm.findClass "com/example/credlib/credlib/engine/Rule" = some m.cls := findClass_of_methodNamed Bd.named
  have hnm := (name_of_methodNamed Bd.named Bd.method).1
  have X0 : Stand p l e ({ frames := 0, cells := 0, slots := 0, locals := 0 } : Room) s m #[(.ref wCW5)] below meth c s₁ [] 0 0 := Stand.of_body Bd
  have e0 : s₁.heap = h0 := by rw [← hh, Bd.state]; rfl
  have N0 := Fr.nil n0
  have pre0 : ∀ t, Steps p.tables e below (s₁.setTop (mkF m 0 #[.val (.ref wCW5)] [])) t → Steps p.tables e below (s₁.setTop (entryFrame m #[(.ref wCW5)] 1)) t := fun t k => castTop (own_ef_1_R m wCW5) k
  obtain ⟨T1, X1, e1, st1⟩ := getS2 X0 hx hZ hown (host := "") (Or.inl (hw _ (List.mem_of_getElem? (i := 34) rfl))) Via.refl e0 (G.1.ext O0.2) (g := (mkF m 1 #[.val (.ref wCW5)] [(.ref wCW5)])) rfl (hb hby own_d1_1)
  obtain ⟨T2, X2, e2, st2⟩ := getS2 X1 hx hZ hown (host := "") (Or.inl (hw _ (List.mem_of_getElem? (i := 49) rfl))) Via.refl e1 (G.2.2.2.2.2.2.2.2.2.2.2.2.1.ext O0.2) (g := (mkF m 8 #[.val (.ref wCW5)] [(.ref wCW5)])) rfl (hb hby own_d1_8)
  obtain ⟨fs, hr, hrun, hended, hW, hsame⟩ := X2.leave (v := some (.int (0 : Int32))) (fun h => by rw [Bd.returns] at h; cases h)
  refine ⟨_, _, pre0 _ ?_, hrun, hended, _, _, rfl, ?_, ⟨_, rfl⟩, hW, hsame.mono (by decide) (by decide)⟩
  · show Steps p.tables e below (s₁.setTop (mkF m 0 #[.val (.ref wCW5)] [])) _
    refine XS.aloadN X0.here hx rfl (hb hby own_d1_0) rfl rfl ?_
    show Steps p.tables e below (s₁.setTop (mkF m 1 #[.val (.ref wCW5)] [(.ref wCW5)])) _
    refine st1 _ ?_
    show Steps p.tables e below (T1.setTop (mkF m 4 #[.val (.ref wCW5)] [(.ref wW1), (.ref wCW5)])) _
    refine Jvm.RoadKit.acmp (g := (mkF m 4 #[.val (.ref wCW5)] [(.ref wW1), (.ref wCW5)])) X1 hx rfl rfl rfl (pc0 := 4) (pc' := 7) (same := false) rfl (hb hby own_d1_4) rfl (decide_eq_false fun q => (Ne.symm G.2.2.2.2.2.2.2.2.2.2.2.2.2.2.2.2.2.2.2.2.2.2.2.2.2.2.2.2.2.2.2.2.2.2.2.2.2.2.2.2.2.2.2.2.1) (Value.ref.inj q)) (by decide) (by decide) ?_
    show Steps p.tables e below (T1.setTop (mkF m 7 #[.val (.ref wCW5)] [])) _
    refine XS.aloadN X1.here hx rfl (hb hby own_d1_7) rfl rfl ?_
    show Steps p.tables e below (T1.setTop (mkF m 8 #[.val (.ref wCW5)] [(.ref wCW5)])) _
    refine st2 _ ?_
    show Steps p.tables e below (T2.setTop (mkF m 11 #[.val (.ref wCW5)] [(.ref wCW1), (.ref wCW5)])) _
    refine Jvm.RoadKit.acmp (g := (mkF m 11 #[.val (.ref wCW5)] [(.ref wCW1), (.ref wCW5)])) X2 hx rfl rfl rfl (pc0 := 11) (pc' := 18) (same := false) rfl (hb hby own_d1_11) rfl (decide_eq_false fun q => (Ne.symm G.2.2.2.2.2.2.2.2.2.2.2.2.2.2.2.2.2.2.2.2.2.2.2.2.2.2.2.2.2.2.2.2.2.2.2.2.2.2.2.2.2.2.2.2.2.2.2.2.2.2.2.1) (Value.ref.inj q)) (by decide) (by decide) ?_
    show Steps p.tables e below (T2.setTop (mkF m 18 #[.val (.ref wCW5)] [])) _
    refine XS.iconst X2.here hx rfl (hb hby own_d1_18) ?_
    show Steps p.tables e below (T2.setTop (mkF m 19 #[.val (.ref wCW5)] [(.int (0 : Int32))])) _
    exact retN X2 hx (t := .boolean) Bd.returns (by simp) (hb hby own_d1_19) hr
  · show OwnQ _ h0 n0 _ T2.heap _
    exact ⟨rfl, N0, e2⟩
set_option maxRecDepth 65536 in
set_option maxHeartbeats 40000000 in
theorem own_law_4 (l : Launch) (Z : State) (a0 : Array Value) (hw : ∀ d ∈ tables_1, d.before a0 Z = true) (ws : List Jvm.Cond) (wW1 : Addr) (wW2 : Addr) (wW3 : Addr) (wW4 : Addr) (wW5 : Addr) (wW6 : Addr) (wCW1 : Addr) (wCW2 : Addr) (wCW3 : Addr) (wCW4 : Addr) (wCW5 : Addr) (wCW6 : Addr) (G : OwnG Z wW1 wW2 wW3 wW4 wW5 wW6 wCW1 wCW2 wCW3 wCW4 wCW5 wCW6) (h0 : Heap) (n0 : Nat) (O0 : Old Z n0 h0) (p1 : Int32) (hi : ((p1 &&& (2147483647 : Int32)) % (12 : Int32)) = (4 : Int32)) :
    MetFree l x (head1 (Jvm.Cond.code x code maxLocals ret :: ws) room_1) (fun a U => a = #[(.int p1)] ∧ Z.Warmed39 U.vm ∧ U.heap = h0) (fun _ _ _ _ _ => True) (fun _ U o U' => ∃ v L, o = .returned v ∧ (v = some (.int 1) ∧ Fr n0 L) ∧ FrameEnd U o U' L room_1.cells room_1.slots) := by
  refine MetFree.of_bodySF (plainFor_of_name own_pn_0) hisR ?_
  intro p e s m args below meth c s₁ Bd hml0 hP hK
  obtain ⟨rfl, hZ, hh⟩ := hP
  have hx := Bd.exec
  have hby := Bd.bytes
  have hml : c.maxLocals = 7 := hml0
  have hown : s.vm.findClass "com/example/credlib/credlib/engine/RuleStatesCredentialPinLaw" = some m.cls := findClass_of_methodNamed Bd.named
  have hnm := (name_of_methodNamed Bd.named Bd.method).1
  have X0 : Stand p l e room_1 s m #[(.int p1)] below meth c s₁ [] 0 0 := Stand.of_body Bd
  have e0 : s₁.heap = h0 := by rw [← hh, Bd.state]; rfl
  have N0 := Fr.nil n0
  have pre0 : ∀ t, Steps p.tables e below (s₁.setTop (mkF m 0 #[.val (.int p1), .unset, .unset, .unset, .unset, .unset, .unset] [])) t → Steps p.tables e below (s₁.setTop (entryFrame m #[(.int p1)] maxLocals)) t := fun t k => castTop (own_ef_0_I m p1) k
  obtain ⟨T1, h1, k1, X1, e1, E1, A1, Ov1, st1⟩ := newR X0 hx hZ hown (hw _ (List.mem_of_getElem? (i := 0) rfl)) (hw _ (List.mem_of_getElem? (i := 1) rfl)) e0 (g := (mkF m 2 #[.val (.int p1), .unset, .unset, .unset, .unset, .unset, .unset] [(.int (12 : Int32))])) rfl (hb hby at_2) rfl (by decide) (cap := 12) (by decide) (by decide) (by decide) (by decide)
  obtain ⟨b1, g1⟩ : ∃ z, z = h0.size := ⟨_, rfl⟩
  rw [← g1] at A1 st1
  have ge_b1 : n0 ≤ b1 := own_new O0 g1
  have sz_b1 : h0.size ≤ b1 := Nat.le_trans (Keep.refl h0 []).1 (Nat.le_of_eq g1.symm)
  have O1 := O0.ext E1
  have K1 := (Keep.refl h0 []).ext E1
  have V1 : Arv Z h1 b1 k1 (.object "com/example/credlib/credlib/engine/Rule") (12 : Int32) [.null, .null, .null, .null, .null, .null, .null, .null, .null, .null, .null, .null] .null := (Arv.new A1 (by decide)).pad (pad_rep [] .null 12)
  obtain ⟨T2, X2, e2, st2⟩ := getS2 X1 hx hZ hown (host := "") (Or.inl (hw _ (List.mem_of_getElem? (i := 2) rfl))) Via.refl e1 (G.1.ext O1.2) (g := (mkF m 7 #[.val (.int p1), .unset, .unset, .unset, .unset, .unset, .unset] [(.int (0 : Int32)), (.ref b1), (.ref b1)])) rfl (hb hby at_7)
  obtain ⟨cl3, Ar3, qk3, Sz3, Nn3, Hs3, Gs3⟩ := id (V1)
  have hin3 : ¬ ((0 : Int32) < 0 ∨ cl3.slots.size ≤ ((0 : Int32)).toNatClampNeg) := inb_of Sz3 ⟨by decide, by decide⟩
  obtain ⟨T3, h3, X3, e3, W3, st3⟩ := stR X2 hx hZ e2 Ar3 (j := (0 : Int32)) hin3 rfl (Sto.ofV Ar3 qk3 Ov1 (Ins.self (G.2.1.ext O1.2))) (g := (mkF m 10 #[.val (.int p1), .unset, .unset, .unset, .unset, .unset, .unset] [(.ref wW1), (.int (0 : Int32)), (.ref b1), (.ref b1)])) rfl rfl (hb hby at_10)
  have V3 := Arv.set Ar3 qk3 Sz3 Nn3 Hs3 Gs3 rfl W3 0 rfl (Nat.le_of_ble_eq_true rfl)
  have O3 := O1.wr W3 ge_b1
  have K3 := K1.wr W3 (Or.inr sz_b1)
  have N3 := Fr.snoc X3 N0 ge_b1
  obtain ⟨T4, X4, e4, st4⟩ := getS2 X3 hx hZ hown (host := "") (Or.inl (hw _ (List.mem_of_getElem? (i := 6) rfl))) Via.refl e3 (G.2.2.1.ext O3.2) (g := (mkF m 13 #[.val (.int p1), .unset, .unset, .unset, .unset, .unset, .unset] [(.int (1 : Int32)), (.ref b1), (.ref b1)])) rfl (hb hby at_13)
  obtain ⟨cl5, Ar5, qk5, Sz5, Nn5, Hs5, Gs5⟩ := id (V3)
  have hin5 : ¬ ((1 : Int32) < 0 ∨ cl5.slots.size ≤ ((1 : Int32)).toNatClampNeg) := inb_of Sz5 ⟨by decide, by decide⟩
  obtain ⟨T5, h5, X5, e5, W5, st5⟩ := stR X4 hx hZ e4 Ar5 (j := (1 : Int32)) hin5 rfl (Sto.ofV Ar5 qk5 Ov1 (Ins.self (G.2.2.2.1.ext O3.2))) (g := (mkF m 16 #[.val (.int p1), .unset, .unset, .unset, .unset, .unset, .unset] [(.ref wW2), (.int (1 : Int32)), (.ref b1), (.ref b1)])) rfl rfl (hb hby at_16)
  have V5 := Arv.set Ar5 qk5 Sz5 Nn5 Hs5 Gs5 rfl W5 1 rfl (Nat.le_of_ble_eq_true rfl)
  have O5 := O3.wr W5 ge_b1
  have K5 := K3.wr W5 (Or.inr sz_b1)
  have N5 := Fr.snoc X5 N3 ge_b1
  obtain ⟨T6, X6, e6, st6⟩ := getS2 X5 hx hZ hown (host := "") (Or.inl (hw _ (List.mem_of_getElem? (i := 8) rfl))) Via.refl e5 (G.2.2.2.2.1.ext O5.2) (g := (mkF m 19 #[.val (.int p1), .unset, .unset, .unset, .unset, .unset, .unset] [(.int (2 : Int32)), (.ref b1), (.ref b1)])) rfl (hb hby at_19)
  obtain ⟨cl7, Ar7, qk7, Sz7, Nn7, Hs7, Gs7⟩ := id (V5)
  have hin7 : ¬ ((2 : Int32) < 0 ∨ cl7.slots.size ≤ ((2 : Int32)).toNatClampNeg) := inb_of Sz7 ⟨by decide, by decide⟩
  obtain ⟨T7, h7, X7, e7, W7, st7⟩ := stR X6 hx hZ e6 Ar7 (j := (2 : Int32)) hin7 rfl (Sto.ofV Ar7 qk7 Ov1 (Ins.self (G.2.2.2.2.2.1.ext O5.2))) (g := (mkF m 22 #[.val (.int p1), .unset, .unset, .unset, .unset, .unset, .unset] [(.ref wW3), (.int (2 : Int32)), (.ref b1), (.ref b1)])) rfl rfl (hb hby at_22)
  have V7 := Arv.set Ar7 qk7 Sz7 Nn7 Hs7 Gs7 rfl W7 2 rfl (Nat.le_of_ble_eq_true rfl)
  have O7 := O5.wr W7 ge_b1
  have K7 := K5.wr W7 (Or.inr sz_b1)
  have N7 := Fr.snoc X7 N5 ge_b1
  obtain ⟨T8, X8, e8, st8⟩ := getS2 X7 hx hZ hown (host := "") (Or.inl (hw _ (List.mem_of_getElem? (i := 10) rfl))) Via.refl e7 (G.2.2.2.2.2.2.1.ext O7.2) (g := (mkF m 25 #[.val (.int p1), .unset, .unset, .unset, .unset, .unset, .unset] [(.int (3 : Int32)), (.ref b1), (.ref b1)])) rfl (hb hby at_25)
  obtain ⟨cl9, Ar9, qk9, Sz9, Nn9, Hs9, Gs9⟩ := id (V7)
  have hin9 : ¬ ((3 : Int32) < 0 ∨ cl9.slots.size ≤ ((3 : Int32)).toNatClampNeg) := inb_of Sz9 ⟨by decide, by decide⟩
  obtain ⟨T9, h9, X9, e9, W9, st9⟩ := stR X8 hx hZ e8 Ar9 (j := (3 : Int32)) hin9 rfl (Sto.ofV Ar9 qk9 Ov1 (Ins.self (G.2.2.2.2.2.2.2.1.ext O7.2))) (g := (mkF m 28 #[.val (.int p1), .unset, .unset, .unset, .unset, .unset, .unset] [(.ref wW4), (.int (3 : Int32)), (.ref b1), (.ref b1)])) rfl rfl (hb hby at_28)
  have V9 := Arv.set Ar9 qk9 Sz9 Nn9 Hs9 Gs9 rfl W9 3 rfl (Nat.le_of_ble_eq_true rfl)
  have O9 := O7.wr W9 ge_b1
  have K9 := K7.wr W9 (Or.inr sz_b1)
  have N9 := Fr.snoc X9 N7 ge_b1
  obtain ⟨T10, X10, e10, st10⟩ := getS2 X9 hx hZ hown (host := "") (Or.inl (hw _ (List.mem_of_getElem? (i := 12) rfl))) Via.refl e9 (G.2.2.2.2.2.2.2.2.1.ext O9.2) (g := (mkF m 31 #[.val (.int p1), .unset, .unset, .unset, .unset, .unset, .unset] [(.int (4 : Int32)), (.ref b1), (.ref b1)])) rfl (hb hby at_31)
  obtain ⟨cl11, Ar11, qk11, Sz11, Nn11, Hs11, Gs11⟩ := id (V9)
  have hin11 : ¬ ((4 : Int32) < 0 ∨ cl11.slots.size ≤ ((4 : Int32)).toNatClampNeg) := inb_of Sz11 ⟨by decide, by decide⟩
  obtain ⟨T11, h11, X11, e11, W11, st11⟩ := stR X10 hx hZ e10 Ar11 (j := (4 : Int32)) hin11 rfl (Sto.ofV Ar11 qk11 Ov1 (Ins.self (G.2.2.2.2.2.2.2.2.2.1.ext O9.2))) (g := (mkF m 34 #[.val (.int p1), .unset, .unset, .unset, .unset, .unset, .unset] [(.ref wW5), (.int (4 : Int32)), (.ref b1), (.ref b1)])) rfl rfl (hb hby at_34)
  have V11 := Arv.set Ar11 qk11 Sz11 Nn11 Hs11 Gs11 rfl W11 4 rfl (Nat.le_of_ble_eq_true rfl)
  have O11 := O9.wr W11 ge_b1
  have K11 := K9.wr W11 (Or.inr sz_b1)
  have N11 := Fr.snoc X11 N9 ge_b1
  obtain ⟨T12, X12, e12, st12⟩ := getS2 X11 hx hZ hown (host := "") (Or.inl (hw _ (List.mem_of_getElem? (i := 14) rfl))) Via.refl e11 (G.2.2.2.2.2.2.2.2.2.2.1.ext O11.2) (g := (mkF m 37 #[.val (.int p1), .unset, .unset, .unset, .unset, .unset, .unset] [(.int (5 : Int32)), (.ref b1), (.ref b1)])) rfl (hb hby at_37)
  obtain ⟨cl13, Ar13, qk13, Sz13, Nn13, Hs13, Gs13⟩ := id (V11)
  have hin13 : ¬ ((5 : Int32) < 0 ∨ cl13.slots.size ≤ ((5 : Int32)).toNatClampNeg) := inb_of Sz13 ⟨by decide, by decide⟩
  obtain ⟨T13, h13, X13, e13, W13, st13⟩ := stR X12 hx hZ e12 Ar13 (j := (5 : Int32)) hin13 rfl (Sto.ofV Ar13 qk13 Ov1 (Ins.self (G.2.2.2.2.2.2.2.2.2.2.2.1.ext O11.2))) (g := (mkF m 40 #[.val (.int p1), .unset, .unset, .unset, .unset, .unset, .unset] [(.ref wW6), (.int (5 : Int32)), (.ref b1), (.ref b1)])) rfl rfl (hb hby at_40)
  have V13 := Arv.set Ar13 qk13 Sz13 Nn13 Hs13 Gs13 rfl W13 5 rfl (Nat.le_of_ble_eq_true rfl)
  have O13 := O11.wr W13 ge_b1
  have K13 := K11.wr W13 (Or.inr sz_b1)
  have N13 := Fr.snoc X13 N11 ge_b1
  obtain ⟨T14, X14, e14, st14⟩ := getS2 X13 hx hZ hown (host := "") (Or.inl (hw _ (List.mem_of_getElem? (i := 16) rfl))) Via.refl e13 (G.2.2.2.2.2.2.2.2.2.2.2.2.1.ext O13.2) (g := (mkF m 44 #[.val (.int p1), .unset, .unset, .unset, .unset, .unset, .unset] [(.int (6 : Int32)), (.ref b1), (.ref b1)])) rfl (hb hby at_44)
  obtain ⟨cl15, Ar15, qk15, Sz15, Nn15, Hs15, Gs15⟩ := id (V13)
  have hin15 : ¬ ((6 : Int32) < 0 ∨ cl15.slots.size ≤ ((6 : Int32)).toNatClampNeg) := inb_of Sz15 ⟨by decide, by decide⟩
  obtain ⟨T15, h15, X15, e15, W15, st15⟩ := stR X14 hx hZ e14 Ar15 (j := (6 : Int32)) hin15 rfl (Sto.ofV Ar15 qk15 Ov1 (Ins.self (G.2.2.2.2.2.2.2.2.2.2.2.2.2.1.ext O13.2))) (g := (mkF m 47 #[.val (.int p1), .unset, .unset, .unset, .unset, .unset, .unset] [(.ref wCW1), (.int (6 : Int32)), (.ref b1), (.ref b1)])) rfl rfl (hb hby at_47)
  have V15 := Arv.set Ar15 qk15 Sz15 Nn15 Hs15 Gs15 rfl W15 6 rfl (Nat.le_of_ble_eq_true rfl)
  have O15 := O13.wr W15 ge_b1
  have K15 := K13.wr W15 (Or.inr sz_b1)
  have N15 := Fr.snoc X15 N13 ge_b1
  obtain ⟨T16, X16, e16, st16⟩ := getS2 X15 hx hZ hown (host := "") (Or.inl (hw _ (List.mem_of_getElem? (i := 18) rfl))) Via.refl e15 (G.2.2.2.2.2.2.2.2.2.2.2.2.2.2.1.ext O15.2) (g := (mkF m 51 #[.val (.int p1), .unset, .unset, .unset, .unset, .unset, .unset] [(.int (7 : Int32)), (.ref b1), (.ref b1)])) rfl (hb hby at_51)
  obtain ⟨cl17, Ar17, qk17, Sz17, Nn17, Hs17, Gs17⟩ := id (V15)
  have hin17 : ¬ ((7 : Int32) < 0 ∨ cl17.slots.size ≤ ((7 : Int32)).toNatClampNeg) := inb_of Sz17 ⟨by decide, by decide⟩
  obtain ⟨T17, h17, X17, e17, W17, st17⟩ := stR X16 hx hZ e16 Ar17 (j := (7 : Int32)) hin17 rfl (Sto.ofV Ar17 qk17 Ov1 (Ins.self (G.2.2.2.2.2.2.2.2.2.2.2.2.2.2.2.1.ext O15.2))) (g := (mkF m 54 #[.val (.int p1), .unset, .unset, .unset, .unset, .unset, .unset] [(.ref wCW2), (.int (7 : Int32)), (.ref b1), (.ref b1)])) rfl rfl (hb hby at_54)
  have V17 := Arv.set Ar17 qk17 Sz17 Nn17 Hs17 Gs17 rfl W17 7 rfl (Nat.le_of_ble_eq_true rfl)
  have O17 := O15.wr W17 ge_b1
  have K17 := K15.wr W17 (Or.inr sz_b1)
  have N17 := Fr.snoc X17 N15 ge_b1
  obtain ⟨T18, X18, e18, st18⟩ := getS2 X17 hx hZ hown (host := "") (Or.inl (hw _ (List.mem_of_getElem? (i := 20) rfl))) Via.refl e17 (G.2.2.2.2.2.2.2.2.2.2.2.2.2.2.2.2.1.ext O17.2) (g := (mkF m 58 #[.val (.int p1), .unset, .unset, .unset, .unset, .unset, .unset] [(.int (8 : Int32)), (.ref b1), (.ref b1)])) rfl (hb hby at_58)
  obtain ⟨cl19, Ar19, qk19, Sz19, Nn19, Hs19, Gs19⟩ := id (V17)
  have hin19 : ¬ ((8 : Int32) < 0 ∨ cl19.slots.size ≤ ((8 : Int32)).toNatClampNeg) := inb_of Sz19 ⟨by decide, by decide⟩
  obtain ⟨T19, h19, X19, e19, W19, st19⟩ := stR X18 hx hZ e18 Ar19 (j := (8 : Int32)) hin19 rfl (Sto.ofV Ar19 qk19 Ov1 (Ins.self (G.2.2.2.2.2.2.2.2.2.2.2.2.2.2.2.2.2.1.ext O17.2))) (g := (mkF m 61 #[.val (.int p1), .unset, .unset, .unset, .unset, .unset, .unset] [(.ref wCW3), (.int (8 : Int32)), (.ref b1), (.ref b1)])) rfl rfl (hb hby at_61)
  have V19 := Arv.set Ar19 qk19 Sz19 Nn19 Hs19 Gs19 rfl W19 8 rfl (Nat.le_of_ble_eq_true rfl)
  have O19 := O17.wr W19 ge_b1
  have K19 := K17.wr W19 (Or.inr sz_b1)
  have N19 := Fr.snoc X19 N17 ge_b1
  obtain ⟨T20, X20, e20, st20⟩ := getS2 X19 hx hZ hown (host := "") (Or.inl (hw _ (List.mem_of_getElem? (i := 22) rfl))) Via.refl e19 (G.2.2.2.2.2.2.2.2.2.2.2.2.2.2.2.2.2.2.1.ext O19.2) (g := (mkF m 65 #[.val (.int p1), .unset, .unset, .unset, .unset, .unset, .unset] [(.int (9 : Int32)), (.ref b1), (.ref b1)])) rfl (hb hby at_65)
  obtain ⟨cl21, Ar21, qk21, Sz21, Nn21, Hs21, Gs21⟩ := id (V19)
  have hin21 : ¬ ((9 : Int32) < 0 ∨ cl21.slots.size ≤ ((9 : Int32)).toNatClampNeg) := inb_of Sz21 ⟨by decide, by decide⟩
  obtain ⟨T21, h21, X21, e21, W21, st21⟩ := stR X20 hx hZ e20 Ar21 (j := (9 : Int32)) hin21 rfl (Sto.ofV Ar21 qk21 Ov1 (Ins.self (G.2.2.2.2.2.2.2.2.2.2.2.2.2.2.2.2.2.2.2.1.ext O19.2))) (g := (mkF m 68 #[.val (.int p1), .unset, .unset, .unset, .unset, .unset, .unset] [(.ref wCW4), (.int (9 : Int32)), (.ref b1), (.ref b1)])) rfl rfl (hb hby at_68)
  have V21 := Arv.set Ar21 qk21 Sz21 Nn21 Hs21 Gs21 rfl W21 9 rfl (Nat.le_of_ble_eq_true rfl)
  have O21 := O19.wr W21 ge_b1
  have K21 := K19.wr W21 (Or.inr sz_b1)
  have N21 := Fr.snoc X21 N19 ge_b1
  obtain ⟨T22, X22, e22, st22⟩ := getS2 X21 hx hZ hown (host := "") (Or.inl (hw _ (List.mem_of_getElem? (i := 24) rfl))) Via.refl e21 (G.2.2.2.2.2.2.2.2.2.2.2.2.2.2.2.2.2.2.2.2.1.ext O21.2) (g := (mkF m 72 #[.val (.int p1), .unset, .unset, .unset, .unset, .unset, .unset] [(.int (10 : Int32)), (.ref b1), (.ref b1)])) rfl (hb hby at_72)
  obtain ⟨cl23, Ar23, qk23, Sz23, Nn23, Hs23, Gs23⟩ := id (V21)
  have hin23 : ¬ ((10 : Int32) < 0 ∨ cl23.slots.size ≤ ((10 : Int32)).toNatClampNeg) := inb_of Sz23 ⟨by decide, by decide⟩
  obtain ⟨T23, h23, X23, e23, W23, st23⟩ := stR X22 hx hZ e22 Ar23 (j := (10 : Int32)) hin23 rfl (Sto.ofV Ar23 qk23 Ov1 (Ins.self (G.2.2.2.2.2.2.2.2.2.2.2.2.2.2.2.2.2.2.2.2.2.1.ext O21.2))) (g := (mkF m 75 #[.val (.int p1), .unset, .unset, .unset, .unset, .unset, .unset] [(.ref wCW5), (.int (10 : Int32)), (.ref b1), (.ref b1)])) rfl rfl (hb hby at_75)
  have V23 := Arv.set Ar23 qk23 Sz23 Nn23 Hs23 Gs23 rfl W23 10 rfl (Nat.le_of_ble_eq_true rfl)
  have O23 := O21.wr W23 ge_b1
  have K23 := K21.wr W23 (Or.inr sz_b1)
  have N23 := Fr.snoc X23 N21 ge_b1
  obtain ⟨T24, X24, e24, st24⟩ := getS2 X23 hx hZ hown (host := "") (Or.inl (hw _ (List.mem_of_getElem? (i := 26) rfl))) Via.refl e23 (G.2.2.2.2.2.2.2.2.2.2.2.2.2.2.2.2.2.2.2.2.2.2.1.ext O23.2) (g := (mkF m 79 #[.val (.int p1), .unset, .unset, .unset, .unset, .unset, .unset] [(.int (11 : Int32)), (.ref b1), (.ref b1)])) rfl (hb hby at_79)
  obtain ⟨cl25, Ar25, qk25, Sz25, Nn25, Hs25, Gs25⟩ := id (V23)
  have hin25 : ¬ ((11 : Int32) < 0 ∨ cl25.slots.size ≤ ((11 : Int32)).toNatClampNeg) := inb_of Sz25 ⟨by decide, by decide⟩
  obtain ⟨T25, h25, X25, e25, W25, st25⟩ := stR X24 hx hZ e24 Ar25 (j := (11 : Int32)) hin25 rfl (Sto.ofV Ar25 qk25 Ov1 (Ins.self (G.2.2.2.2.2.2.2.2.2.2.2.2.2.2.2.2.2.2.2.2.2.2.2.1.ext O23.2))) (g := (mkF m 82 #[.val (.int p1), .unset, .unset, .unset, .unset, .unset, .unset] [(.ref wCW6), (.int (11 : Int32)), (.ref b1), (.ref b1)])) rfl rfl (hb hby at_82)
  have V25 := Arv.set Ar25 qk25 Sz25 Nn25 Hs25 Gs25 rfl W25 11 rfl (Nat.le_of_ble_eq_true rfl)
  have O25 := O23.wr W25 ge_b1
  have K25 := K23.wr W25 (Or.inr sz_b1)
  have N25 := Fr.snoc X25 N23 ge_b1
  obtain ⟨cl26, Ar26, qk26, Sz26, Nn26, Hs26, Gs26⟩ := id (V25)
  have hin27 : ¬ ((4 : Int32) < 0 ∨ cl26.slots.size ≤ ((4 : Int32)).toNatClampNeg) := inb_of Sz26 ⟨by decide, by decide⟩
  have hat27 : cl26.slots[((4 : Int32)).toNatClampNeg]? = some (.ref wW5) := Hs26.at hin27 rfl
  obtain ⟨cq28, kq28, q28a, q28b, q28c⟩ := isOf hZ e25 (G.2.2.2.2.2.2.2.2.2.1.ext O25.2)
  obtain ⟨_, _, ⟨T28, L28, k28, n28⟩, -, X28, ⟨Lc28, hQ28, l28, y28, z28⟩, st28⟩ := X25.virtualBack hx (y := (⟨"com/example/credlib/credlib/engine/Rule", "statesCredential", "()Z"⟩ : MethodName)) (z := (⟨"com/example/credlib/credlib/engine/Rule", "statesCredential", "()Z"⟩ : MethodName)) hown (mvT hZ (hw _ (List.mem_of_getElem? (i := 29) rfl))) (mvT hZ (hw _ (List.mem_of_getElem? (i := 30) rfl))) (notFace_of_selects (args := #[]) (mvT hZ (hw _ (List.mem_of_getElem? (i := 32) rfl)))) (mvT hZ (hw _ (List.mem_of_getElem? (i := 32) rfl))) (mvT hZ (hw _ (List.mem_of_getElem? (i := 31) rfl))) (by decide) (backOf (W := 0) (own_statesCredential_16 l Z a0 hw [] wW1 wW2 wW3 wW4 wW5 wW6 wCW1 wCW2 wCW3 wCW4 wCW5 wCW6 G h25 n0 O25) hZ (hw _ (List.mem_of_getElem? (i := 33) rfl)) (hw _ (List.mem_of_getElem? (i := 3) rfl)) (by decide) (by decide)) q28a q28c (g := (mkF m 111 #[.val (.int p1), .val (.ref b1), .val (.int (4 : Int32)), .val (.ref wW5), .val (.int (0 : Int32)), .unset, .unset] [(.ref wW5)])) rfl (by rw [hml]; rfl) (Steps.refl _) (argsL := []) (rest := []) (lenOf own_pd_0 rfl) rfl (by show 2 * 0 + _ ≤ _; exact Nat.le_of_eq rfl) (hb hby at_111) (fun _ _ => ⟨rfl, e25, (by decide : 1 + 0 ≤ _), (by decide : 12 + 0 ≤ _)⟩)
  dsimp only [Pt.U, Pt.locs, Pt.cells, Pt.slots] at X28 l28 y28 z28 st28 hQ28
  subst l28 y28 z28
  obtain ⟨rfl, N28q, e28⟩ := hQ28
  have N28 := Fr.app N25 N28q
  obtain ⟨cq29, kq29, q29a, q29b, q29c⟩ := isOf hZ e28 (G.2.2.2.2.2.2.2.2.2.1.ext O25.2)
  obtain ⟨_, _, ⟨T29, L29, k29, n29⟩, -, X29, ⟨Lc29, hQ29, l29, y29, z29⟩, st29⟩ := X28.virtualBack hx (y := (⟨"com/example/credlib/credlib/engine/Rule", "atInstant", "()Lcom/example/credlib/credlib/engine/Rule;"⟩ : MethodName)) (z := (⟨"com/example/credlib/credlib/engine/Rule", "atInstant", "()Lcom/example/credlib/credlib/engine/Rule;"⟩ : MethodName)) hown (mvT hZ (hw _ (List.mem_of_getElem? (i := 35) rfl))) (mvT hZ (hw _ (List.mem_of_getElem? (i := 36) rfl))) (notFace_of_selects (args := #[]) (mvT hZ (hw _ (List.mem_of_getElem? (i := 38) rfl)))) (mvT hZ (hw _ (List.mem_of_getElem? (i := 38) rfl))) (mvT hZ (hw _ (List.mem_of_getElem? (i := 37) rfl))) (by decide) (backOf (W := 0) (own_atInstant_17 l Z a0 hw [] wW1 wW2 wW3 wW4 wW5 wW6 wCW1 wCW2 wCW3 wCW4 wCW5 wCW6 G h25 n0 O25) hZ (hw _ (List.mem_of_getElem? (i := 39) rfl)) (hw _ (List.mem_of_getElem? (i := 3) rfl)) (by decide) (by decide)) q29a q29c (g := (mkF m 117 #[.val (.int p1), .val (.ref b1), .val (.int (4 : Int32)), .val (.ref wW5), .val (.int (0 : Int32)), .val (.int (0 : Int32)), .unset] [(.ref wW5)])) rfl (by rw [hml]; rfl) (Steps.refl _) (argsL := []) (rest := []) (lenOf own_pd_2 rfl) rfl (by show 2 * 0 + _ ≤ _; exact Nat.le_of_eq rfl) (hb hby at_117) (fun _ _ => ⟨rfl, e28, (by decide : 1 + 0 ≤ _), (by decide : 12 + 0 ≤ _)⟩)
  dsimp only [Pt.U, Pt.locs, Pt.cells, Pt.slots] at X29 l29 y29 z29 st29 hQ29
  subst l29 y29 z29
  obtain ⟨rfl, N29q, e29⟩ := hQ29
  have N29 := Fr.app N28 N29q
  obtain ⟨cq30, kq30, q30a, q30b, q30c⟩ := isOf hZ e29 (G.2.2.2.2.2.2.2.2.2.2.2.2.2.2.2.2.2.2.2.2.2.1.ext O25.2)
  obtain ⟨_, _, ⟨T30, L30, k30, n30⟩, -, X30, ⟨Lc30, hQ30, l30, y30, z30⟩, st30⟩ := X29.virtualBack hx (y := (⟨"com/example/credlib/credlib/engine/Rule", "statesCredential", "()Z"⟩ : MethodName)) (z := (⟨"com/example/credlib/credlib/engine/Rule", "statesCredential", "()Z"⟩ : MethodName)) hown (mvT hZ (hw _ (List.mem_of_getElem? (i := 29) rfl))) (mvT hZ (hw _ (List.mem_of_getElem? (i := 30) rfl))) (notFace_of_selects (args := #[]) (mvT hZ (hw _ (List.mem_of_getElem? (i := 32) rfl)))) (mvT hZ (hw _ (List.mem_of_getElem? (i := 32) rfl))) (mvT hZ (hw _ (List.mem_of_getElem? (i := 31) rfl))) (by decide) (backOf (W := 0) (own_statesCredential_19 l Z a0 hw [] wW1 wW2 wW3 wW4 wW5 wW6 wCW1 wCW2 wCW3 wCW4 wCW5 wCW6 G h25 n0 O25) hZ (hw _ (List.mem_of_getElem? (i := 33) rfl)) (hw _ (List.mem_of_getElem? (i := 3) rfl)) (by decide) (by decide)) q30a q30c (g := (mkF m 120 #[.val (.int p1), .val (.ref b1), .val (.int (4 : Int32)), .val (.ref wW5), .val (.int (0 : Int32)), .val (.int (0 : Int32)), .unset] [(.ref wCW5)])) rfl (by rw [hml]; rfl) (Steps.refl _) (argsL := []) (rest := []) (lenOf own_pd_0 rfl) rfl (by show 2 * 0 + _ ≤ _; exact Nat.le_of_eq rfl) (hb hby at_120) (fun _ _ => ⟨rfl, e29, (by decide : 1 + 0 ≤ _), (by decide : 12 + 0 ≤ _)⟩)
  dsimp only [Pt.U, Pt.locs, Pt.cells, Pt.slots] at X30 l30 y30 z30 st30 hQ30
  subst l30 y30 z30
  obtain ⟨rfl, N30q, e30⟩ := hQ30
  have N30 := Fr.app N29 N30q
  obtain ⟨fs, hr, hrun, hended, hW, hsame⟩ := X30.leave (v := some (.int (1 : Int32))) (fun h => by rw [Bd.returns] at h; cases h)
  refine ⟨_, _, pre0 _ ?_, hrun, hended, _, _, rfl, ?_, ⟨_, rfl⟩, hW, hsame.mono (by decide) (by decide)⟩
  · show Steps p.tables e below (s₁.setTop (mkF m 0 #[.val (.int p1), .unset, .unset, .unset, .unset, .unset, .unset] [])) _
    refine XS.bipush X0.here hx rfl (hb hby at_0) ?_
    show Steps p.tables e below (s₁.setTop (mkF m 2 #[.val (.int p1), .unset, .unset, .unset, .unset, .unset, .unset] [(.int (12 : Int32))])) _
    refine st1 _ ?_
    show Steps p.tables e below (T1.setTop (mkF m 5 #[.val (.int p1), .unset, .unset, .unset, .unset, .unset, .unset] [(.ref b1)])) _
    refine XS.dup X1.here hx rfl (hb hby at_5) rfl rfl ?_
    show Steps p.tables e below (T1.setTop (mkF m 6 #[.val (.int p1), .unset, .unset, .unset, .unset, .unset, .unset] [(.ref b1), (.ref b1)])) _
    refine XS.iconst X1.here hx rfl (hb hby at_6) ?_
    show Steps p.tables e below (T1.setTop (mkF m 7 #[.val (.int p1), .unset, .unset, .unset, .unset, .unset, .unset] [(.int (0 : Int32)), (.ref b1), (.ref b1)])) _
    refine st2 _ ?_
    show Steps p.tables e below (T2.setTop (mkF m 10 #[.val (.int p1), .unset, .unset, .unset, .unset, .unset, .unset] [(.ref wW1), (.int (0 : Int32)), (.ref b1), (.ref b1)])) _
    refine st3 _ ?_
    show Steps p.tables e below (T3.setTop (mkF m 11 #[.val (.int p1), .unset, .unset, .unset, .unset, .unset, .unset] [(.ref b1)])) _
    refine XS.dup X3.here hx rfl (hb hby at_11) rfl rfl ?_
    show Steps p.tables e below (T3.setTop (mkF m 12 #[.val (.int p1), .unset, .unset, .unset, .unset, .unset, .unset] [(.ref b1), (.ref b1)])) _
    refine XS.iconst X3.here hx rfl (hb hby at_12) ?_
    show Steps p.tables e below (T3.setTop (mkF m 13 #[.val (.int p1), .unset, .unset, .unset, .unset, .unset, .unset] [(.int (1 : Int32)), (.ref b1), (.ref b1)])) _
    refine st4 _ ?_
    show Steps p.tables e below (T4.setTop (mkF m 16 #[.val (.int p1), .unset, .unset, .unset, .unset, .unset, .unset] [(.ref wW2), (.int (1 : Int32)), (.ref b1), (.ref b1)])) _
    refine st5 _ ?_
    show Steps p.tables e below (T5.setTop (mkF m 17 #[.val (.int p1), .unset, .unset, .unset, .unset, .unset, .unset] [(.ref b1)])) _
    refine XS.dup X5.here hx rfl (hb hby at_17) rfl rfl ?_
    show Steps p.tables e below (T5.setTop (mkF m 18 #[.val (.int p1), .unset, .unset, .unset, .unset, .unset, .unset] [(.ref b1), (.ref b1)])) _
    refine XS.iconst X5.here hx rfl (hb hby at_18) ?_
    show Steps p.tables e below (T5.setTop (mkF m 19 #[.val (.int p1), .unset, .unset, .unset, .unset, .unset, .unset] [(.int (2 : Int32)), (.ref b1), (.ref b1)])) _
    refine st6 _ ?_
    show Steps p.tables e below (T6.setTop (mkF m 22 #[.val (.int p1), .unset, .unset, .unset, .unset, .unset, .unset] [(.ref wW3), (.int (2 : Int32)), (.ref b1), (.ref b1)])) _
    refine st7 _ ?_
    show Steps p.tables e below (T7.setTop (mkF m 23 #[.val (.int p1), .unset, .unset, .unset, .unset, .unset, .unset] [(.ref b1)])) _
    refine XS.dup X7.here hx rfl (hb hby at_23) rfl rfl ?_
    show Steps p.tables e below (T7.setTop (mkF m 24 #[.val (.int p1), .unset, .unset, .unset, .unset, .unset, .unset] [(.ref b1), (.ref b1)])) _
    refine XS.iconst X7.here hx rfl (hb hby at_24) ?_
    show Steps p.tables e below (T7.setTop (mkF m 25 #[.val (.int p1), .unset, .unset, .unset, .unset, .unset, .unset] [(.int (3 : Int32)), (.ref b1), (.ref b1)])) _
    refine st8 _ ?_
    show Steps p.tables e below (T8.setTop (mkF m 28 #[.val (.int p1), .unset, .unset, .unset, .unset, .unset, .unset] [(.ref wW4), (.int (3 : Int32)), (.ref b1), (.ref b1)])) _
    refine st9 _ ?_
    show Steps p.tables e below (T9.setTop (mkF m 29 #[.val (.int p1), .unset, .unset, .unset, .unset, .unset, .unset] [(.ref b1)])) _
    refine XS.dup X9.here hx rfl (hb hby at_29) rfl rfl ?_
    show Steps p.tables e below (T9.setTop (mkF m 30 #[.val (.int p1), .unset, .unset, .unset, .unset, .unset, .unset] [(.ref b1), (.ref b1)])) _
    refine XS.iconst X9.here hx rfl (hb hby at_30) ?_
    show Steps p.tables e below (T9.setTop (mkF m 31 #[.val (.int p1), .unset, .unset, .unset, .unset, .unset, .unset] [(.int (4 : Int32)), (.ref b1), (.ref b1)])) _
    refine st10 _ ?_
    show Steps p.tables e below (T10.setTop (mkF m 34 #[.val (.int p1), .unset, .unset, .unset, .unset, .unset, .unset] [(.ref wW5), (.int (4 : Int32)), (.ref b1), (.ref b1)])) _
    refine st11 _ ?_
    show Steps p.tables e below (T11.setTop (mkF m 35 #[.val (.int p1), .unset, .unset, .unset, .unset, .unset, .unset] [(.ref b1)])) _
    refine XS.dup X11.here hx rfl (hb hby at_35) rfl rfl ?_
    show Steps p.tables e below (T11.setTop (mkF m 36 #[.val (.int p1), .unset, .unset, .unset, .unset, .unset, .unset] [(.ref b1), (.ref b1)])) _
    refine XS.iconst X11.here hx rfl (hb hby at_36) ?_
    show Steps p.tables e below (T11.setTop (mkF m 37 #[.val (.int p1), .unset, .unset, .unset, .unset, .unset, .unset] [(.int (5 : Int32)), (.ref b1), (.ref b1)])) _
    refine st12 _ ?_
    show Steps p.tables e below (T12.setTop (mkF m 40 #[.val (.int p1), .unset, .unset, .unset, .unset, .unset, .unset] [(.ref wW6), (.int (5 : Int32)), (.ref b1), (.ref b1)])) _
    refine st13 _ ?_
    show Steps p.tables e below (T13.setTop (mkF m 41 #[.val (.int p1), .unset, .unset, .unset, .unset, .unset, .unset] [(.ref b1)])) _
    refine XS.dup X13.here hx rfl (hb hby at_41) rfl rfl ?_
    show Steps p.tables e below (T13.setTop (mkF m 42 #[.val (.int p1), .unset, .unset, .unset, .unset, .unset, .unset] [(.ref b1), (.ref b1)])) _
    refine XS.bipush X13.here hx rfl (hb hby at_42) ?_
    show Steps p.tables e below (T13.setTop (mkF m 44 #[.val (.int p1), .unset, .unset, .unset, .unset, .unset, .unset] [(.int (6 : Int32)), (.ref b1), (.ref b1)])) _
    refine st14 _ ?_
    show Steps p.tables e below (T14.setTop (mkF m 47 #[.val (.int p1), .unset, .unset, .unset, .unset, .unset, .unset] [(.ref wCW1), (.int (6 : Int32)), (.ref b1), (.ref b1)])) _
    refine st15 _ ?_
    show Steps p.tables e below (T15.setTop (mkF m 48 #[.val (.int p1), .unset, .unset, .unset, .unset, .unset, .unset] [(.ref b1)])) _
    refine XS.dup X15.here hx rfl (hb hby at_48) rfl rfl ?_
    show Steps p.tables e below (T15.setTop (mkF m 49 #[.val (.int p1), .unset, .unset, .unset, .unset, .unset, .unset] [(.ref b1), (.ref b1)])) _
    refine XS.bipush X15.here hx rfl (hb hby at_49) ?_
    show Steps p.tables e below (T15.setTop (mkF m 51 #[.val (.int p1), .unset, .unset, .unset, .unset, .unset, .unset] [(.int (7 : Int32)), (.ref b1), (.ref b1)])) _
    refine st16 _ ?_
    show Steps p.tables e below (T16.setTop (mkF m 54 #[.val (.int p1), .unset, .unset, .unset, .unset, .unset, .unset] [(.ref wCW2), (.int (7 : Int32)), (.ref b1), (.ref b1)])) _
    refine st17 _ ?_
    show Steps p.tables e below (T17.setTop (mkF m 55 #[.val (.int p1), .unset, .unset, .unset, .unset, .unset, .unset] [(.ref b1)])) _
    refine XS.dup X17.here hx rfl (hb hby at_55) rfl rfl ?_
    show Steps p.tables e below (T17.setTop (mkF m 56 #[.val (.int p1), .unset, .unset, .unset, .unset, .unset, .unset] [(.ref b1), (.ref b1)])) _
    refine XS.bipush X17.here hx rfl (hb hby at_56) ?_
    show Steps p.tables e below (T17.setTop (mkF m 58 #[.val (.int p1), .unset, .unset, .unset, .unset, .unset, .unset] [(.int (8 : Int32)), (.ref b1), (.ref b1)])) _
    refine st18 _ ?_
    show Steps p.tables e below (T18.setTop (mkF m 61 #[.val (.int p1), .unset, .unset, .unset, .unset, .unset, .unset] [(.ref wCW3), (.int (8 : Int32)), (.ref b1), (.ref b1)])) _
    refine st19 _ ?_
    show Steps p.tables e below (T19.setTop (mkF m 62 #[.val (.int p1), .unset, .unset, .unset, .unset, .unset, .unset] [(.ref b1)])) _
    refine XS.dup X19.here hx rfl (hb hby at_62) rfl rfl ?_
    show Steps p.tables e below (T19.setTop (mkF m 63 #[.val (.int p1), .unset, .unset, .unset, .unset, .unset, .unset] [(.ref b1), (.ref b1)])) _
    refine XS.bipush X19.here hx rfl (hb hby at_63) ?_
    show Steps p.tables e below (T19.setTop (mkF m 65 #[.val (.int p1), .unset, .unset, .unset, .unset, .unset, .unset] [(.int (9 : Int32)), (.ref b1), (.ref b1)])) _
    refine st20 _ ?_
    show Steps p.tables e below (T20.setTop (mkF m 68 #[.val (.int p1), .unset, .unset, .unset, .unset, .unset, .unset] [(.ref wCW4), (.int (9 : Int32)), (.ref b1), (.ref b1)])) _
    refine st21 _ ?_
    show Steps p.tables e below (T21.setTop (mkF m 69 #[.val (.int p1), .unset, .unset, .unset, .unset, .unset, .unset] [(.ref b1)])) _
    refine XS.dup X21.here hx rfl (hb hby at_69) rfl rfl ?_
    show Steps p.tables e below (T21.setTop (mkF m 70 #[.val (.int p1), .unset, .unset, .unset, .unset, .unset, .unset] [(.ref b1), (.ref b1)])) _
    refine XS.bipush X21.here hx rfl (hb hby at_70) ?_
    show Steps p.tables e below (T21.setTop (mkF m 72 #[.val (.int p1), .unset, .unset, .unset, .unset, .unset, .unset] [(.int (10 : Int32)), (.ref b1), (.ref b1)])) _
    refine st22 _ ?_
    show Steps p.tables e below (T22.setTop (mkF m 75 #[.val (.int p1), .unset, .unset, .unset, .unset, .unset, .unset] [(.ref wCW5), (.int (10 : Int32)), (.ref b1), (.ref b1)])) _
    refine st23 _ ?_
    show Steps p.tables e below (T23.setTop (mkF m 76 #[.val (.int p1), .unset, .unset, .unset, .unset, .unset, .unset] [(.ref b1)])) _
    refine XS.dup X23.here hx rfl (hb hby at_76) rfl rfl ?_
    show Steps p.tables e below (T23.setTop (mkF m 77 #[.val (.int p1), .unset, .unset, .unset, .unset, .unset, .unset] [(.ref b1), (.ref b1)])) _
    refine XS.bipush X23.here hx rfl (hb hby at_77) ?_
    show Steps p.tables e below (T23.setTop (mkF m 79 #[.val (.int p1), .unset, .unset, .unset, .unset, .unset, .unset] [(.int (11 : Int32)), (.ref b1), (.ref b1)])) _
    refine st24 _ ?_
    show Steps p.tables e below (T24.setTop (mkF m 82 #[.val (.int p1), .unset, .unset, .unset, .unset, .unset, .unset] [(.ref wCW6), (.int (11 : Int32)), (.ref b1), (.ref b1)])) _
    refine st25 _ ?_
    show Steps p.tables e below (T25.setTop (mkF m 83 #[.val (.int p1), .unset, .unset, .unset, .unset, .unset, .unset] [(.ref b1)])) _
    refine XS.astoreN X25.here hx rfl (hb hby at_83) rfl rfl (l' := #[.val (.int p1), .val (.ref b1), .unset, .unset, .unset, .unset, .unset]) rfl ?_
    show Steps p.tables e below (T25.setTop (mkF m 84 #[.val (.int p1), .val (.ref b1), .unset, .unset, .unset, .unset, .unset] [])) _
    refine XS.iloadN X25.here hx rfl (hb hby at_84) rfl ?_
    show Steps p.tables e below (T25.setTop (mkF m 85 #[.val (.int p1), .val (.ref b1), .unset, .unset, .unset, .unset, .unset] [(.int p1)])) _
    refine Jvm.Stand.ldcI X25 hx hown (mvT hZ (hw _ (List.mem_of_getElem? (i := 28) rfl))) rfl (hb hby at_85) ?_
    show Steps p.tables e below (T25.setTop (mkF m 87 #[.val (.int p1), .val (.ref b1), .unset, .unset, .unset, .unset, .unset] [(.int (2147483647 : Int32)), (.int p1)])) _
    refine XS.iand X25.here hx rfl (hb hby at_87) rfl ?_
    show Steps p.tables e below (T25.setTop (mkF m 88 #[.val (.int p1), .val (.ref b1), .unset, .unset, .unset, .unset, .unset] [(.int (p1 &&& (2147483647 : Int32)))])) _
    refine XS.bipush X25.here hx rfl (hb hby at_88) ?_
    show Steps p.tables e below (T25.setTop (mkF m 90 #[.val (.int p1), .val (.ref b1), .unset, .unset, .unset, .unset, .unset] [(.int (12 : Int32)), (.int (p1 &&& (2147483647 : Int32)))])) _
    refine iremM X25 hx rfl (hb hby at_90) rfl (by decide) ?_
    show Steps p.tables e below (T25.setTop (mkF m 91 #[.val (.int p1), .val (.ref b1), .unset, .unset, .unset, .unset, .unset] [(.int ((p1 &&& (2147483647 : Int32)) % (12 : Int32)))])) _
    refine castTop (g' := (mkF m 91 #[.val (.int p1), .val (.ref b1), .unset, .unset, .unset, .unset, .unset] [(.int (4 : Int32))])) (by rw [hi]) ?_
    show Steps p.tables e below (T25.setTop (mkF m 91 #[.val (.int p1), .val (.ref b1), .unset, .unset, .unset, .unset, .unset] [(.int (4 : Int32))])) _
    refine XS.istoreN X25.here hx rfl (hb hby at_91) rfl (l' := #[.val (.int p1), .val (.ref b1), .val (.int (4 : Int32)), .unset, .unset, .unset, .unset]) rfl ?_
    show Steps p.tables e below (T25.setTop (mkF m 92 #[.val (.int p1), .val (.ref b1), .val (.int (4 : Int32)), .unset, .unset, .unset, .unset] [])) _
    refine XS.aloadN X25.here hx rfl (hb hby at_92) rfl rfl ?_
    show Steps p.tables e below (T25.setTop (mkF m 93 #[.val (.int p1), .val (.ref b1), .val (.int (4 : Int32)), .unset, .unset, .unset, .unset] [(.ref b1)])) _
    refine XS.iloadN X25.here hx rfl (hb hby at_93) rfl ?_
    show Steps p.tables e below (T25.setTop (mkF m 94 #[.val (.int p1), .val (.ref b1), .val (.int (4 : Int32)), .unset, .unset, .unset, .unset] [(.int (4 : Int32)), (.ref b1)])) _
    refine X25.aaload hx (j := (4 : Int32)) (v := (.ref wW5)) (by rw [e25]; exact Ar26.1) (State.isArrayOf_alike hZ.alike Ar26.2.1) rfl Ar26.2.2 hin27 hat27 (g := (mkF m 94 #[.val (.int p1), .val (.ref b1), .val (.int (4 : Int32)), .unset, .unset, .unset, .unset] [(.int (4 : Int32)), (.ref b1)])) rfl rfl (hb hby at_94) _ ?_
    show Steps p.tables e below (T25.setTop (mkF m 95 #[.val (.int p1), .val (.ref b1), .val (.int (4 : Int32)), .unset, .unset, .unset, .unset] [(.ref wW5)])) _
    refine XS.astoreN X25.here hx rfl (hb hby at_95) rfl rfl (l' := #[.val (.int p1), .val (.ref b1), .val (.int (4 : Int32)), .val (.ref wW5), .unset, .unset, .unset]) rfl ?_
    show Steps p.tables e below (T25.setTop (mkF m 96 #[.val (.int p1), .val (.ref b1), .val (.int (4 : Int32)), .val (.ref wW5), .unset, .unset, .unset] [])) _
    refine XS.iloadN X25.here hx rfl (hb hby at_96) rfl ?_
    show Steps p.tables e below (T25.setTop (mkF m 97 #[.val (.int p1), .val (.ref b1), .val (.int (4 : Int32)), .val (.ref wW5), .unset, .unset, .unset] [(.int (4 : Int32))])) _
    refine XS.bipush X25.here hx rfl (hb hby at_97) ?_
    show Steps p.tables e below (T25.setTop (mkF m 99 #[.val (.int p1), .val (.ref b1), .val (.int (4 : Int32)), .val (.ref wW5), .unset, .unset, .unset] [(.int (6 : Int32)), (.int (4 : Int32))])) _
    refine iremM X25 hx rfl (hb hby at_99) rfl (by decide) ?_
    show Steps p.tables e below (T25.setTop (mkF m 100 #[.val (.int p1), .val (.ref b1), .val (.int (4 : Int32)), .val (.ref wW5), .unset, .unset, .unset] [(.int ((4 : Int32) % (6 : Int32)))])) _
    refine castTop (g' := (mkF m 100 #[.val (.int p1), .val (.ref b1), .val (.int (4 : Int32)), .val (.ref wW5), .unset, .unset, .unset] [(.int (4 : Int32))])) (by rw [show ((4 : Int32) % (6 : Int32)) = (4 : Int32) from by decide]) ?_
    show Steps p.tables e below (T25.setTop (mkF m 100 #[.val (.int p1), .val (.ref b1), .val (.int (4 : Int32)), .val (.ref wW5), .unset, .unset, .unset] [(.int (4 : Int32))])) _
    refine XS.ifYes X25.here hx rfl (pc0 := 100) (pc' := 107) rfl (hb hby at_100) rfl (by decide) (by decide) (by decide) ?_
    show Steps p.tables e below (T25.setTop (mkF m 107 #[.val (.int p1), .val (.ref b1), .val (.int (4 : Int32)), .val (.ref wW5), .unset, .unset, .unset] [])) _
    refine XS.iconst X25.here hx rfl (hb hby at_107) ?_
    show Steps p.tables e below (T25.setTop (mkF m 108 #[.val (.int p1), .val (.ref b1), .val (.int (4 : Int32)), .val (.ref wW5), .unset, .unset, .unset] [(.int (0 : Int32))])) _
    refine XS.istore X25.here hx rfl (hb hby at_108) rfl (l' := #[.val (.int p1), .val (.ref b1), .val (.int (4 : Int32)), .val (.ref wW5), .val (.int (0 : Int32)), .unset, .unset]) rfl ?_
    show Steps p.tables e below (T25.setTop (mkF m 110 #[.val (.int p1), .val (.ref b1), .val (.int (4 : Int32)), .val (.ref wW5), .val (.int (0 : Int32)), .unset, .unset] [])) _
    refine XS.aloadN X25.here hx rfl (hb hby at_110) rfl rfl ?_
    show Steps p.tables e below (T25.setTop (mkF m 111 #[.val (.int p1), .val (.ref b1), .val (.int (4 : Int32)), .val (.ref wW5), .val (.int (0 : Int32)), .unset, .unset] [(.ref wW5)])) _
    refine st28.trans ?_
    show Steps p.tables e below (T28.setTop (mkF m 114 #[.val (.int p1), .val (.ref b1), .val (.int (4 : Int32)), .val (.ref wW5), .val (.int (0 : Int32)), .unset, .unset] [(.int (0 : Int32))])) _
    refine XS.istore X28.here hx rfl (hb hby at_114) rfl (l' := #[.val (.int p1), .val (.ref b1), .val (.int (4 : Int32)), .val (.ref wW5), .val (.int (0 : Int32)), .val (.int (0 : Int32)), .unset]) rfl ?_
    show Steps p.tables e below (T28.setTop (mkF m 116 #[.val (.int p1), .val (.ref b1), .val (.int (4 : Int32)), .val (.ref wW5), .val (.int (0 : Int32)), .val (.int (0 : Int32)), .unset] [])) _
    refine XS.aloadN X28.here hx rfl (hb hby at_116) rfl rfl ?_
    show Steps p.tables e below (T28.setTop (mkF m 117 #[.val (.int p1), .val (.ref b1), .val (.int (4 : Int32)), .val (.ref wW5), .val (.int (0 : Int32)), .val (.int (0 : Int32)), .unset] [(.ref wW5)])) _
    refine st29.trans ?_
    show Steps p.tables e below (T29.setTop (mkF m 120 #[.val (.int p1), .val (.ref b1), .val (.int (4 : Int32)), .val (.ref wW5), .val (.int (0 : Int32)), .val (.int (0 : Int32)), .unset] [(.ref wCW5)])) _
    refine st30.trans ?_
    show Steps p.tables e below (T30.setTop (mkF m 123 #[.val (.int p1), .val (.ref b1), .val (.int (4 : Int32)), .val (.ref wW5), .val (.int (0 : Int32)), .val (.int (0 : Int32)), .unset] [(.int (0 : Int32))])) _
    refine XS.istore X30.here hx rfl (hb hby at_123) rfl (l' := #[.val (.int p1), .val (.ref b1), .val (.int (4 : Int32)), .val (.ref wW5), .val (.int (0 : Int32)), .val (.int (0 : Int32)), .val (.int (0 : Int32))]) rfl ?_
    show Steps p.tables e below (T30.setTop (mkF m 125 #[.val (.int p1), .val (.ref b1), .val (.int (4 : Int32)), .val (.ref wW5), .val (.int (0 : Int32)), .val (.int (0 : Int32)), .val (.int (0 : Int32))] [])) _
    refine XS.iload X30.here hx rfl (hb hby at_125) rfl ?_
    show Steps p.tables e below (T30.setTop (mkF m 127 #[.val (.int p1), .val (.ref b1), .val (.int (4 : Int32)), .val (.ref wW5), .val (.int (0 : Int32)), .val (.int (0 : Int32)), .val (.int (0 : Int32))] [(.int (0 : Int32))])) _
    refine XS.iload X30.here hx rfl (hb hby at_127) rfl ?_
    show Steps p.tables e below (T30.setTop (mkF m 129 #[.val (.int p1), .val (.ref b1), .val (.int (4 : Int32)), .val (.ref wW5), .val (.int (0 : Int32)), .val (.int (0 : Int32)), .val (.int (0 : Int32))] [(.int (0 : Int32)), (.int (0 : Int32))])) _
    refine XS.icmpNo X30.here hx rfl (hb hby at_129) rfl (by decide) ?_
    show Steps p.tables e below (T30.setTop (mkF m 132 #[.val (.int p1), .val (.ref b1), .val (.int (4 : Int32)), .val (.ref wW5), .val (.int (0 : Int32)), .val (.int (0 : Int32)), .val (.int (0 : Int32))] [])) _
    refine XS.iload X30.here hx rfl (hb hby at_132) rfl ?_
    show Steps p.tables e below (T30.setTop (mkF m 134 #[.val (.int p1), .val (.ref b1), .val (.int (4 : Int32)), .val (.ref wW5), .val (.int (0 : Int32)), .val (.int (0 : Int32)), .val (.int (0 : Int32))] [(.int (0 : Int32))])) _
    refine XS.iload X30.here hx rfl (hb hby at_134) rfl ?_
    show Steps p.tables e below (T30.setTop (mkF m 136 #[.val (.int p1), .val (.ref b1), .val (.int (4 : Int32)), .val (.ref wW5), .val (.int (0 : Int32)), .val (.int (0 : Int32)), .val (.int (0 : Int32))] [(.int (0 : Int32)), (.int (0 : Int32))])) _
    refine XS.icmpNo X30.here hx rfl (hb hby at_136) rfl (by decide) ?_
    show Steps p.tables e below (T30.setTop (mkF m 139 #[.val (.int p1), .val (.ref b1), .val (.int (4 : Int32)), .val (.ref wW5), .val (.int (0 : Int32)), .val (.int (0 : Int32)), .val (.int (0 : Int32))] [])) _
    refine XS.iconst X30.here hx rfl (hb hby at_139) ?_
    show Steps p.tables e below (T30.setTop (mkF m 140 #[.val (.int p1), .val (.ref b1), .val (.int (4 : Int32)), .val (.ref wW5), .val (.int (0 : Int32)), .val (.int (0 : Int32)), .val (.int (0 : Int32))] [(.int (1 : Int32))])) _
    refine XS.goto X30.here hx rfl (pc0 := 140) (pc' := 144) rfl (hb hby at_140) (by decide) (by decide) ?_
    show Steps p.tables e below (T30.setTop (mkF m 144 #[.val (.int p1), .val (.ref b1), .val (.int (4 : Int32)), .val (.ref wW5), .val (.int (0 : Int32)), .val (.int (0 : Int32)), .val (.int (0 : Int32))] [(.int (1 : Int32))])) _
    exact retN X30 hx (t := .boolean) Bd.returns (by simp) (hb hby at_144) hr
  · exact ⟨rfl, N30⟩
set_option maxRecDepth 65536 in
set_option maxHeartbeats 40000000 in
theorem own_statesCredential_20 (l : Launch) (Z : State) (a0 : Array Value) (hw : ∀ d ∈ tables_1, d.before a0 Z = true) (ws : List Jvm.Cond) (wW1 : Addr) (wW2 : Addr) (wW3 : Addr) (wW4 : Addr) (wW5 : Addr) (wW6 : Addr) (wCW1 : Addr) (wCW2 : Addr) (wCW3 : Addr) (wCW4 : Addr) (wCW5 : Addr) (wCW6 : Addr) (G : OwnG Z wW1 wW2 wW3 wW4 wW5 wW6 wCW1 wCW2 wCW3 wCW4 wCW5 wCW6) (h0 : Heap) (n0 : Nat) (O0 : Old Z n0 h0) :
    MetFree l (⟨"com/example/credlib/credlib/engine/Rule", "statesCredential", "()Z"⟩ : MethodName) (head1 (Jvm.Cond.code (⟨"com/example/credlib/credlib/engine/Rule", "statesCredential", "()Z"⟩ : MethodName) prog_18_method_4_code 1 (some .boolean) :: ws) ({ frames := 0, cells := 0, slots := 0, locals := 0 } : Room)) (fun a U => a = #[(.ref wW6)] ∧ Z.Warmed39 U.vm ∧ U.heap = h0) (fun _ _ _ _ _ => True) (fun _ U o U' => ∃ v L, o = .returned v ∧ OwnQ (some (.int (0 : Int32))) h0 n0 v U'.heap L ∧ FrameEnd U o U' L ({ frames := 0, cells := 0, slots := 0, locals := 0 } : Room).cells ({ frames := 0, cells := 0, slots := 0, locals := 0 } : Room).slots) := by
  refine MetFree.of_bodySF (plainFor_of_name own_pn_1) hisR ?_
  intro p e s m args below meth c s₁ Bd hml0 hP hK
  obtain ⟨rfl, hZ, hh⟩ := hP
  have hx := Bd.exec
  have hby := Bd.bytes
  have hml : c.maxLocals = 1 := hml0
  have hown : s.vm.findClass "com/example/credlib/credlib/engine/Rule" = some m.cls := findClass_of_methodNamed Bd.named
  have hnm := (name_of_methodNamed Bd.named Bd.method).1
  have X0 : Stand p l e ({ frames := 0, cells := 0, slots := 0, locals := 0 } : Room) s m #[(.ref wW6)] below meth c s₁ [] 0 0 := Stand.of_body Bd
  have e0 : s₁.heap = h0 := by rw [← hh, Bd.state]; rfl
  have N0 := Fr.nil n0
  have pre0 : ∀ t, Steps p.tables e below (s₁.setTop (mkF m 0 #[.val (.ref wW6)] [])) t → Steps p.tables e below (s₁.setTop (entryFrame m #[(.ref wW6)] 1)) t := fun t k => castTop (own_ef_1_R m wW6) k
  obtain ⟨T1, X1, e1, st1⟩ := getS2 X0 hx hZ hown (host := "") (Or.inl (hw _ (List.mem_of_getElem? (i := 34) rfl))) Via.refl e0 (G.1.ext O0.2) (g := (mkF m 1 #[.val (.ref wW6)] [(.ref wW6)])) rfl (hb hby own_d1_1)
  obtain ⟨T2, X2, e2, st2⟩ := getS2 X1 hx hZ hown (host := "") (Or.inl (hw _ (List.mem_of_getElem? (i := 49) rfl))) Via.refl e1 (G.2.2.2.2.2.2.2.2.2.2.2.2.1.ext O0.2) (g := (mkF m 8 #[.val (.ref wW6)] [(.ref wW6)])) rfl (hb hby own_d1_8)
  obtain ⟨fs, hr, hrun, hended, hW, hsame⟩ := X2.leave (v := some (.int (0 : Int32))) (fun h => by rw [Bd.returns] at h; cases h)
  refine ⟨_, _, pre0 _ ?_, hrun, hended, _, _, rfl, ?_, ⟨_, rfl⟩, hW, hsame.mono (by decide) (by decide)⟩
  · show Steps p.tables e below (s₁.setTop (mkF m 0 #[.val (.ref wW6)] [])) _
    refine XS.aloadN X0.here hx rfl (hb hby own_d1_0) rfl rfl ?_
    show Steps p.tables e below (s₁.setTop (mkF m 1 #[.val (.ref wW6)] [(.ref wW6)])) _
    refine st1 _ ?_
    show Steps p.tables e below (T1.setTop (mkF m 4 #[.val (.ref wW6)] [(.ref wW1), (.ref wW6)])) _
    refine Jvm.RoadKit.acmp (g := (mkF m 4 #[.val (.ref wW6)] [(.ref wW1), (.ref wW6)])) X1 hx rfl rfl rfl (pc0 := 4) (pc' := 7) (same := false) rfl (hb hby own_d1_4) rfl (decide_eq_false fun q => (Ne.symm G.2.2.2.2.2.2.2.2.2.2.2.2.2.2.2.2.2.2.2.2.2.2.2.2.2.2.2.2.2.2.2.2.2.2.2.2.2.2.2.2.2.2.2.2.2.2.1) (Value.ref.inj q)) (by decide) (by decide) ?_
    show Steps p.tables e below (T1.setTop (mkF m 7 #[.val (.ref wW6)] [])) _
    refine XS.aloadN X1.here hx rfl (hb hby own_d1_7) rfl rfl ?_
    show Steps p.tables e below (T1.setTop (mkF m 8 #[.val (.ref wW6)] [(.ref wW6)])) _
    refine st2 _ ?_
    show Steps p.tables e below (T2.setTop (mkF m 11 #[.val (.ref wW6)] [(.ref wCW1), (.ref wW6)])) _
    refine Jvm.RoadKit.acmp (g := (mkF m 11 #[.val (.ref wW6)] [(.ref wCW1), (.ref wW6)])) X2 hx rfl rfl rfl (pc0 := 11) (pc' := 18) (same := false) rfl (hb hby own_d1_11) rfl (decide_eq_false fun q => G.2.2.2.2.2.2.2.2.2.2.2.2.2.2.2.2.2.2.2.2.2.2.2.2.2.2.2.2.2.2.2.2.2.2.2.2.2.2.2.2.2.2.2.2.2.2.2.2.2.2.2.2.2.2.2.2.2.2.2.2.2.2.2.2.2.2.2.2.2.2.2.2.2.2.2.2.2.2.2.2.2.2.2.2.2.2.2.2.2.2.2.2.2.2.2.2.1 (Value.ref.inj q)) (by decide) (by decide) ?_
    show Steps p.tables e below (T2.setTop (mkF m 18 #[.val (.ref wW6)] [])) _
    refine XS.iconst X2.here hx rfl (hb hby own_d1_18) ?_
    show Steps p.tables e below (T2.setTop (mkF m 19 #[.val (.ref wW6)] [(.int (0 : Int32))])) _
    exact retN X2 hx (t := .boolean) Bd.returns (by simp) (hb hby own_d1_19) hr
  · show OwnQ _ h0 n0 _ T2.heap _
    exact ⟨rfl, N0, e2⟩
set_option maxRecDepth 65536 in
set_option maxHeartbeats 40000000 in
theorem own_ordinal_22 (l : Launch) (Z : State) (a0 : Array Value) (hw : ∀ d ∈ tables_1, d.before a0 Z = true) (ws : List Jvm.Cond) (wW1 : Addr) (wW2 : Addr) (wW3 : Addr) (wW4 : Addr) (wW5 : Addr) (wW6 : Addr) (wCW1 : Addr) (wCW2 : Addr) (wCW3 : Addr) (wCW4 : Addr) (wCW5 : Addr) (wCW6 : Addr) (G : OwnG Z wW1 wW2 wW3 wW4 wW5 wW6 wCW1 wCW2 wCW3 wCW4 wCW5 wCW6) (h0 : Heap) (n0 : Nat) (O0 : Old Z n0 h0) :
    MetFree l (⟨"java/lang/Enum", "ordinal", "()I"⟩ : MethodName) (head1 (Jvm.Cond.code (⟨"java/lang/Enum", "ordinal", "()I"⟩ : MethodName) jdk_37_method_2_code 1 (some .int) :: ws) ({ frames := 0, cells := 0, slots := 0, locals := 0 } : Room)) (fun a U => a = #[(.ref wW6)] ∧ Z.Warmed39 U.vm ∧ U.heap = h0) (fun _ _ _ _ _ => True) (fun _ U o U' => ∃ v L, o = .returned v ∧ OwnQ (some (.int (5 : Int32))) h0 n0 v U'.heap L ∧ FrameEnd U o U' L ({ frames := 0, cells := 0, slots := 0, locals := 0 } : Room).cells ({ frames := 0, cells := 0, slots := 0, locals := 0 } : Room).slots) := by
  refine MetFree.of_bodySF (plainFor_of_name own_pn_3) hisR ?_
  intro p e s m args below meth c s₁ Bd hml0 hP hK
  obtain ⟨rfl, hZ, hh⟩ := hP
  have hx := Bd.exec
  have hby := Bd.bytes
  have hml : c.maxLocals = 1 := hml0
  have hown : s.vm.findClass "java/lang/Enum" = some m.cls := findClass_of_methodNamed Bd.named
  have hnm := (name_of_methodNamed Bd.named Bd.method).1
  have X0 : Stand p l e ({ frames := 0, cells := 0, slots := 0, locals := 0 } : Room) s m #[(.ref wW6)] below meth c s₁ [] 0 0 := Stand.of_body Bd
  have e0 : s₁.heap = h0 := by rw [← hh, Bd.state]; rfl
  have N0 := Fr.nil n0
  have pre0 : ∀ t, Steps p.tables e below (s₁.setTop (mkF m 0 #[.val (.ref wW6)] [])) t → Steps p.tables e below (s₁.setTop (entryFrame m #[(.ref wW6)] 1)) t := fun t k => castTop (own_ef_3_R m wW6) k
  obtain ⟨T1, X1, e1, st1⟩ := getF X0 hx hZ hown (host := "") (Or.inl (hw _ (List.mem_of_getElem? (i := 47) rfl))) Via.refl e0 (G.2.2.2.2.2.2.2.2.2.2.2.2.2.2.2.2.2.2.2.2.2.2.2.2.2.2.2.2.2.2.2.2.2.2.2.1.ext O0.2) (g := (mkF m 1 #[.val (.ref wW6)] [(.ref wW6)])) rfl rfl (hb hby own_d3_1)
  obtain ⟨fs, hr, hrun, hended, hW, hsame⟩ := X1.leave (v := some (.int (5 : Int32))) (fun h => by rw [Bd.returns] at h; cases h)
  refine ⟨_, _, pre0 _ ?_, hrun, hended, _, _, rfl, ?_, ⟨_, rfl⟩, hW, hsame.mono (by decide) (by decide)⟩
  · show Steps p.tables e below (s₁.setTop (mkF m 0 #[.val (.ref wW6)] [])) _
    refine XS.aloadN X0.here hx rfl (hb hby own_d3_0) rfl rfl ?_
    show Steps p.tables e below (s₁.setTop (mkF m 1 #[.val (.ref wW6)] [(.ref wW6)])) _
    refine st1 _ ?_
    show Steps p.tables e below (T1.setTop (mkF m 4 #[.val (.ref wW6)] [(.int (5 : Int32))])) _
    exact retI X1 hx Bd.returns (hb hby own_d3_4) hr
  · show OwnQ _ h0 n0 _ T1.heap _
    exact ⟨rfl, N0, e1⟩
theorem own_d2_74 : decode prog_18_method_5_code 74 = .ok (.getstatic 37, 3) := by decide +kernel
theorem own_d2_77 : decode prog_18_method_5_code 77 = .ok (.goto 4, 3) := by decide +kernel
set_option maxRecDepth 65536 in
set_option maxHeartbeats 40000000 in
theorem own_atInstant_21 (l : Launch) (Z : State) (a0 : Array Value) (hw : ∀ d ∈ tables_1, d.before a0 Z = true) (ws : List Jvm.Cond) (wW1 : Addr) (wW2 : Addr) (wW3 : Addr) (wW4 : Addr) (wW5 : Addr) (wW6 : Addr) (wCW1 : Addr) (wCW2 : Addr) (wCW3 : Addr) (wCW4 : Addr) (wCW5 : Addr) (wCW6 : Addr) (G : OwnG Z wW1 wW2 wW3 wW4 wW5 wW6 wCW1 wCW2 wCW3 wCW4 wCW5 wCW6) (h0 : Heap) (n0 : Nat) (O0 : Old Z n0 h0) :
    MetFree l (⟨"com/example/credlib/credlib/engine/Rule", "atInstant", "()Lcom/example/credlib/credlib/engine/Rule;"⟩ : MethodName) (head1 (Jvm.Cond.code (⟨"com/example/credlib/credlib/engine/Rule", "atInstant", "()Lcom/example/credlib/credlib/engine/Rule;"⟩ : MethodName) prog_18_method_5_code 1 (some (.object "com/example/credlib/credlib/engine/Rule")) :: ws) ({ frames := 1, cells := 0, slots := 0, locals := 12 } : Room)) (fun a U => a = #[(.ref wW6)] ∧ Z.Warmed39 U.vm ∧ U.heap = h0) (fun _ _ _ _ _ => True) (fun _ U o U' => ∃ v L, o = .returned v ∧ OwnQ (some (.ref wCW6)) h0 n0 v U'.heap L ∧ FrameEnd U o U' L ({ frames := 1, cells := 0, slots := 0, locals := 12 } : Room).cells ({ frames := 1, cells := 0, slots := 0, locals := 12 } : Room).slots) := by
  refine MetFree.of_bodySF (plainFor_of_name own_pn_1) hisR ?_
  intro p e s m args below meth c s₁ Bd hml0 hP hK
  obtain ⟨rfl, hZ, hh⟩ := hP
  have hx := Bd.exec
  have hby := Bd.bytes
  have hml : c.maxLocals = 1 := hml0
  have hown : s.vm.findClass "com/example/credlib/credlib/engine/Rule" = some m.cls := findClass_of_methodNamed Bd.named
  have hnm := (name_of_methodNamed Bd.named Bd.method).1
  have X0 : Stand p l e ({ frames := 1, cells := 0, slots := 0, locals := 12 } : Room) s m #[(.ref wW6)] below meth c s₁ [] 0 0 := Stand.of_body Bd
  have e0 : s₁.heap = h0 := by rw [← hh, Bd.state]; rfl
  have N0 := Fr.nil n0
  have pre0 : ∀ t, Steps p.tables e below (s₁.setTop (mkF m 0 #[.val (.ref wW6)] [])) t → Steps p.tables e below (s₁.setTop (entryFrame m #[(.ref wW6)] 1)) t := fun t k => castTop (own_ef_2_R m wW6) k
  obtain ⟨cq1, kq1, q1a, q1b, q1c⟩ := isOf hZ e0 (G.2.2.2.2.2.2.2.2.2.2.2.1.ext O0.2)
  obtain ⟨_, _, ⟨T1, L1, k1, n1⟩, -, X1, ⟨Lc1, hQ1, l1, y1, z1⟩, st1⟩ := X0.virtualBackUp hx (x := (⟨"com/example/credlib/credlib/engine/Rule", "ordinal", "()I"⟩ : MethodName)) (y := (⟨"java/lang/Enum", "ordinal", "()I"⟩ : MethodName)) (owner := "java/lang/Enum") hown (mvT hZ (hw _ (List.mem_of_getElem? (i := 40) rfl))) (mvT hZ (hw _ (List.mem_of_getElem? (i := 41) rfl))) (mvT hZ (hw _ (List.mem_of_getElem? (i := 42) rfl))) (by decide) (mvT hZ (hw _ (List.mem_of_getElem? (i := 44) rfl))) (mvT hZ (hw _ (List.mem_of_getElem? (i := 43) rfl))) (backOf (W := 0) (own_ordinal_22 l Z a0 hw [] wW1 wW2 wW3 wW4 wW5 wW6 wCW1 wCW2 wCW3 wCW4 wCW5 wCW6 G h0 n0 O0) hZ (hw _ (List.mem_of_getElem? (i := 46) rfl)) (hw _ (List.mem_of_getElem? (i := 45) rfl)) (by decide) (by decide)) q1a q1c (g := (mkF m 1 #[.val (.ref wW6)] [(.ref wW6)])) rfl (by rw [hml]; rfl) (Steps.refl _) (argsL := []) (rest := []) (lenOf own_pd_1 rfl) rfl (by show 2 * 0 + _ ≤ _; exact Nat.le_of_eq rfl) (hb hby own_d2_1) (fun _ _ => ⟨rfl, e0, (by decide : 0 + 0 ≤ _), (by decide : 0 + 0 ≤ _)⟩)
  dsimp only [Pt.U, Pt.locs, Pt.cells, Pt.slots] at X1 l1 y1 z1 st1 hQ1
  subst l1 y1 z1
  obtain ⟨rfl, N1q, e1⟩ := hQ1
  have N1 := Fr.app N0 N1q
  obtain ⟨T2, X2, e2, st2⟩ := getS2 X1 hx hZ hown (host := "") (Or.inl (hw _ (List.mem_of_getElem? (i := 54) rfl))) Via.refl e1 (G.2.2.2.2.2.2.2.2.2.2.2.2.2.2.2.2.2.2.2.2.2.2.1.ext O0.2) (g := (mkF m 74 #[.val (.ref wW6)] [])) rfl (hb hby own_d2_74)
  obtain ⟨fs, hr, hrun, hended, hW, hsame⟩ := X2.leave (v := some (.ref wCW6)) (fun h => by rw [Bd.returns] at h; cases h)
  refine ⟨_, _, pre0 _ ?_, hrun, hended, _, _, rfl, ?_, ⟨_, rfl⟩, hW, hsame.mono (by decide) (by decide)⟩
  · show Steps p.tables e below (s₁.setTop (mkF m 0 #[.val (.ref wW6)] [])) _
    refine XS.aloadN X0.here hx rfl (hb hby own_d2_0) rfl rfl ?_
    show Steps p.tables e below (s₁.setTop (mkF m 1 #[.val (.ref wW6)] [(.ref wW6)])) _
    refine st1.trans ?_
    show Steps p.tables e below (T1.setTop (mkF m 4 #[.val (.ref wW6)] [(.int (5 : Int32))])) _
    refine XS.tswIn X1.here hx rfl (o := 70) (pc0 := 4) (pc' := 74) rfl (hb hby own_d2_4) rfl (by decide) rfl (by decide) (by decide) ?_
    show Steps p.tables e below (T1.setTop (mkF m 74 #[.val (.ref wW6)] [])) _
    refine st2 _ ?_
    show Steps p.tables e below (T2.setTop (mkF m 77 #[.val (.ref wW6)] [(.ref wCW6)])) _
    refine XS.goto X2.here hx rfl (pc0 := 77) (pc' := 81) rfl (hb hby own_d2_77) (by decide) (by decide) ?_
    show Steps p.tables e below (T2.setTop (mkF m 81 #[.val (.ref wW6)] [(.ref wCW6)])) _
    jvm_step X2.here [X2.here.top, hx, (hb hby own_d2_81), X2.method', Bd.returns, Value.isRef, FieldType.isReference]
    first | (intro acts; rw [hr _ acts rfl rfl rfl]) | rw [hr _ _ rfl rfl rfl]
    exact Steps.refl _
  · show OwnQ _ h0 n0 _ T2.heap _
    exact ⟨rfl, N1, e2⟩
set_option maxRecDepth 65536 in
set_option maxHeartbeats 40000000 in
theorem own_statesCredential_23 (l : Launch) (Z : State) (a0 : Array Value) (hw : ∀ d ∈ tables_1, d.before a0 Z = true) (ws : List Jvm.Cond) (wW1 : Addr) (wW2 : Addr) (wW3 : Addr) (wW4 : Addr) (wW5 : Addr) (wW6 : Addr) (wCW1 : Addr) (wCW2 : Addr) (wCW3 : Addr) (wCW4 : Addr) (wCW5 : Addr) (wCW6 : Addr) (G : OwnG Z wW1 wW2 wW3 wW4 wW5 wW6 wCW1 wCW2 wCW3 wCW4 wCW5 wCW6) (h0 : Heap) (n0 : Nat) (O0 : Old Z n0 h0) :
    MetFree l (⟨"com/example/credlib/credlib/engine/Rule", "statesCredential", "()Z"⟩ : MethodName) (head1 (Jvm.Cond.code (⟨"com/example/credlib/credlib/engine/Rule", "statesCredential", "()Z"⟩ : MethodName) prog_18_method_4_code 1 (some .boolean) :: ws) ({ frames := 0, cells := 0, slots := 0, locals := 0 } : Room)) (fun a U => a = #[(.ref wCW6)] ∧ Z.Warmed39 U.vm ∧ U.heap = h0) (fun _ _ _ _ _ => True) (fun _ U o U' => ∃ v L, o = .returned v ∧ OwnQ (some (.int (0 : Int32))) h0 n0 v U'.heap L ∧ FrameEnd U o U' L ({ frames := 0, cells := 0, slots := 0, locals := 0 } : Room).cells ({ frames := 0, cells := 0, slots := 0, locals := 0 } : Room).slots) := by
  refine MetFree.of_bodySF (plainFor_of_name own_pn_1) hisR ?_
  intro p e s m args below meth c s₁ Bd hml0 hP hK
  obtain ⟨rfl, hZ, hh⟩ := hP
  have hx := Bd.exec
  have hby := Bd.bytes
  have hml : c.maxLocals = 1 := hml0
  have hown : s.vm.findClass "com/example/credlib/credlib/engine/Rule" = some m.cls := findClass_of_methodNamed Bd.named
  have hnm := (name_of_methodNamed Bd.named Bd.method).1
  have X0 : Stand p l e ({ frames := 0, cells := 0, slots := 0, locals := 0 } : Room) s m #[(.ref wCW6)] below meth c s₁ [] 0 0 := Stand.of_body Bd
  have e0 : s₁.heap = h0 := by rw [← hh, Bd.state]; rfl
  have N0 := Fr.nil n0
  have pre0 : ∀ t, Steps p.tables e below (s₁.setTop (mkF m 0 #[.val (.ref wCW6)] [])) t → Steps p.tables e below (s₁.setTop (entryFrame m #[(.ref wCW6)] 1)) t := fun t k => castTop (own_ef_1_R m wCW6) k
  obtain ⟨T1, X1, e1, st1⟩ := getS2 X0 hx hZ hown (host := "") (Or.inl (hw _ (List.mem_of_getElem? (i := 34) rfl))) Via.refl e0 (G.1.ext O0.2) (g := (mkF m 1 #[.val (.ref wCW6)] [(.ref wCW6)])) rfl (hb hby own_d1_1)
  obtain ⟨T2, X2, e2, st2⟩ := getS2 X1 hx hZ hown (host := "") (Or.inl (hw _ (List.mem_of_getElem? (i := 49) rfl))) Via.refl e1 (G.2.2.2.2.2.2.2.2.2.2.2.2.1.ext O0.2) (g := (mkF m 8 #[.val (.ref wCW6)] [(.ref wCW6)])) rfl (hb hby own_d1_8)
  obtain ⟨fs, hr, hrun, hended, hW, hsame⟩ := X2.leave (v := some (.int (0 : Int32))) (fun h => by rw [Bd.returns] at h; cases h)
  refine ⟨_, _, pre0 _ ?_, hrun, hended, _, _, rfl, ?_, ⟨_, rfl⟩, hW, hsame.mono (by decide) (by decide)⟩
  · show Steps p.tables e below (s₁.setTop (mkF m 0 #[.val (.ref wCW6)] [])) _
    refine XS.aloadN X0.here hx rfl (hb hby own_d1_0) rfl rfl ?_
    show Steps p.tables e below (s₁.setTop (mkF m 1 #[.val (.ref wCW6)] [(.ref wCW6)])) _
    refine st1 _ ?_
    show Steps p.tables e below (T1.setTop (mkF m 4 #[.val (.ref wCW6)] [(.ref wW1), (.ref wCW6)])) _
    refine Jvm.RoadKit.acmp (g := (mkF m 4 #[.val (.ref wCW6)] [(.ref wW1), (.ref wCW6)])) X1 hx rfl rfl rfl (pc0 := 4) (pc' := 7) (same := false) rfl (hb hby own_d1_4) rfl (decide_eq_false fun q => (Ne.symm G.2.2.2.2.2.2.2.2.2.2.2.2.2.2.2.2.2.2.2.2.2.2.2.2.2.2.2.2.2.2.2.2.2.2.2.2.2.2.2.2.2.2.1) (Value.ref.inj q)) (by decide) (by decide) ?_
    show Steps p.tables e below (T1.setTop (mkF m 7 #[.val (.ref wCW6)] [])) _
    refine XS.aloadN X1.here hx rfl (hb hby own_d1_7) rfl rfl ?_
    show Steps p.tables e below (T1.setTop (mkF m 8 #[.val (.ref wCW6)] [(.ref wCW6)])) _
    refine st2 _ ?_
    show Steps p.tables e below (T2.setTop (mkF m 11 #[.val (.ref wCW6)] [(.ref wCW1), (.ref wCW6)])) _
    refine Jvm.RoadKit.acmp (g := (mkF m 11 #[.val (.ref wCW6)] [(.ref wCW1), (.ref wCW6)])) X2 hx rfl rfl rfl (pc0 := 11) (pc' := 18) (same := false) rfl (hb hby own_d1_11) rfl (decide_eq_false fun q => (Ne.symm G.2.2.2.2.2.2.2.2.2.2.2.2.2.2.2.2.2.2.2.2.2.2.2.2.2.2.2.2.2.2.2.2.2.2.2.2.2.2.2.2.2.2.2.2.2.2.2.2.2.2.1) (Value.ref.inj q)) (by decide) (by decide) ?_
    show Steps p.tables e below (T2.setTop (mkF m 18 #[.val (.ref wCW6)] [])) _
    refine XS.iconst X2.here hx rfl (hb hby own_d1_18) ?_
    show Steps p.tables e below (T2.setTop (mkF m 19 #[.val (.ref wCW6)] [(.int (0 : Int32))])) _
    exact retN X2 hx (t := .boolean) Bd.returns (by simp) (hb hby own_d1_19) hr
  · show OwnQ _ h0 n0 _ T2.heap _
    exact ⟨rfl, N0, e2⟩
set_option maxRecDepth 65536 in
set_option maxHeartbeats 40000000 in
theorem own_law_5 (l : Launch) (Z : State) (a0 : Array Value) (hw : ∀ d ∈ tables_1, d.before a0 Z = true) (ws : List Jvm.Cond) (wW1 : Addr) (wW2 : Addr) (wW3 : Addr) (wW4 : Addr) (wW5 : Addr) (wW6 : Addr) (wCW1 : Addr) (wCW2 : Addr) (wCW3 : Addr) (wCW4 : Addr) (wCW5 : Addr) (wCW6 : Addr) (G : OwnG Z wW1 wW2 wW3 wW4 wW5 wW6 wCW1 wCW2 wCW3 wCW4 wCW5 wCW6) (h0 : Heap) (n0 : Nat) (O0 : Old Z n0 h0) (p1 : Int32) (hi : ((p1 &&& (2147483647 : Int32)) % (12 : Int32)) = (5 : Int32)) :
    MetFree l x (head1 (Jvm.Cond.code x code maxLocals ret :: ws) room_1) (fun a U => a = #[(.int p1)] ∧ Z.Warmed39 U.vm ∧ U.heap = h0) (fun _ _ _ _ _ => True) (fun _ U o U' => ∃ v L, o = .returned v ∧ (v = some (.int 1) ∧ Fr n0 L) ∧ FrameEnd U o U' L room_1.cells room_1.slots) := by
  refine MetFree.of_bodySF (plainFor_of_name own_pn_0) hisR ?_
  intro p e s m args below meth c s₁ Bd hml0 hP hK
  obtain ⟨rfl, hZ, hh⟩ := hP
  have hx := Bd.exec
  have hby := Bd.bytes
  have hml : c.maxLocals = 7 := hml0
  have hown : s.vm.findClass "com/example/credlib/credlib/engine/RuleStatesCredentialPinLaw" = some m.cls := findClass_of_methodNamed Bd.named
  have hnm := (name_of_methodNamed Bd.named Bd.method).1
  have X0 : Stand p l e room_1 s m #[(.int p1)] below meth c s₁ [] 0 0 := Stand.of_body Bd
  have e0 : s₁.heap = h0 := by rw [← hh, Bd.state]; rfl
  have N0 := Fr.nil n0
  have pre0 : ∀ t, Steps p.tables e below (s₁.setTop (mkF m 0 #[.val (.int p1), .unset, .unset, .unset, .unset, .unset, .unset] [])) t → Steps p.tables e below (s₁.setTop (entryFrame m #[(.int p1)] maxLocals)) t := fun t k => castTop (own_ef_0_I m p1) k
  obtain ⟨T1, h1, k1, X1, e1, E1, A1, Ov1, st1⟩ := newR X0 hx hZ hown (hw _ (List.mem_of_getElem? (i := 0) rfl)) (hw _ (List.mem_of_getElem? (i := 1) rfl)) e0 (g := (mkF m 2 #[.val (.int p1), .unset, .unset, .unset, .unset, .unset, .unset] [(.int (12 : Int32))])) rfl (hb hby at_2) rfl (by decide) (cap := 12) (by decide) (by decide) (by decide) (by decide)
  obtain ⟨b1, g1⟩ : ∃ z, z = h0.size := ⟨_, rfl⟩
  rw [← g1] at A1 st1
  have ge_b1 : n0 ≤ b1 := own_new O0 g1
  have sz_b1 : h0.size ≤ b1 := Nat.le_trans (Keep.refl h0 []).1 (Nat.le_of_eq g1.symm)
  have O1 := O0.ext E1
  have K1 := (Keep.refl h0 []).ext E1
  have V1 : Arv Z h1 b1 k1 (.object "com/example/credlib/credlib/engine/Rule") (12 : Int32) [.null, .null, .null, .null, .null, .null, .null, .null, .null, .null, .null, .null] .null := (Arv.new A1 (by decide)).pad (pad_rep [] .null 12)
  obtain ⟨T2, X2, e2, st2⟩ := getS2 X1 hx hZ hown (host := "") (Or.inl (hw _ (List.mem_of_getElem? (i := 2) rfl))) Via.refl e1 (G.1.ext O1.2) (g := (mkF m 7 #[.val (.int p1), .unset, .unset, .unset, .unset, .unset, .unset] [(.int (0 : Int32)), (.ref b1), (.ref b1)])) rfl (hb hby at_7)
  obtain ⟨cl3, Ar3, qk3, Sz3, Nn3, Hs3, Gs3⟩ := id (V1)
  have hin3 : ¬ ((0 : Int32) < 0 ∨ cl3.slots.size ≤ ((0 : Int32)).toNatClampNeg) := inb_of Sz3 ⟨by decide, by decide⟩
  obtain ⟨T3, h3, X3, e3, W3, st3⟩ := stR X2 hx hZ e2 Ar3 (j := (0 : Int32)) hin3 rfl (Sto.ofV Ar3 qk3 Ov1 (Ins.self (G.2.1.ext O1.2))) (g := (mkF m 10 #[.val (.int p1), .unset, .unset, .unset, .unset, .unset, .unset] [(.ref wW1), (.int (0 : Int32)), (.ref b1), (.ref b1)])) rfl rfl (hb hby at_10)
  have V3 := Arv.set Ar3 qk3 Sz3 Nn3 Hs3 Gs3 rfl W3 0 rfl (Nat.le_of_ble_eq_true rfl)
  have O3 := O1.wr W3 ge_b1
  have K3 := K1.wr W3 (Or.inr sz_b1)
  have N3 := Fr.snoc X3 N0 ge_b1
  obtain ⟨T4, X4, e4, st4⟩ := getS2 X3 hx hZ hown (host := "") (Or.inl (hw _ (List.mem_of_getElem? (i := 6) rfl))) Via.refl e3 (G.2.2.1.ext O3.2) (g := (mkF m 13 #[.val (.int p1), .unset, .unset, .unset, .unset, .unset, .unset] [(.int (1 : Int32)), (.ref b1), (.ref b1)])) rfl (hb hby at_13)
  obtain ⟨cl5, Ar5, qk5, Sz5, Nn5, Hs5, Gs5⟩ := id (V3)
  have hin5 : ¬ ((1 : Int32) < 0 ∨ cl5.slots.size ≤ ((1 : Int32)).toNatClampNeg) := inb_of Sz5 ⟨by decide, by decide⟩
  obtain ⟨T5, h5, X5, e5, W5, st5⟩ := stR X4 hx hZ e4 Ar5 (j := (1 : Int32)) hin5 rfl (Sto.ofV Ar5 qk5 Ov1 (Ins.self (G.2.2.2.1.ext O3.2))) (g := (mkF m 16 #[.val (.int p1), .unset, .unset, .unset, .unset, .unset, .unset] [(.ref wW2), (.int (1 : Int32)), (.ref b1), (.ref b1)])) rfl rfl (hb hby at_16)
  have V5 := Arv.set Ar5 qk5 Sz5 Nn5 Hs5 Gs5 rfl W5 1 rfl (Nat.le_of_ble_eq_true rfl)
  have O5 := O3.wr W5 ge_b1
  have K5 := K3.wr W5 (Or.inr sz_b1)
  have N5 := Fr.snoc X5 N3 ge_b1
  obtain ⟨T6, X6, e6, st6⟩ := getS2 X5 hx hZ hown (host := "") (Or.inl (hw _ (List.mem_of_getElem? (i := 8) rfl))) Via.refl e5 (G.2.2.2.2.1.ext O5.2) (g := (mkF m 19 #[.val (.int p1), .unset, .unset, .unset, .unset, .unset, .unset] [(.int (2 : Int32)), (.ref b1), (.ref b1)])) rfl (hb hby at_19)
  obtain ⟨cl7, Ar7, qk7, Sz7, Nn7, Hs7, Gs7⟩ := id (V5)
  have hin7 : ¬ ((2 : Int32) < 0 ∨ cl7.slots.size ≤ ((2 : Int32)).toNatClampNeg) := inb_of Sz7 ⟨by decide, by decide⟩
  obtain ⟨T7, h7, X7, e7, W7, st7⟩ := stR X6 hx hZ e6 Ar7 (j := (2 : Int32)) hin7 rfl (Sto.ofV Ar7 qk7 Ov1 (Ins.self (G.2.2.2.2.2.1.ext O5.2))) (g := (mkF m 22 #[.val (.int p1), .unset, .unset, .unset, .unset, .unset, .unset] [(.ref wW3), (.int (2 : Int32)), (.ref b1), (.ref b1)])) rfl rfl (hb hby at_22)
  have V7 := Arv.set Ar7 qk7 Sz7 Nn7 Hs7 Gs7 rfl W7 2 rfl (Nat.le_of_ble_eq_true rfl)
  have O7 := O5.wr W7 ge_b1
  have K7 := K5.wr W7 (Or.inr sz_b1)
  have N7 := Fr.snoc X7 N5 ge_b1
  obtain ⟨T8, X8, e8, st8⟩ := getS2 X7 hx hZ hown (host := "") (Or.inl (hw _ (List.mem_of_getElem? (i := 10) rfl))) Via.refl e7 (G.2.2.2.2.2.2.1.ext O7.2) (g := (mkF m 25 #[.val (.int p1), .unset, .unset, .unset, .unset, .unset, .unset] [(.int (3 : Int32)), (.ref b1), (.ref b1)])) rfl (hb hby at_25)
  obtain ⟨cl9, Ar9, qk9, Sz9, Nn9, Hs9, Gs9⟩ := id (V7)
  have hin9 : ¬ ((3 : Int32) < 0 ∨ cl9.slots.size ≤ ((3 : Int32)).toNatClampNeg) := inb_of Sz9 ⟨by decide, by decide⟩
  obtain ⟨T9, h9, X9, e9, W9, st9⟩ := stR X8 hx hZ e8 Ar9 (j := (3 : Int32)) hin9 rfl (Sto.ofV Ar9 qk9 Ov1 (Ins.self (G.2.2.2.2.2.2.2.1.ext O7.2))) (g := (mkF m 28 #[.val (.int p1), .unset, .unset, .unset, .unset, .unset, .unset] [(.ref wW4), (.int (3 : Int32)), (.ref b1), (.ref b1)])) rfl rfl (hb hby at_28)
  have V9 := Arv.set Ar9 qk9 Sz9 Nn9 Hs9 Gs9 rfl W9 3 rfl (Nat.le_of_ble_eq_true rfl)
  have O9 := O7.wr W9 ge_b1
  have K9 := K7.wr W9 (Or.inr sz_b1)
  have N9 := Fr.snoc X9 N7 ge_b1
  obtain ⟨T10, X10, e10, st10⟩ := getS2 X9 hx hZ hown (host := "") (Or.inl (hw _ (List.mem_of_getElem? (i := 12) rfl))) Via.refl e9 (G.2.2.2.2.2.2.2.2.1.ext O9.2) (g := (mkF m 31 #[.val (.int p1), .unset, .unset, .unset, .unset, .unset, .unset] [(.int (4 : Int32)), (.ref b1), (.ref b1)])) rfl (hb hby at_31)
  obtain ⟨cl11, Ar11, qk11, Sz11, Nn11, Hs11, Gs11⟩ := id (V9)
  have hin11 : ¬ ((4 : Int32) < 0 ∨ cl11.slots.size ≤ ((4 : Int32)).toNatClampNeg) := inb_of Sz11 ⟨by decide, by decide⟩
  obtain ⟨T11, h11, X11, e11, W11, st11⟩ := stR X10 hx hZ e10 Ar11 (j := (4 : Int32)) hin11 rfl (Sto.ofV Ar11 qk11 Ov1 (Ins.self (G.2.2.2.2.2.2.2.2.2.1.ext O9.2))) (g := (mkF m 34 #[.val (.int p1), .unset, .unset, .unset, .unset, .unset, .unset] [(.ref wW5), (.int (4 : Int32)), (.ref b1), (.ref b1)])) rfl rfl (hb hby at_34)
  have V11 := Arv.set Ar11 qk11 Sz11 Nn11 Hs11 Gs11 rfl W11 4 rfl (Nat.le_of_ble_eq_true rfl)
  have O11 := O9.wr W11 ge_b1
  have K11 := K9.wr W11 (Or.inr sz_b1)
  have N11 := Fr.snoc X11 N9 ge_b1
  obtain ⟨T12, X12, e12, st12⟩ := getS2 X11 hx hZ hown (host := "") (Or.inl (hw _ (List.mem_of_getElem? (i := 14) rfl))) Via.refl e11 (G.2.2.2.2.2.2.2.2.2.2.1.ext O11.2) (g := (mkF m 37 #[.val (.int p1), .unset, .unset, .unset, .unset, .unset, .unset] [(.int (5 : Int32)), (.ref b1), (.ref b1)])) rfl (hb hby at_37)
  obtain ⟨cl13, Ar13, qk13, Sz13, Nn13, Hs13, Gs13⟩ := id (V11)
  have hin13 : ¬ ((5 : Int32) < 0 ∨ cl13.slots.size ≤ ((5 : Int32)).toNatClampNeg) := inb_of Sz13 ⟨by decide, by decide⟩
  obtain ⟨T13, h13, X13, e13, W13, st13⟩ := stR X12 hx hZ e12 Ar13 (j := (5 : Int32)) hin13 rfl (Sto.ofV Ar13 qk13 Ov1 (Ins.self (G.2.2.2.2.2.2.2.2.2.2.2.1.ext O11.2))) (g := (mkF m 40 #[.val (.int p1), .unset, .unset, .unset, .unset, .unset, .unset] [(.ref wW6), (.int (5 : Int32)), (.ref b1), (.ref b1)])) rfl rfl (hb hby at_40)
  have V13 := Arv.set Ar13 qk13 Sz13 Nn13 Hs13 Gs13 rfl W13 5 rfl (Nat.le_of_ble_eq_true rfl)
  have O13 := O11.wr W13 ge_b1
  have K13 := K11.wr W13 (Or.inr sz_b1)
  have N13 := Fr.snoc X13 N11 ge_b1
  obtain ⟨T14, X14, e14, st14⟩ := getS2 X13 hx hZ hown (host := "") (Or.inl (hw _ (List.mem_of_getElem? (i := 16) rfl))) Via.refl e13 (G.2.2.2.2.2.2.2.2.2.2.2.2.1.ext O13.2) (g := (mkF m 44 #[.val (.int p1), .unset, .unset, .unset, .unset, .unset, .unset] [(.int (6 : Int32)), (.ref b1), (.ref b1)])) rfl (hb hby at_44)
  obtain ⟨cl15, Ar15, qk15, Sz15, Nn15, Hs15, Gs15⟩ := id (V13)
  have hin15 : ¬ ((6 : Int32) < 0 ∨ cl15.slots.size ≤ ((6 : Int32)).toNatClampNeg) := inb_of Sz15 ⟨by decide, by decide⟩
  obtain ⟨T15, h15, X15, e15, W15, st15⟩ := stR X14 hx hZ e14 Ar15 (j := (6 : Int32)) hin15 rfl (Sto.ofV Ar15 qk15 Ov1 (Ins.self (G.2.2.2.2.2.2.2.2.2.2.2.2.2.1.ext O13.2))) (g := (mkF m 47 #[.val (.int p1), .unset, .unset, .unset, .unset, .unset, .unset] [(.ref wCW1), (.int (6 : Int32)), (.ref b1), (.ref b1)])) rfl rfl (hb hby at_47)
  have V15 := Arv.set Ar15 qk15 Sz15 Nn15 Hs15 Gs15 rfl W15 6 rfl (Nat.le_of_ble_eq_true rfl)
  have O15 := O13.wr W15 ge_b1
  have K15 := K13.wr W15 (Or.inr sz_b1)
  have N15 := Fr.snoc X15 N13 ge_b1
  obtain ⟨T16, X16, e16, st16⟩ := getS2 X15 hx hZ hown (host := "") (Or.inl (hw _ (List.mem_of_getElem? (i := 18) rfl))) Via.refl e15 (G.2.2.2.2.2.2.2.2.2.2.2.2.2.2.1.ext O15.2) (g := (mkF m 51 #[.val (.int p1), .unset, .unset, .unset, .unset, .unset, .unset] [(.int (7 : Int32)), (.ref b1), (.ref b1)])) rfl (hb hby at_51)
  obtain ⟨cl17, Ar17, qk17, Sz17, Nn17, Hs17, Gs17⟩ := id (V15)
  have hin17 : ¬ ((7 : Int32) < 0 ∨ cl17.slots.size ≤ ((7 : Int32)).toNatClampNeg) := inb_of Sz17 ⟨by decide, by decide⟩
  obtain ⟨T17, h17, X17, e17, W17, st17⟩ := stR X16 hx hZ e16 Ar17 (j := (7 : Int32)) hin17 rfl (Sto.ofV Ar17 qk17 Ov1 (Ins.self (G.2.2.2.2.2.2.2.2.2.2.2.2.2.2.2.1.ext O15.2))) (g := (mkF m 54 #[.val (.int p1), .unset, .unset, .unset, .unset, .unset, .unset] [(.ref wCW2), (.int (7 : Int32)), (.ref b1), (.ref b1)])) rfl rfl (hb hby at_54)
  have V17 := Arv.set Ar17 qk17 Sz17 Nn17 Hs17 Gs17 rfl W17 7 rfl (Nat.le_of_ble_eq_true rfl)
  have O17 := O15.wr W17 ge_b1
  have K17 := K15.wr W17 (Or.inr sz_b1)
  have N17 := Fr.snoc X17 N15 ge_b1
  obtain ⟨T18, X18, e18, st18⟩ := getS2 X17 hx hZ hown (host := "") (Or.inl (hw _ (List.mem_of_getElem? (i := 20) rfl))) Via.refl e17 (G.2.2.2.2.2.2.2.2.2.2.2.2.2.2.2.2.1.ext O17.2) (g := (mkF m 58 #[.val (.int p1), .unset, .unset, .unset, .unset, .unset, .unset] [(.int (8 : Int32)), (.ref b1), (.ref b1)])) rfl (hb hby at_58)
  obtain ⟨cl19, Ar19, qk19, Sz19, Nn19, Hs19, Gs19⟩ := id (V17)
  have hin19 : ¬ ((8 : Int32) < 0 ∨ cl19.slots.size ≤ ((8 : Int32)).toNatClampNeg) := inb_of Sz19 ⟨by decide, by decide⟩
  obtain ⟨T19, h19, X19, e19, W19, st19⟩ := stR X18 hx hZ e18 Ar19 (j := (8 : Int32)) hin19 rfl (Sto.ofV Ar19 qk19 Ov1 (Ins.self (G.2.2.2.2.2.2.2.2.2.2.2.2.2.2.2.2.2.1.ext O17.2))) (g := (mkF m 61 #[.val (.int p1), .unset, .unset, .unset, .unset, .unset, .unset] [(.ref wCW3), (.int (8 : Int32)), (.ref b1), (.ref b1)])) rfl rfl (hb hby at_61)
  have V19 := Arv.set Ar19 qk19 Sz19 Nn19 Hs19 Gs19 rfl W19 8 rfl (Nat.le_of_ble_eq_true rfl)
  have O19 := O17.wr W19 ge_b1
  have K19 := K17.wr W19 (Or.inr sz_b1)
  have N19 := Fr.snoc X19 N17 ge_b1
  obtain ⟨T20, X20, e20, st20⟩ := getS2 X19 hx hZ hown (host := "") (Or.inl (hw _ (List.mem_of_getElem? (i := 22) rfl))) Via.refl e19 (G.2.2.2.2.2.2.2.2.2.2.2.2.2.2.2.2.2.2.1.ext O19.2) (g := (mkF m 65 #[.val (.int p1), .unset, .unset, .unset, .unset, .unset, .unset] [(.int (9 : Int32)), (.ref b1), (.ref b1)])) rfl (hb hby at_65)
  obtain ⟨cl21, Ar21, qk21, Sz21, Nn21, Hs21, Gs21⟩ := id (V19)
  have hin21 : ¬ ((9 : Int32) < 0 ∨ cl21.slots.size ≤ ((9 : Int32)).toNatClampNeg) := inb_of Sz21 ⟨by decide, by decide⟩
  obtain ⟨T21, h21, X21, e21, W21, st21⟩ := stR X20 hx hZ e20 Ar21 (j := (9 : Int32)) hin21 rfl (Sto.ofV Ar21 qk21 Ov1 (Ins.self (G.2.2.2.2.2.2.2.2.2.2.2.2.2.2.2.2.2.2.2.1.ext O19.2))) (g := (mkF m 68 #[.val (.int p1), .unset, .unset, .unset, .unset, .unset, .unset] [(.ref wCW4), (.int (9 : Int32)), (.ref b1), (.ref b1)])) rfl rfl (hb hby at_68)
  have V21 := Arv.set Ar21 qk21 Sz21 Nn21 Hs21 Gs21 rfl W21 9 rfl (Nat.le_of_ble_eq_true rfl)
  have O21 := O19.wr W21 ge_b1
  have K21 := K19.wr W21 (Or.inr sz_b1)
  have N21 := Fr.snoc X21 N19 ge_b1
  obtain ⟨T22, X22, e22, st22⟩ := getS2 X21 hx hZ hown (host := "") (Or.inl (hw _ (List.mem_of_getElem? (i := 24) rfl))) Via.refl e21 (G.2.2.2.2.2.2.2.2.2.2.2.2.2.2.2.2.2.2.2.2.1.ext O21.2) (g := (mkF m 72 #[.val (.int p1), .unset, .unset, .unset, .unset, .unset, .unset] [(.int (10 : Int32)), (.ref b1), (.ref b1)])) rfl (hb hby at_72)
  obtain ⟨cl23, Ar23, qk23, Sz23, Nn23, Hs23, Gs23⟩ := id (V21)
  have hin23 : ¬ ((10 : Int32) < 0 ∨ cl23.slots.size ≤ ((10 : Int32)).toNatClampNeg) := inb_of Sz23 ⟨by decide, by decide⟩
  obtain ⟨T23, h23, X23, e23, W23, st23⟩ := stR X22 hx hZ e22 Ar23 (j := (10 : Int32)) hin23 rfl (Sto.ofV Ar23 qk23 Ov1 (Ins.self (G.2.2.2.2.2.2.2.2.2.2.2.2.2.2.2.2.2.2.2.2.2.1.ext O21.2))) (g := (mkF m 75 #[.val (.int p1), .unset, .unset, .unset, .unset, .unset, .unset] [(.ref wCW5), (.int (10 : Int32)), (.ref b1), (.ref b1)])) rfl rfl (hb hby at_75)
  have V23 := Arv.set Ar23 qk23 Sz23 Nn23 Hs23 Gs23 rfl W23 10 rfl (Nat.le_of_ble_eq_true rfl)
  have O23 := O21.wr W23 ge_b1
  have K23 := K21.wr W23 (Or.inr sz_b1)
  have N23 := Fr.snoc X23 N21 ge_b1
  obtain ⟨T24, X24, e24, st24⟩ := getS2 X23 hx hZ hown (host := "") (Or.inl (hw _ (List.mem_of_getElem? (i := 26) rfl))) Via.refl e23 (G.2.2.2.2.2.2.2.2.2.2.2.2.2.2.2.2.2.2.2.2.2.2.1.ext O23.2) (g := (mkF m 79 #[.val (.int p1), .unset, .unset, .unset, .unset, .unset, .unset] [(.int (11 : Int32)), (.ref b1), (.ref b1)])) rfl (hb hby at_79)
  obtain ⟨cl25, Ar25, qk25, Sz25, Nn25, Hs25, Gs25⟩ := id (V23)
  have hin25 : ¬ ((11 : Int32) < 0 ∨ cl25.slots.size ≤ ((11 : Int32)).toNatClampNeg) := inb_of Sz25 ⟨by decide, by decide⟩
  obtain ⟨T25, h25, X25, e25, W25, st25⟩ := stR X24 hx hZ e24 Ar25 (j := (11 : Int32)) hin25 rfl (Sto.ofV Ar25 qk25 Ov1 (Ins.self (G.2.2.2.2.2.2.2.2.2.2.2.2.2.2.2.2.2.2.2.2.2.2.2.1.ext O23.2))) (g := (mkF m 82 #[.val (.int p1), .unset, .unset, .unset, .unset, .unset, .unset] [(.ref wCW6), (.int (11 : Int32)), (.ref b1), (.ref b1)])) rfl rfl (hb hby at_82)
  have V25 := Arv.set Ar25 qk25 Sz25 Nn25 Hs25 Gs25 rfl W25 11 rfl (Nat.le_of_ble_eq_true rfl)
  have O25 := O23.wr W25 ge_b1
  have K25 := K23.wr W25 (Or.inr sz_b1)
  have N25 := Fr.snoc X25 N23 ge_b1
  obtain ⟨cl26, Ar26, qk26, Sz26, Nn26, Hs26, Gs26⟩ := id (V25)
  have hin27 : ¬ ((5 : Int32) < 0 ∨ cl26.slots.size ≤ ((5 : Int32)).toNatClampNeg) := inb_of Sz26 ⟨by decide, by decide⟩
  have hat27 : cl26.slots[((5 : Int32)).toNatClampNeg]? = some (.ref wW6) := Hs26.at hin27 rfl
  obtain ⟨cq28, kq28, q28a, q28b, q28c⟩ := isOf hZ e25 (G.2.2.2.2.2.2.2.2.2.2.2.1.ext O25.2)
  obtain ⟨_, _, ⟨T28, L28, k28, n28⟩, -, X28, ⟨Lc28, hQ28, l28, y28, z28⟩, st28⟩ := X25.virtualBack hx (y := (⟨"com/example/credlib/credlib/engine/Rule", "statesCredential", "()Z"⟩ : MethodName)) (z := (⟨"com/example/credlib/credlib/engine/Rule", "statesCredential", "()Z"⟩ : MethodName)) hown (mvT hZ (hw _ (List.mem_of_getElem? (i := 29) rfl))) (mvT hZ (hw _ (List.mem_of_getElem? (i := 30) rfl))) (notFace_of_selects (args := #[]) (mvT hZ (hw _ (List.mem_of_getElem? (i := 32) rfl)))) (mvT hZ (hw _ (List.mem_of_getElem? (i := 32) rfl))) (mvT hZ (hw _ (List.mem_of_getElem? (i := 31) rfl))) (by decide) (backOf (W := 0) (own_statesCredential_20 l Z a0 hw [] wW1 wW2 wW3 wW4 wW5 wW6 wCW1 wCW2 wCW3 wCW4 wCW5 wCW6 G h25 n0 O25) hZ (hw _ (List.mem_of_getElem? (i := 33) rfl)) (hw _ (List.mem_of_getElem? (i := 3) rfl)) (by decide) (by decide)) q28a q28c (g := (mkF m 111 #[.val (.int p1), .val (.ref b1), .val (.int (5 : Int32)), .val (.ref wW6), .val (.int (0 : Int32)), .unset, .unset] [(.ref wW6)])) rfl (by rw [hml]; rfl) (Steps.refl _) (argsL := []) (rest := []) (lenOf own_pd_0 rfl) rfl (by show 2 * 0 + _ ≤ _; exact Nat.le_of_eq rfl) (hb hby at_111) (fun _ _ => ⟨rfl, e25, (by decide : 1 + 0 ≤ _), (by decide : 12 + 0 ≤ _)⟩)
  dsimp only [Pt.U, Pt.locs, Pt.cells, Pt.slots] at X28 l28 y28 z28 st28 hQ28
  subst l28 y28 z28
  obtain ⟨rfl, N28q, e28⟩ := hQ28
  have N28 := Fr.app N25 N28q
  obtain ⟨cq29, kq29, q29a, q29b, q29c⟩ := isOf hZ e28 (G.2.2.2.2.2.2.2.2.2.2.2.1.ext O25.2)
  obtain ⟨_, _, ⟨T29, L29, k29, n29⟩, -, X29, ⟨Lc29, hQ29, l29, y29, z29⟩, st29⟩ := X28.virtualBack hx (y := (⟨"com/example/credlib/credlib/engine/Rule", "atInstant", "()Lcom/example/credlib/credlib/engine/Rule;"⟩ : MethodName)) (z := (⟨"com/example/credlib/credlib/engine/Rule", "atInstant", "()Lcom/example/credlib/credlib/engine/Rule;"⟩ : MethodName)) hown (mvT hZ (hw _ (List.mem_of_getElem? (i := 35) rfl))) (mvT hZ (hw _ (List.mem_of_getElem? (i := 36) rfl))) (notFace_of_selects (args := #[]) (mvT hZ (hw _ (List.mem_of_getElem? (i := 38) rfl)))) (mvT hZ (hw _ (List.mem_of_getElem? (i := 38) rfl))) (mvT hZ (hw _ (List.mem_of_getElem? (i := 37) rfl))) (by decide) (backOf (W := 0) (own_atInstant_21 l Z a0 hw [] wW1 wW2 wW3 wW4 wW5 wW6 wCW1 wCW2 wCW3 wCW4 wCW5 wCW6 G h25 n0 O25) hZ (hw _ (List.mem_of_getElem? (i := 39) rfl)) (hw _ (List.mem_of_getElem? (i := 3) rfl)) (by decide) (by decide)) q29a q29c (g := (mkF m 117 #[.val (.int p1), .val (.ref b1), .val (.int (5 : Int32)), .val (.ref wW6), .val (.int (0 : Int32)), .val (.int (0 : Int32)), .unset] [(.ref wW6)])) rfl (by rw [hml]; rfl) (Steps.refl _) (argsL := []) (rest := []) (lenOf own_pd_2 rfl) rfl (by show 2 * 0 + _ ≤ _; exact Nat.le_of_eq rfl) (hb hby at_117) (fun _ _ => ⟨rfl, e28, (by decide : 1 + 0 ≤ _), (by decide : 12 + 0 ≤ _)⟩)
  dsimp only [Pt.U, Pt.locs, Pt.cells, Pt.slots] at X29 l29 y29 z29 st29 hQ29
  subst l29 y29 z29
  obtain ⟨rfl, N29q, e29⟩ := hQ29
  have N29 := Fr.app N28 N29q
  obtain ⟨cq30, kq30, q30a, q30b, q30c⟩ := isOf hZ e29 (G.2.2.2.2.2.2.2.2.2.2.2.2.2.2.2.2.2.2.2.2.2.2.2.1.ext O25.2)
  obtain ⟨_, _, ⟨T30, L30, k30, n30⟩, -, X30, ⟨Lc30, hQ30, l30, y30, z30⟩, st30⟩ := X29.virtualBack hx (y := (⟨"com/example/credlib/credlib/engine/Rule", "statesCredential", "()Z"⟩ : MethodName)) (z := (⟨"com/example/credlib/credlib/engine/Rule", "statesCredential", "()Z"⟩ : MethodName)) hown (mvT hZ (hw _ (List.mem_of_getElem? (i := 29) rfl))) (mvT hZ (hw _ (List.mem_of_getElem? (i := 30) rfl))) (notFace_of_selects (args := #[]) (mvT hZ (hw _ (List.mem_of_getElem? (i := 32) rfl)))) (mvT hZ (hw _ (List.mem_of_getElem? (i := 32) rfl))) (mvT hZ (hw _ (List.mem_of_getElem? (i := 31) rfl))) (by decide) (backOf (W := 0) (own_statesCredential_23 l Z a0 hw [] wW1 wW2 wW3 wW4 wW5 wW6 wCW1 wCW2 wCW3 wCW4 wCW5 wCW6 G h25 n0 O25) hZ (hw _ (List.mem_of_getElem? (i := 33) rfl)) (hw _ (List.mem_of_getElem? (i := 3) rfl)) (by decide) (by decide)) q30a q30c (g := (mkF m 120 #[.val (.int p1), .val (.ref b1), .val (.int (5 : Int32)), .val (.ref wW6), .val (.int (0 : Int32)), .val (.int (0 : Int32)), .unset] [(.ref wCW6)])) rfl (by rw [hml]; rfl) (Steps.refl _) (argsL := []) (rest := []) (lenOf own_pd_0 rfl) rfl (by show 2 * 0 + _ ≤ _; exact Nat.le_of_eq rfl) (hb hby at_120) (fun _ _ => ⟨rfl, e29, (by decide : 1 + 0 ≤ _), (by decide : 12 + 0 ≤ _)⟩)
  dsimp only [Pt.U, Pt.locs, Pt.cells, Pt.slots] at X30 l30 y30 z30 st30 hQ30
  subst l30 y30 z30
  obtain ⟨rfl, N30q, e30⟩ := hQ30
  have N30 := Fr.app N29 N30q
  obtain ⟨fs, hr, hrun, hended, hW, hsame⟩ := X30.leave (v := some (.int (1 : Int32))) (fun h => by rw [Bd.returns] at h; cases h)
  refine ⟨_, _, pre0 _ ?_, hrun, hended, _, _, rfl, ?_, ⟨_, rfl⟩, hW, hsame.mono (by decide) (by decide)⟩
  · show Steps p.tables e below (s₁.setTop (mkF m 0 #[.val (.int p1), .unset, .unset, .unset, .unset, .unset, .unset] [])) _
    refine XS.bipush X0.here hx rfl (hb hby at_0) ?_
    show Steps p.tables e below (s₁.setTop (mkF m 2 #[.val (.int p1), .unset, .unset, .unset, .unset, .unset, .unset] [(.int (12 : Int32))])) _
    refine st1 _ ?_
    show Steps p.tables e below (T1.setTop (mkF m 5 #[.val (.int p1), .unset, .unset, .unset, .unset, .unset, .unset] [(.ref b1)])) _
    refine XS.dup X1.here hx rfl (hb hby at_5) rfl rfl ?_
    show Steps p.tables e below (T1.setTop (mkF m 6 #[.val (.int p1), .unset, .unset, .unset, .unset, .unset, .unset] [(.ref b1), (.ref b1)])) _
    refine XS.iconst X1.here hx rfl (hb hby at_6) ?_
    show Steps p.tables e below (T1.setTop (mkF m 7 #[.val (.int p1), .unset, .unset, .unset, .unset, .unset, .unset] [(.int (0 : Int32)), (.ref b1), (.ref b1)])) _
    refine st2 _ ?_
    show Steps p.tables e below (T2.setTop (mkF m 10 #[.val (.int p1), .unset, .unset, .unset, .unset, .unset, .unset] [(.ref wW1), (.int (0 : Int32)), (.ref b1), (.ref b1)])) _
    refine st3 _ ?_
    show Steps p.tables e below (T3.setTop (mkF m 11 #[.val (.int p1), .unset, .unset, .unset, .unset, .unset, .unset] [(.ref b1)])) _
    refine XS.dup X3.here hx rfl (hb hby at_11) rfl rfl ?_
    show Steps p.tables e below (T3.setTop (mkF m 12 #[.val (.int p1), .unset, .unset, .unset, .unset, .unset, .unset] [(.ref b1), (.ref b1)])) _
    refine XS.iconst X3.here hx rfl (hb hby at_12) ?_
    show Steps p.tables e below (T3.setTop (mkF m 13 #[.val (.int p1), .unset, .unset, .unset, .unset, .unset, .unset] [(.int (1 : Int32)), (.ref b1), (.ref b1)])) _
    refine st4 _ ?_
    show Steps p.tables e below (T4.setTop (mkF m 16 #[.val (.int p1), .unset, .unset, .unset, .unset, .unset, .unset] [(.ref wW2), (.int (1 : Int32)), (.ref b1), (.ref b1)])) _
    refine st5 _ ?_
    show Steps p.tables e below (T5.setTop (mkF m 17 #[.val (.int p1), .unset, .unset, .unset, .unset, .unset, .unset] [(.ref b1)])) _
    refine XS.dup X5.here hx rfl (hb hby at_17) rfl rfl ?_
    show Steps p.tables e below (T5.setTop (mkF m 18 #[.val (.int p1), .unset, .unset, .unset, .unset, .unset, .unset] [(.ref b1), (.ref b1)])) _
    refine XS.iconst X5.here hx rfl (hb hby at_18) ?_
    show Steps p.tables e below (T5.setTop (mkF m 19 #[.val (.int p1), .unset, .unset, .unset, .unset, .unset, .unset] [(.int (2 : Int32)), (.ref b1), (.ref b1)])) _
    refine st6 _ ?_
    show Steps p.tables e below (T6.setTop (mkF m 22 #[.val (.int p1), .unset, .unset, .unset, .unset, .unset, .unset] [(.ref wW3), (.int (2 : Int32)), (.ref b1), (.ref b1)])) _
    refine st7 _ ?_
    show Steps p.tables e below (T7.setTop (mkF m 23 #[.val (.int p1), .unset, .unset, .unset, .unset, .unset, .unset] [(.ref b1)])) _
    refine XS.dup X7.here hx rfl (hb hby at_23) rfl rfl ?_
    show Steps p.tables e below (T7.setTop (mkF m 24 #[.val (.int p1), .unset, .unset, .unset, .unset, .unset, .unset] [(.ref b1), (.ref b1)])) _
    refine XS.iconst X7.here hx rfl (hb hby at_24) ?_
    show Steps p.tables e below (T7.setTop (mkF m 25 #[.val (.int p1), .unset, .unset, .unset, .unset, .unset, .unset] [(.int (3 : Int32)), (.ref b1), (.ref b1)])) _
    refine st8 _ ?_
    show Steps p.tables e below (T8.setTop (mkF m 28 #[.val (.int p1), .unset, .unset, .unset, .unset, .unset, .unset] [(.ref wW4), (.int (3 : Int32)), (.ref b1), (.ref b1)])) _
    refine st9 _ ?_
    show Steps p.tables e below (T9.setTop (mkF m 29 #[.val (.int p1), .unset, .unset, .unset, .unset, .unset, .unset] [(.ref b1)])) _
    refine XS.dup X9.here hx rfl (hb hby at_29) rfl rfl ?_
    show Steps p.tables e below (T9.setTop (mkF m 30 #[.val (.int p1), .unset, .unset, .unset, .unset, .unset, .unset] [(.ref b1), (.ref b1)])) _
    refine XS.iconst X9.here hx rfl (hb hby at_30) ?_
    show Steps p.tables e below (T9.setTop (mkF m 31 #[.val (.int p1), .unset, .unset, .unset, .unset, .unset, .unset] [(.int (4 : Int32)), (.ref b1), (.ref b1)])) _
    refine st10 _ ?_
    show Steps p.tables e below (T10.setTop (mkF m 34 #[.val (.int p1), .unset, .unset, .unset, .unset, .unset, .unset] [(.ref wW5), (.int (4 : Int32)), (.ref b1), (.ref b1)])) _
    refine st11 _ ?_
    show Steps p.tables e below (T11.setTop (mkF m 35 #[.val (.int p1), .unset, .unset, .unset, .unset, .unset, .unset] [(.ref b1)])) _
    refine XS.dup X11.here hx rfl (hb hby at_35) rfl rfl ?_
    show Steps p.tables e below (T11.setTop (mkF m 36 #[.val (.int p1), .unset, .unset, .unset, .unset, .unset, .unset] [(.ref b1), (.ref b1)])) _
    refine XS.iconst X11.here hx rfl (hb hby at_36) ?_
    show Steps p.tables e below (T11.setTop (mkF m 37 #[.val (.int p1), .unset, .unset, .unset, .unset, .unset, .unset] [(.int (5 : Int32)), (.ref b1), (.ref b1)])) _
    refine st12 _ ?_
    show Steps p.tables e below (T12.setTop (mkF m 40 #[.val (.int p1), .unset, .unset, .unset, .unset, .unset, .unset] [(.ref wW6), (.int (5 : Int32)), (.ref b1), (.ref b1)])) _
    refine st13 _ ?_
    show Steps p.tables e below (T13.setTop (mkF m 41 #[.val (.int p1), .unset, .unset, .unset, .unset, .unset, .unset] [(.ref b1)])) _
    refine XS.dup X13.here hx rfl (hb hby at_41) rfl rfl ?_
    show Steps p.tables e below (T13.setTop (mkF m 42 #[.val (.int p1), .unset, .unset, .unset, .unset, .unset, .unset] [(.ref b1), (.ref b1)])) _
    refine XS.bipush X13.here hx rfl (hb hby at_42) ?_
    show Steps p.tables e below (T13.setTop (mkF m 44 #[.val (.int p1), .unset, .unset, .unset, .unset, .unset, .unset] [(.int (6 : Int32)), (.ref b1), (.ref b1)])) _
    refine st14 _ ?_
    show Steps p.tables e below (T14.setTop (mkF m 47 #[.val (.int p1), .unset, .unset, .unset, .unset, .unset, .unset] [(.ref wCW1), (.int (6 : Int32)), (.ref b1), (.ref b1)])) _
    refine st15 _ ?_
    show Steps p.tables e below (T15.setTop (mkF m 48 #[.val (.int p1), .unset, .unset, .unset, .unset, .unset, .unset] [(.ref b1)])) _
    refine XS.dup X15.here hx rfl (hb hby at_48) rfl rfl ?_
    show Steps p.tables e below (T15.setTop (mkF m 49 #[.val (.int p1), .unset, .unset, .unset, .unset, .unset, .unset] [(.ref b1), (.ref b1)])) _
    refine XS.bipush X15.here hx rfl (hb hby at_49) ?_
    show Steps p.tables e below (T15.setTop (mkF m 51 #[.val (.int p1), .unset, .unset, .unset, .unset, .unset, .unset] [(.int (7 : Int32)), (.ref b1), (.ref b1)])) _
    refine st16 _ ?_
    show Steps p.tables e below (T16.setTop (mkF m 54 #[.val (.int p1), .unset, .unset, .unset, .unset, .unset, .unset] [(.ref wCW2), (.int (7 : Int32)), (.ref b1), (.ref b1)])) _
    refine st17 _ ?_
    show Steps p.tables e below (T17.setTop (mkF m 55 #[.val (.int p1), .unset, .unset, .unset, .unset, .unset, .unset] [(.ref b1)])) _
    refine XS.dup X17.here hx rfl (hb hby at_55) rfl rfl ?_
    show Steps p.tables e below (T17.setTop (mkF m 56 #[.val (.int p1), .unset, .unset, .unset, .unset, .unset, .unset] [(.ref b1), (.ref b1)])) _
    refine XS.bipush X17.here hx rfl (hb hby at_56) ?_
    show Steps p.tables e below (T17.setTop (mkF m 58 #[.val (.int p1), .unset, .unset, .unset, .unset, .unset, .unset] [(.int (8 : Int32)), (.ref b1), (.ref b1)])) _
    refine st18 _ ?_
    show Steps p.tables e below (T18.setTop (mkF m 61 #[.val (.int p1), .unset, .unset, .unset, .unset, .unset, .unset] [(.ref wCW3), (.int (8 : Int32)), (.ref b1), (.ref b1)])) _
    refine st19 _ ?_
    show Steps p.tables e below (T19.setTop (mkF m 62 #[.val (.int p1), .unset, .unset, .unset, .unset, .unset, .unset] [(.ref b1)])) _
    refine XS.dup X19.here hx rfl (hb hby at_62) rfl rfl ?_
    show Steps p.tables e below (T19.setTop (mkF m 63 #[.val (.int p1), .unset, .unset, .unset, .unset, .unset, .unset] [(.ref b1), (.ref b1)])) _
    refine XS.bipush X19.here hx rfl (hb hby at_63) ?_
    show Steps p.tables e below (T19.setTop (mkF m 65 #[.val (.int p1), .unset, .unset, .unset, .unset, .unset, .unset] [(.int (9 : Int32)), (.ref b1), (.ref b1)])) _
    refine st20 _ ?_
    show Steps p.tables e below (T20.setTop (mkF m 68 #[.val (.int p1), .unset, .unset, .unset, .unset, .unset, .unset] [(.ref wCW4), (.int (9 : Int32)), (.ref b1), (.ref b1)])) _
    refine st21 _ ?_
    show Steps p.tables e below (T21.setTop (mkF m 69 #[.val (.int p1), .unset, .unset, .unset, .unset, .unset, .unset] [(.ref b1)])) _
    refine XS.dup X21.here hx rfl (hb hby at_69) rfl rfl ?_
    show Steps p.tables e below (T21.setTop (mkF m 70 #[.val (.int p1), .unset, .unset, .unset, .unset, .unset, .unset] [(.ref b1), (.ref b1)])) _
    refine XS.bipush X21.here hx rfl (hb hby at_70) ?_
    show Steps p.tables e below (T21.setTop (mkF m 72 #[.val (.int p1), .unset, .unset, .unset, .unset, .unset, .unset] [(.int (10 : Int32)), (.ref b1), (.ref b1)])) _
    refine st22 _ ?_
    show Steps p.tables e below (T22.setTop (mkF m 75 #[.val (.int p1), .unset, .unset, .unset, .unset, .unset, .unset] [(.ref wCW5), (.int (10 : Int32)), (.ref b1), (.ref b1)])) _
    refine st23 _ ?_
    show Steps p.tables e below (T23.setTop (mkF m 76 #[.val (.int p1), .unset, .unset, .unset, .unset, .unset, .unset] [(.ref b1)])) _
    refine XS.dup X23.here hx rfl (hb hby at_76) rfl rfl ?_
    show Steps p.tables e below (T23.setTop (mkF m 77 #[.val (.int p1), .unset, .unset, .unset, .unset, .unset, .unset] [(.ref b1), (.ref b1)])) _
    refine XS.bipush X23.here hx rfl (hb hby at_77) ?_
    show Steps p.tables e below (T23.setTop (mkF m 79 #[.val (.int p1), .unset, .unset, .unset, .unset, .unset, .unset] [(.int (11 : Int32)), (.ref b1), (.ref b1)])) _
    refine st24 _ ?_
    show Steps p.tables e below (T24.setTop (mkF m 82 #[.val (.int p1), .unset, .unset, .unset, .unset, .unset, .unset] [(.ref wCW6), (.int (11 : Int32)), (.ref b1), (.ref b1)])) _
    refine st25 _ ?_
    show Steps p.tables e below (T25.setTop (mkF m 83 #[.val (.int p1), .unset, .unset, .unset, .unset, .unset, .unset] [(.ref b1)])) _
    refine XS.astoreN X25.here hx rfl (hb hby at_83) rfl rfl (l' := #[.val (.int p1), .val (.ref b1), .unset, .unset, .unset, .unset, .unset]) rfl ?_
    show Steps p.tables e below (T25.setTop (mkF m 84 #[.val (.int p1), .val (.ref b1), .unset, .unset, .unset, .unset, .unset] [])) _
    refine XS.iloadN X25.here hx rfl (hb hby at_84) rfl ?_
    show Steps p.tables e below (T25.setTop (mkF m 85 #[.val (.int p1), .val (.ref b1), .unset, .unset, .unset, .unset, .unset] [(.int p1)])) _
    refine Jvm.Stand.ldcI X25 hx hown (mvT hZ (hw _ (List.mem_of_getElem? (i := 28) rfl))) rfl (hb hby at_85) ?_
    show Steps p.tables e below (T25.setTop (mkF m 87 #[.val (.int p1), .val (.ref b1), .unset, .unset, .unset, .unset, .unset] [(.int (2147483647 : Int32)), (.int p1)])) _
    refine XS.iand X25.here hx rfl (hb hby at_87) rfl ?_
    show Steps p.tables e below (T25.setTop (mkF m 88 #[.val (.int p1), .val (.ref b1), .unset, .unset, .unset, .unset, .unset] [(.int (p1 &&& (2147483647 : Int32)))])) _
    refine XS.bipush X25.here hx rfl (hb hby at_88) ?_
    show Steps p.tables e below (T25.setTop (mkF m 90 #[.val (.int p1), .val (.ref b1), .unset, .unset, .unset, .unset, .unset] [(.int (12 : Int32)), (.int (p1 &&& (2147483647 : Int32)))])) _
    refine iremM X25 hx rfl (hb hby at_90) rfl (by decide) ?_
    show Steps p.tables e below (T25.setTop (mkF m 91 #[.val (.int p1), .val (.ref b1), .unset, .unset, .unset, .unset, .unset] [(.int ((p1 &&& (2147483647 : Int32)) % (12 : Int32)))])) _
    refine castTop (g' := (mkF m 91 #[.val (.int p1), .val (.ref b1), .unset, .unset, .unset, .unset, .unset] [(.int (5 : Int32))])) (by rw [hi]) ?_
    show Steps p.tables e below (T25.setTop (mkF m 91 #[.val (.int p1), .val (.ref b1), .unset, .unset, .unset, .unset, .unset] [(.int (5 : Int32))])) _
    refine XS.istoreN X25.here hx rfl (hb hby at_91) rfl (l' := #[.val (.int p1), .val (.ref b1), .val (.int (5 : Int32)), .unset, .unset, .unset, .unset]) rfl ?_
    show Steps p.tables e below (T25.setTop (mkF m 92 #[.val (.int p1), .val (.ref b1), .val (.int (5 : Int32)), .unset, .unset, .unset, .unset] [])) _
    refine XS.aloadN X25.here hx rfl (hb hby at_92) rfl rfl ?_
    show Steps p.tables e below (T25.setTop (mkF m 93 #[.val (.int p1), .val (.ref b1), .val (.int (5 : Int32)), .unset, .unset, .unset, .unset] [(.ref b1)])) _
    refine XS.iloadN X25.here hx rfl (hb hby at_93) rfl ?_
    show Steps p.tables e below (T25.setTop (mkF m 94 #[.val (.int p1), .val (.ref b1), .val (.int (5 : Int32)), .unset, .unset, .unset, .unset] [(.int (5 : Int32)), (.ref b1)])) _
    refine X25.aaload hx (j := (5 : Int32)) (v := (.ref wW6)) (by rw [e25]; exact Ar26.1) (State.isArrayOf_alike hZ.alike Ar26.2.1) rfl Ar26.2.2 hin27 hat27 (g := (mkF m 94 #[.val (.int p1), .val (.ref b1), .val (.int (5 : Int32)), .unset, .unset, .unset, .unset] [(.int (5 : Int32)), (.ref b1)])) rfl rfl (hb hby at_94) _ ?_
    show Steps p.tables e below (T25.setTop (mkF m 95 #[.val (.int p1), .val (.ref b1), .val (.int (5 : Int32)), .unset, .unset, .unset, .unset] [(.ref wW6)])) _
    refine XS.astoreN X25.here hx rfl (hb hby at_95) rfl rfl (l' := #[.val (.int p1), .val (.ref b1), .val (.int (5 : Int32)), .val (.ref wW6), .unset, .unset, .unset]) rfl ?_
    show Steps p.tables e below (T25.setTop (mkF m 96 #[.val (.int p1), .val (.ref b1), .val (.int (5 : Int32)), .val (.ref wW6), .unset, .unset, .unset] [])) _
    refine XS.iloadN X25.here hx rfl (hb hby at_96) rfl ?_
    show Steps p.tables e below (T25.setTop (mkF m 97 #[.val (.int p1), .val (.ref b1), .val (.int (5 : Int32)), .val (.ref wW6), .unset, .unset, .unset] [(.int (5 : Int32))])) _
    refine XS.bipush X25.here hx rfl (hb hby at_97) ?_
    show Steps p.tables e below (T25.setTop (mkF m 99 #[.val (.int p1), .val (.ref b1), .val (.int (5 : Int32)), .val (.ref wW6), .unset, .unset, .unset] [(.int (6 : Int32)), (.int (5 : Int32))])) _
    refine iremM X25 hx rfl (hb hby at_99) rfl (by decide) ?_
    show Steps p.tables e below (T25.setTop (mkF m 100 #[.val (.int p1), .val (.ref b1), .val (.int (5 : Int32)), .val (.ref wW6), .unset, .unset, .unset] [(.int ((5 : Int32) % (6 : Int32)))])) _
    refine castTop (g' := (mkF m 100 #[.val (.int p1), .val (.ref b1), .val (.int (5 : Int32)), .val (.ref wW6), .unset, .unset, .unset] [(.int (5 : Int32))])) (by rw [show ((5 : Int32) % (6 : Int32)) = (5 : Int32) from by decide]) ?_
    show Steps p.tables e below (T25.setTop (mkF m 100 #[.val (.int p1), .val (.ref b1), .val (.int (5 : Int32)), .val (.ref wW6), .unset, .unset, .unset] [(.int (5 : Int32))])) _
    refine XS.ifYes X25.here hx rfl (pc0 := 100) (pc' := 107) rfl (hb hby at_100) rfl (by decide) (by decide) (by decide) ?_
    show Steps p.tables e below (T25.setTop (mkF m 107 #[.val (.int p1), .val (.ref b1), .val (.int (5 : Int32)), .val (.ref wW6), .unset, .unset, .unset] [])) _
    refine XS.iconst X25.here hx rfl (hb hby at_107) ?_
    show Steps p.tables e below (T25.setTop (mkF m 108 #[.val (.int p1), .val (.ref b1), .val (.int (5 : Int32)), .val (.ref wW6), .unset, .unset, .unset] [(.int (0 : Int32))])) _
    refine XS.istore X25.here hx rfl (hb hby at_108) rfl (l' := #[.val (.int p1), .val (.ref b1), .val (.int (5 : Int32)), .val (.ref wW6), .val (.int (0 : Int32)), .unset, .unset]) rfl ?_
    show Steps p.tables e below (T25.setTop (mkF m 110 #[.val (.int p1), .val (.ref b1), .val (.int (5 : Int32)), .val (.ref wW6), .val (.int (0 : Int32)), .unset, .unset] [])) _
    refine XS.aloadN X25.here hx rfl (hb hby at_110) rfl rfl ?_
    show Steps p.tables e below (T25.setTop (mkF m 111 #[.val (.int p1), .val (.ref b1), .val (.int (5 : Int32)), .val (.ref wW6), .val (.int (0 : Int32)), .unset, .unset] [(.ref wW6)])) _
    refine st28.trans ?_
    show Steps p.tables e below (T28.setTop (mkF m 114 #[.val (.int p1), .val (.ref b1), .val (.int (5 : Int32)), .val (.ref wW6), .val (.int (0 : Int32)), .unset, .unset] [(.int (0 : Int32))])) _
    refine XS.istore X28.here hx rfl (hb hby at_114) rfl (l' := #[.val (.int p1), .val (.ref b1), .val (.int (5 : Int32)), .val (.ref wW6), .val (.int (0 : Int32)), .val (.int (0 : Int32)), .unset]) rfl ?_
    show Steps p.tables e below (T28.setTop (mkF m 116 #[.val (.int p1), .val (.ref b1), .val (.int (5 : Int32)), .val (.ref wW6), .val (.int (0 : Int32)), .val (.int (0 : Int32)), .unset] [])) _
    refine XS.aloadN X28.here hx rfl (hb hby at_116) rfl rfl ?_
    show Steps p.tables e below (T28.setTop (mkF m 117 #[.val (.int p1), .val (.ref b1), .val (.int (5 : Int32)), .val (.ref wW6), .val (.int (0 : Int32)), .val (.int (0 : Int32)), .unset] [(.ref wW6)])) _
    refine st29.trans ?_
    show Steps p.tables e below (T29.setTop (mkF m 120 #[.val (.int p1), .val (.ref b1), .val (.int (5 : Int32)), .val (.ref wW6), .val (.int (0 : Int32)), .val (.int (0 : Int32)), .unset] [(.ref wCW6)])) _
    refine st30.trans ?_
    show Steps p.tables e below (T30.setTop (mkF m 123 #[.val (.int p1), .val (.ref b1), .val (.int (5 : Int32)), .val (.ref wW6), .val (.int (0 : Int32)), .val (.int (0 : Int32)), .unset] [(.int (0 : Int32))])) _
    refine XS.istore X30.here hx rfl (hb hby at_123) rfl (l' := #[.val (.int p1), .val (.ref b1), .val (.int (5 : Int32)), .val (.ref wW6), .val (.int (0 : Int32)), .val (.int (0 : Int32)), .val (.int (0 : Int32))]) rfl ?_
    show Steps p.tables e below (T30.setTop (mkF m 125 #[.val (.int p1), .val (.ref b1), .val (.int (5 : Int32)), .val (.ref wW6), .val (.int (0 : Int32)), .val (.int (0 : Int32)), .val (.int (0 : Int32))] [])) _
    refine XS.iload X30.here hx rfl (hb hby at_125) rfl ?_
    show Steps p.tables e below (T30.setTop (mkF m 127 #[.val (.int p1), .val (.ref b1), .val (.int (5 : Int32)), .val (.ref wW6), .val (.int (0 : Int32)), .val (.int (0 : Int32)), .val (.int (0 : Int32))] [(.int (0 : Int32))])) _
    refine XS.iload X30.here hx rfl (hb hby at_127) rfl ?_
    show Steps p.tables e below (T30.setTop (mkF m 129 #[.val (.int p1), .val (.ref b1), .val (.int (5 : Int32)), .val (.ref wW6), .val (.int (0 : Int32)), .val (.int (0 : Int32)), .val (.int (0 : Int32))] [(.int (0 : Int32)), (.int (0 : Int32))])) _
    refine XS.icmpNo X30.here hx rfl (hb hby at_129) rfl (by decide) ?_
    show Steps p.tables e below (T30.setTop (mkF m 132 #[.val (.int p1), .val (.ref b1), .val (.int (5 : Int32)), .val (.ref wW6), .val (.int (0 : Int32)), .val (.int (0 : Int32)), .val (.int (0 : Int32))] [])) _
    refine XS.iload X30.here hx rfl (hb hby at_132) rfl ?_
    show Steps p.tables e below (T30.setTop (mkF m 134 #[.val (.int p1), .val (.ref b1), .val (.int (5 : Int32)), .val (.ref wW6), .val (.int (0 : Int32)), .val (.int (0 : Int32)), .val (.int (0 : Int32))] [(.int (0 : Int32))])) _
    refine XS.iload X30.here hx rfl (hb hby at_134) rfl ?_
    show Steps p.tables e below (T30.setTop (mkF m 136 #[.val (.int p1), .val (.ref b1), .val (.int (5 : Int32)), .val (.ref wW6), .val (.int (0 : Int32)), .val (.int (0 : Int32)), .val (.int (0 : Int32))] [(.int (0 : Int32)), (.int (0 : Int32))])) _
    refine XS.icmpNo X30.here hx rfl (hb hby at_136) rfl (by decide) ?_
    show Steps p.tables e below (T30.setTop (mkF m 139 #[.val (.int p1), .val (.ref b1), .val (.int (5 : Int32)), .val (.ref wW6), .val (.int (0 : Int32)), .val (.int (0 : Int32)), .val (.int (0 : Int32))] [])) _
    refine XS.iconst X30.here hx rfl (hb hby at_139) ?_
    show Steps p.tables e below (T30.setTop (mkF m 140 #[.val (.int p1), .val (.ref b1), .val (.int (5 : Int32)), .val (.ref wW6), .val (.int (0 : Int32)), .val (.int (0 : Int32)), .val (.int (0 : Int32))] [(.int (1 : Int32))])) _
    refine XS.goto X30.here hx rfl (pc0 := 140) (pc' := 144) rfl (hb hby at_140) (by decide) (by decide) ?_
    show Steps p.tables e below (T30.setTop (mkF m 144 #[.val (.int p1), .val (.ref b1), .val (.int (5 : Int32)), .val (.ref wW6), .val (.int (0 : Int32)), .val (.int (0 : Int32)), .val (.int (0 : Int32))] [(.int (1 : Int32))])) _
    exact retN X30 hx (t := .boolean) Bd.returns (by simp) (hb hby at_144) hr
  · exact ⟨rfl, N30⟩
set_option maxRecDepth 65536 in
set_option maxHeartbeats 40000000 in
theorem own_ordinal_25 (l : Launch) (Z : State) (a0 : Array Value) (hw : ∀ d ∈ tables_1, d.before a0 Z = true) (ws : List Jvm.Cond) (wW1 : Addr) (wW2 : Addr) (wW3 : Addr) (wW4 : Addr) (wW5 : Addr) (wW6 : Addr) (wCW1 : Addr) (wCW2 : Addr) (wCW3 : Addr) (wCW4 : Addr) (wCW5 : Addr) (wCW6 : Addr) (G : OwnG Z wW1 wW2 wW3 wW4 wW5 wW6 wCW1 wCW2 wCW3 wCW4 wCW5 wCW6) (h0 : Heap) (n0 : Nat) (O0 : Old Z n0 h0) :
    MetFree l (⟨"java/lang/Enum", "ordinal", "()I"⟩ : MethodName) (head1 (Jvm.Cond.code (⟨"java/lang/Enum", "ordinal", "()I"⟩ : MethodName) jdk_37_method_2_code 1 (some .int) :: ws) ({ frames := 0, cells := 0, slots := 0, locals := 0 } : Room)) (fun a U => a = #[(.ref wCW1)] ∧ Z.Warmed39 U.vm ∧ U.heap = h0) (fun _ _ _ _ _ => True) (fun _ U o U' => ∃ v L, o = .returned v ∧ OwnQ (some (.int (6 : Int32))) h0 n0 v U'.heap L ∧ FrameEnd U o U' L ({ frames := 0, cells := 0, slots := 0, locals := 0 } : Room).cells ({ frames := 0, cells := 0, slots := 0, locals := 0 } : Room).slots) := by
  refine MetFree.of_bodySF (plainFor_of_name own_pn_3) hisR ?_
  intro p e s m args below meth c s₁ Bd hml0 hP hK
  obtain ⟨rfl, hZ, hh⟩ := hP
  have hx := Bd.exec
  have hby := Bd.bytes
  have hml : c.maxLocals = 1 := hml0
  have hown : s.vm.findClass "java/lang/Enum" = some m.cls := findClass_of_methodNamed Bd.named
  have hnm := (name_of_methodNamed Bd.named Bd.method).1
  have X0 : Stand p l e ({ frames := 0, cells := 0, slots := 0, locals := 0 } : Room) s m #[(.ref wCW1)] below meth c s₁ [] 0 0 := Stand.of_body Bd
  have e0 : s₁.heap = h0 := by rw [← hh, Bd.state]; rfl
  have N0 := Fr.nil n0
  have pre0 : ∀ t, Steps p.tables e below (s₁.setTop (mkF m 0 #[.val (.ref wCW1)] [])) t → Steps p.tables e below (s₁.setTop (entryFrame m #[(.ref wCW1)] 1)) t := fun t k => castTop (own_ef_3_R m wCW1) k
  obtain ⟨T1, X1, e1, st1⟩ := getF X0 hx hZ hown (host := "") (Or.inl (hw _ (List.mem_of_getElem? (i := 47) rfl))) Via.refl e0 (G.2.2.2.2.2.2.2.2.2.2.2.2.2.2.2.2.2.2.2.2.2.2.2.2.2.1.ext O0.2) (g := (mkF m 1 #[.val (.ref wCW1)] [(.ref wCW1)])) rfl rfl (hb hby own_d3_1)
  obtain ⟨fs, hr, hrun, hended, hW, hsame⟩ := X1.leave (v := some (.int (6 : Int32))) (fun h => by rw [Bd.returns] at h; cases h)
  refine ⟨_, _, pre0 _ ?_, hrun, hended, _, _, rfl, ?_, ⟨_, rfl⟩, hW, hsame.mono (by decide) (by decide)⟩
  · show Steps p.tables e below (s₁.setTop (mkF m 0 #[.val (.ref wCW1)] [])) _
    refine XS.aloadN X0.here hx rfl (hb hby own_d3_0) rfl rfl ?_
    show Steps p.tables e below (s₁.setTop (mkF m 1 #[.val (.ref wCW1)] [(.ref wCW1)])) _
    refine st1 _ ?_
    show Steps p.tables e below (T1.setTop (mkF m 4 #[.val (.ref wCW1)] [(.int (6 : Int32))])) _
    exact retI X1 hx Bd.returns (hb hby own_d3_4) hr
  · show OwnQ _ h0 n0 _ T1.heap _
    exact ⟨rfl, N0, e1⟩
theorem own_d2_80 : decode prog_18_method_5_code 80 = .ok (.aload_n 0, 1) := by decide +kernel
set_option maxRecDepth 65536 in
set_option maxHeartbeats 40000000 in
theorem own_atInstant_24 (l : Launch) (Z : State) (a0 : Array Value) (hw : ∀ d ∈ tables_1, d.before a0 Z = true) (ws : List Jvm.Cond) (wW1 : Addr) (wW2 : Addr) (wW3 : Addr) (wW4 : Addr) (wW5 : Addr) (wW6 : Addr) (wCW1 : Addr) (wCW2 : Addr) (wCW3 : Addr) (wCW4 : Addr) (wCW5 : Addr) (wCW6 : Addr) (G : OwnG Z wW1 wW2 wW3 wW4 wW5 wW6 wCW1 wCW2 wCW3 wCW4 wCW5 wCW6) (h0 : Heap) (n0 : Nat) (O0 : Old Z n0 h0) :
    MetFree l (⟨"com/example/credlib/credlib/engine/Rule", "atInstant", "()Lcom/example/credlib/credlib/engine/Rule;"⟩ : MethodName) (head1 (Jvm.Cond.code (⟨"com/example/credlib/credlib/engine/Rule", "atInstant", "()Lcom/example/credlib/credlib/engine/Rule;"⟩ : MethodName) prog_18_method_5_code 1 (some (.object "com/example/credlib/credlib/engine/Rule")) :: ws) ({ frames := 1, cells := 0, slots := 0, locals := 12 } : Room)) (fun a U => a = #[(.ref wCW1)] ∧ Z.Warmed39 U.vm ∧ U.heap = h0) (fun _ _ _ _ _ => True) (fun _ U o U' => ∃ v L, o = .returned v ∧ OwnQ (some (.ref wCW1)) h0 n0 v U'.heap L ∧ FrameEnd U o U' L ({ frames := 1, cells := 0, slots := 0, locals := 12 } : Room).cells ({ frames := 1, cells := 0, slots := 0, locals := 12 } : Room).slots) := by
  refine MetFree.of_bodySF (plainFor_of_name own_pn_1) hisR ?_
  intro p e s m args below meth c s₁ Bd hml0 hP hK
  obtain ⟨rfl, hZ, hh⟩ := hP
  have hx := Bd.exec
  have hby := Bd.bytes
  have hml : c.maxLocals = 1 := hml0
  have hown : s.vm.findClass "com/example/credlib/credlib/engine/Rule" = some m.cls := findClass_of_methodNamed Bd.named
  have hnm := (name_of_methodNamed Bd.named Bd.method).1
  have X0 : Stand p l e ({ frames := 1, cells := 0, slots := 0, locals := 12 } : Room) s m #[(.ref wCW1)] below meth c s₁ [] 0 0 := Stand.of_body Bd
  have e0 : s₁.heap = h0 := by rw [← hh, Bd.state]; rfl
  have N0 := Fr.nil n0
  have pre0 : ∀ t, Steps p.tables e below (s₁.setTop (mkF m 0 #[.val (.ref wCW1)] [])) t → Steps p.tables e below (s₁.setTop (entryFrame m #[(.ref wCW1)] 1)) t := fun t k => castTop (own_ef_2_R m wCW1) k
  obtain ⟨cq1, kq1, q1a, q1b, q1c⟩ := isOf hZ e0 (G.2.2.2.2.2.2.2.2.2.2.2.2.2.1.ext O0.2)
  obtain ⟨_, _, ⟨T1, L1, k1, n1⟩, -, X1, ⟨Lc1, hQ1, l1, y1, z1⟩, st1⟩ := X0.virtualBackUp hx (x := (⟨"com/example/credlib/credlib/engine/Rule", "ordinal", "()I"⟩ : MethodName)) (y := (⟨"java/lang/Enum", "ordinal", "()I"⟩ : MethodName)) (owner := "java/lang/Enum") hown (mvT hZ (hw _ (List.mem_of_getElem? (i := 40) rfl))) (mvT hZ (hw _ (List.mem_of_getElem? (i := 41) rfl))) (mvT hZ (hw _ (List.mem_of_getElem? (i := 42) rfl))) (by decide) (mvT hZ (hw _ (List.mem_of_getElem? (i := 44) rfl))) (mvT hZ (hw _ (List.mem_of_getElem? (i := 43) rfl))) (backOf (W := 0) (own_ordinal_25 l Z a0 hw [] wW1 wW2 wW3 wW4 wW5 wW6 wCW1 wCW2 wCW3 wCW4 wCW5 wCW6 G h0 n0 O0) hZ (hw _ (List.mem_of_getElem? (i := 46) rfl)) (hw _ (List.mem_of_getElem? (i := 45) rfl)) (by decide) (by decide)) q1a q1c (g := (mkF m 1 #[.val (.ref wCW1)] [(.ref wCW1)])) rfl (by rw [hml]; rfl) (Steps.refl _) (argsL := []) (rest := []) (lenOf own_pd_1 rfl) rfl (by show 2 * 0 + _ ≤ _; exact Nat.le_of_eq rfl) (hb hby own_d2_1) (fun _ _ => ⟨rfl, e0, (by decide : 0 + 0 ≤ _), (by decide : 0 + 0 ≤ _)⟩)
  dsimp only [Pt.U, Pt.locs, Pt.cells, Pt.slots] at X1 l1 y1 z1 st1 hQ1
  subst l1 y1 z1
  obtain ⟨rfl, N1q, e1⟩ := hQ1
  have N1 := Fr.app N0 N1q
  obtain ⟨fs, hr, hrun, hended, hW, hsame⟩ := X1.leave (v := some (.ref wCW1)) (fun h => by rw [Bd.returns] at h; cases h)
  refine ⟨_, _, pre0 _ ?_, hrun, hended, _, _, rfl, ?_, ⟨_, rfl⟩, hW, hsame.mono (by decide) (by decide)⟩
  · show Steps p.tables e below (s₁.setTop (mkF m 0 #[.val (.ref wCW1)] [])) _
    refine XS.aloadN X0.here hx rfl (hb hby own_d2_0) rfl rfl ?_
    show Steps p.tables e below (s₁.setTop (mkF m 1 #[.val (.ref wCW1)] [(.ref wCW1)])) _
    refine st1.trans ?_
    show Steps p.tables e below (T1.setTop (mkF m 4 #[.val (.ref wCW1)] [(.int (6 : Int32))])) _
    refine XS.tswOut X1.here hx rfl (pc0 := 4) (pc' := 80) rfl (hb hby own_d2_4) rfl (by decide) (by decide) (by decide) ?_
    show Steps p.tables e below (T1.setTop (mkF m 80 #[.val (.ref wCW1)] [])) _
    refine XS.aloadN X1.here hx rfl (hb hby own_d2_80) rfl rfl ?_
    show Steps p.tables e below (T1.setTop (mkF m 81 #[.val (.ref wCW1)] [(.ref wCW1)])) _
    jvm_step X1.here [X1.here.top, hx, (hb hby own_d2_81), X1.method', Bd.returns, Value.isRef, FieldType.isReference]
    first | (intro acts; rw [hr _ acts rfl rfl rfl]) | rw [hr _ _ rfl rfl rfl]
    exact Steps.refl _
  · show OwnQ _ h0 n0 _ T1.heap _
    exact ⟨rfl, N1, e1⟩
set_option maxRecDepth 65536 in
set_option maxHeartbeats 40000000 in
theorem own_law_6 (l : Launch) (Z : State) (a0 : Array Value) (hw : ∀ d ∈ tables_1, d.before a0 Z = true) (ws : List Jvm.Cond) (wW1 : Addr) (wW2 : Addr) (wW3 : Addr) (wW4 : Addr) (wW5 : Addr) (wW6 : Addr) (wCW1 : Addr) (wCW2 : Addr) (wCW3 : Addr) (wCW4 : Addr) (wCW5 : Addr) (wCW6 : Addr) (G : OwnG Z wW1 wW2 wW3 wW4 wW5 wW6 wCW1 wCW2 wCW3 wCW4 wCW5 wCW6) (h0 : Heap) (n0 : Nat) (O0 : Old Z n0 h0) (p1 : Int32) (hi : ((p1 &&& (2147483647 : Int32)) % (12 : Int32)) = (6 : Int32)) :
    MetFree l x (head1 (Jvm.Cond.code x code maxLocals ret :: ws) room_1) (fun a U => a = #[(.int p1)] ∧ Z.Warmed39 U.vm ∧ U.heap = h0) (fun _ _ _ _ _ => True) (fun _ U o U' => ∃ v L, o = .returned v ∧ (v = some (.int 1) ∧ Fr n0 L) ∧ FrameEnd U o U' L room_1.cells room_1.slots) := by
  refine MetFree.of_bodySF (plainFor_of_name own_pn_0) hisR ?_
  intro p e s m args below meth c s₁ Bd hml0 hP hK
  obtain ⟨rfl, hZ, hh⟩ := hP
  have hx := Bd.exec
  have hby := Bd.bytes
  have hml : c.maxLocals = 7 := hml0
  have hown : s.vm.findClass "com/example/credlib/credlib/engine/RuleStatesCredentialPinLaw" = some m.cls := findClass_of_methodNamed Bd.named
  have hnm := (name_of_methodNamed Bd.named Bd.method).1
  have X0 : Stand p l e room_1 s m #[(.int p1)] below meth c s₁ [] 0 0 := Stand.of_body Bd
  have e0 : s₁.heap = h0 := by rw [← hh, Bd.state]; rfl
  have N0 := Fr.nil n0
  have pre0 : ∀ t, Steps p.tables e below (s₁.setTop (mkF m 0 #[.val (.int p1), .unset, .unset, .unset, .unset, .unset, .unset] [])) t → Steps p.tables e below (s₁.setTop (entryFrame m #[(.int p1)] maxLocals)) t := fun t k => castTop (own_ef_0_I m p1) k
  obtain ⟨T1, h1, k1, X1, e1, E1, A1, Ov1, st1⟩ := newR X0 hx hZ hown (hw _ (List.mem_of_getElem? (i := 0) rfl)) (hw _ (List.mem_of_getElem? (i := 1) rfl)) e0 (g := (mkF m 2 #[.val (.int p1), .unset, .unset, .unset, .unset, .unset, .unset] [(.int (12 : Int32))])) rfl (hb hby at_2) rfl (by decide) (cap := 12) (by decide) (by decide) (by decide) (by decide)
  obtain ⟨b1, g1⟩ : ∃ z, z = h0.size := ⟨_, rfl⟩
  rw [← g1] at A1 st1
  have ge_b1 : n0 ≤ b1 := own_new O0 g1
  have sz_b1 : h0.size ≤ b1 := Nat.le_trans (Keep.refl h0 []).1 (Nat.le_of_eq g1.symm)
  have O1 := O0.ext E1
  have K1 := (Keep.refl h0 []).ext E1
  have V1 : Arv Z h1 b1 k1 (.object "com/example/credlib/credlib/engine/Rule") (12 : Int32) [.null, .null, .null, .null, .null, .null, .null, .null, .null, .null, .null, .null] .null := (Arv.new A1 (by decide)).pad (pad_rep [] .null 12)
  obtain ⟨T2, X2, e2, st2⟩ := getS2 X1 hx hZ hown (host := "") (Or.inl (hw _ (List.mem_of_getElem? (i := 2) rfl))) Via.refl e1 (G.1.ext O1.2) (g := (mkF m 7 #[.val (.int p1), .unset, .unset, .unset, .unset, .unset, .unset] [(.int (0 : Int32)), (.ref b1), (.ref b1)])) rfl (hb hby at_7)
  obtain ⟨cl3, Ar3, qk3, Sz3, Nn3, Hs3, Gs3⟩ := id (V1)
  have hin3 : ¬ ((0 : Int32) < 0 ∨ cl3.slots.size ≤ ((0 : Int32)).toNatClampNeg) := inb_of Sz3 ⟨by decide, by decide⟩
  obtain ⟨T3, h3, X3, e3, W3, st3⟩ := stR X2 hx hZ e2 Ar3 (j := (0 : Int32)) hin3 rfl (Sto.ofV Ar3 qk3 Ov1 (Ins.self (G.2.1.ext O1.2))) (g := (mkF m 10 #[.val (.int p1), .unset, .unset, .unset, .unset, .unset, .unset] [(.ref wW1), (.int (0 : Int32)), (.ref b1), (.ref b1)])) rfl rfl (hb hby at_10)
  have V3 := Arv.set Ar3 qk3 Sz3 Nn3 Hs3 Gs3 rfl W3 0 rfl (Nat.le_of_ble_eq_true rfl)
  have O3 := O1.wr W3 ge_b1
  have K3 := K1.wr W3 (Or.inr sz_b1)
  have N3 := Fr.snoc X3 N0 ge_b1
  obtain ⟨T4, X4, e4, st4⟩ := getS2 X3 hx hZ hown (host := "") (Or.inl (hw _ (List.mem_of_getElem? (i := 6) rfl))) Via.refl e3 (G.2.2.1.ext O3.2) (g := (mkF m 13 #[.val (.int p1), .unset, .unset, .unset, .unset, .unset, .unset] [(.int (1 : Int32)), (.ref b1), (.ref b1)])) rfl (hb hby at_13)
  obtain ⟨cl5, Ar5, qk5, Sz5, Nn5, Hs5, Gs5⟩ := id (V3)
  have hin5 : ¬ ((1 : Int32) < 0 ∨ cl5.slots.size ≤ ((1 : Int32)).toNatClampNeg) := inb_of Sz5 ⟨by decide, by decide⟩
  obtain ⟨T5, h5, X5, e5, W5, st5⟩ := stR X4 hx hZ e4 Ar5 (j := (1 : Int32)) hin5 rfl (Sto.ofV Ar5 qk5 Ov1 (Ins.self (G.2.2.2.1.ext O3.2))) (g := (mkF m 16 #[.val (.int p1), .unset, .unset, .unset, .unset, .unset, .unset] [(.ref wW2), (.int (1 : Int32)), (.ref b1), (.ref b1)])) rfl rfl (hb hby at_16)
  have V5 := Arv.set Ar5 qk5 Sz5 Nn5 Hs5 Gs5 rfl W5 1 rfl (Nat.le_of_ble_eq_true rfl)
  have O5 := O3.wr W5 ge_b1
  have K5 := K3.wr W5 (Or.inr sz_b1)
  have N5 := Fr.snoc X5 N3 ge_b1
  obtain ⟨T6, X6, e6, st6⟩ := getS2 X5 hx hZ hown (host := "") (Or.inl (hw _ (List.mem_of_getElem? (i := 8) rfl))) Via.refl e5 (G.2.2.2.2.1.ext O5.2) (g := (mkF m 19 #[.val (.int p1), .unset, .unset, .unset, .unset, .unset, .unset] [(.int (2 : Int32)), (.ref b1), (.ref b1)])) rfl (hb hby at_19)
  obtain ⟨cl7, Ar7, qk7, Sz7, Nn7, Hs7, Gs7⟩ := id (V5)
  have hin7 : ¬ ((2 : Int32) < 0 ∨ cl7.slots.size ≤ ((2 : Int32)).toNatClampNeg) := inb_of Sz7 ⟨by decide, by decide⟩
  obtain ⟨T7, h7, X7, e7, W7, st7⟩ := stR X6 hx hZ e6 Ar7 (j := (2 : Int32)) hin7 rfl (Sto.ofV Ar7 qk7 Ov1 (Ins.self (G.2.2.2.2.2.1.ext O5.2))) (g := (mkF m 22 #[.val (.int p1), .unset, .unset, .unset, .unset, .unset, .unset] [(.ref wW3), (.int (2 : Int32)), (.ref b1), (.ref b1)])) rfl rfl (hb hby at_22)
  have V7 := Arv.set Ar7 qk7 Sz7 Nn7 Hs7 Gs7 rfl W7 2 rfl (Nat.le_of_ble_eq_true rfl)
  have O7 := O5.wr W7 ge_b1
  have K7 := K5.wr W7 (Or.inr sz_b1)
  have N7 := Fr.snoc X7 N5 ge_b1
  obtain ⟨T8, X8, e8, st8⟩ := getS2 X7 hx hZ hown (host := "") (Or.inl (hw _ (List.mem_of_getElem? (i := 10) rfl))) Via.refl e7 (G.2.2.2.2.2.2.1.ext O7.2) (g := (mkF m 25 #[.val (.int p1), .unset, .unset, .unset, .unset, .unset, .unset] [(.int (3 : Int32)), (.ref b1), (.ref b1)])) rfl (hb hby at_25)
  obtain ⟨cl9, Ar9, qk9, Sz9, Nn9, Hs9, Gs9⟩ := id (V7)
  have hin9 : ¬ ((3 : Int32) < 0 ∨ cl9.slots.size ≤ ((3 : Int32)).toNatClampNeg) := inb_of Sz9 ⟨by decide, by decide⟩
  obtain ⟨T9, h9, X9, e9, W9, st9⟩ := stR X8 hx hZ e8 Ar9 (j := (3 : Int32)) hin9 rfl (Sto.ofV Ar9 qk9 Ov1 (Ins.self (G.2.2.2.2.2.2.2.1.ext O7.2))) (g := (mkF m 28 #[.val (.int p1), .unset, .unset, .unset, .unset, .unset, .unset] [(.ref wW4), (.int (3 : Int32)), (.ref b1), (.ref b1)])) rfl rfl (hb hby at_28)
  have V9 := Arv.set Ar9 qk9 Sz9 Nn9 Hs9 Gs9 rfl W9 3 rfl (Nat.le_of_ble_eq_true rfl)
  have O9 := O7.wr W9 ge_b1
  have K9 := K7.wr W9 (Or.inr sz_b1)
  have N9 := Fr.snoc X9 N7 ge_b1
  obtain ⟨T10, X10, e10, st10⟩ := getS2 X9 hx hZ hown (host := "") (Or.inl (hw _ (List.mem_of_getElem? (i := 12) rfl))) Via.refl e9 (G.2.2.2.2.2.2.2.2.1.ext O9.2) (g := (mkF m 31 #[.val (.int p1), .unset, .unset, .unset, .unset, .unset, .unset] [(.int (4 : Int32)), (.ref b1), (.ref b1)])) rfl (hb hby at_31)
  obtain ⟨cl11, Ar11, qk11, Sz11, Nn11, Hs11, Gs11⟩ := id (V9)
  have hin11 : ¬ ((4 : Int32) < 0 ∨ cl11.slots.size ≤ ((4 : Int32)).toNatClampNeg) := inb_of Sz11 ⟨by decide, by decide⟩
  obtain ⟨T11, h11, X11, e11, W11, st11⟩ := stR X10 hx hZ e10 Ar11 (j := (4 : Int32)) hin11 rfl (Sto.ofV Ar11 qk11 Ov1 (Ins.self (G.2.2.2.2.2.2.2.2.2.1.ext O9.2))) (g := (mkF m 34 #[.val (.int p1), .unset, .unset, .unset, .unset, .unset, .unset] [(.ref wW5), (.int (4 : Int32)), (.ref b1), (.ref b1)])) rfl rfl (hb hby at_34)
  have V11 := Arv.set Ar11 qk11 Sz11 Nn11 Hs11 Gs11 rfl W11 4 rfl (Nat.le_of_ble_eq_true rfl)
  have O11 := O9.wr W11 ge_b1
  have K11 := K9.wr W11 (Or.inr sz_b1)
  have N11 := Fr.snoc X11 N9 ge_b1
  obtain ⟨T12, X12, e12, st12⟩ := getS2 X11 hx hZ hown (host := "") (Or.inl (hw _ (List.mem_of_getElem? (i := 14) rfl))) Via.refl e11 (G.2.2.2.2.2.2.2.2.2.2.1.ext O11.2) (g := (mkF m 37 #[.val (.int p1), .unset, .unset, .unset, .unset, .unset, .unset] [(.int (5 : Int32)), (.ref b1), (.ref b1)])) rfl (hb hby at_37)
  obtain ⟨cl13, Ar13, qk13, Sz13, Nn13, Hs13, Gs13⟩ := id (V11)
  have hin13 : ¬ ((5 : Int32) < 0 ∨ cl13.slots.size ≤ ((5 : Int32)).toNatClampNeg) := inb_of Sz13 ⟨by decide, by decide⟩
  obtain ⟨T13, h13, X13, e13, W13, st13⟩ := stR X12 hx hZ e12 Ar13 (j := (5 : Int32)) hin13 rfl (Sto.ofV Ar13 qk13 Ov1 (Ins.self (G.2.2.2.2.2.2.2.2.2.2.2.1.ext O11.2))) (g := (mkF m 40 #[.val (.int p1), .unset, .unset, .unset, .unset, .unset, .unset] [(.ref wW6), (.int (5 : Int32)), (.ref b1), (.ref b1)])) rfl rfl (hb hby at_40)
  have V13 := Arv.set Ar13 qk13 Sz13 Nn13 Hs13 Gs13 rfl W13 5 rfl (Nat.le_of_ble_eq_true rfl)
  have O13 := O11.wr W13 ge_b1
  have K13 := K11.wr W13 (Or.inr sz_b1)
  have N13 := Fr.snoc X13 N11 ge_b1
  obtain ⟨T14, X14, e14, st14⟩ := getS2 X13 hx hZ hown (host := "") (Or.inl (hw _ (List.mem_of_getElem? (i := 16) rfl))) Via.refl e13 (G.2.2.2.2.2.2.2.2.2.2.2.2.1.ext O13.2) (g := (mkF m 44 #[.val (.int p1), .unset, .unset, .unset, .unset, .unset, .unset] [(.int (6 : Int32)), (.ref b1), (.ref b1)])) rfl (hb hby at_44)
  obtain ⟨cl15, Ar15, qk15, Sz15, Nn15, Hs15, Gs15⟩ := id (V13)
  have hin15 : ¬ ((6 : Int32) < 0 ∨ cl15.slots.size ≤ ((6 : Int32)).toNatClampNeg) := inb_of Sz15 ⟨by decide, by decide⟩
  obtain ⟨T15, h15, X15, e15, W15, st15⟩ := stR X14 hx hZ e14 Ar15 (j := (6 : Int32)) hin15 rfl (Sto.ofV Ar15 qk15 Ov1 (Ins.self (G.2.2.2.2.2.2.2.2.2.2.2.2.2.1.ext O13.2))) (g := (mkF m 47 #[.val (.int p1), .unset, .unset, .unset, .unset, .unset, .unset] [(.ref wCW1), (.int (6 : Int32)), (.ref b1), (.ref b1)])) rfl rfl (hb hby at_47)
  have V15 := Arv.set Ar15 qk15 Sz15 Nn15 Hs15 Gs15 rfl W15 6 rfl (Nat.le_of_ble_eq_true rfl)
  have O15 := O13.wr W15 ge_b1
  have K15 := K13.wr W15 (Or.inr sz_b1)
  have N15 := Fr.snoc X15 N13 ge_b1
  obtain ⟨T16, X16, e16, st16⟩ := getS2 X15 hx hZ hown (host := "") (Or.inl (hw _ (List.mem_of_getElem? (i := 18) rfl))) Via.refl e15 (G.2.2.2.2.2.2.2.2.2.2.2.2.2.2.1.ext O15.2) (g := (mkF m 51 #[.val (.int p1), .unset, .unset, .unset, .unset, .unset, .unset] [(.int (7 : Int32)), (.ref b1), (.ref b1)])) rfl (hb hby at_51)
  obtain ⟨cl17, Ar17, qk17, Sz17, Nn17, Hs17, Gs17⟩ := id (V15)
  have hin17 : ¬ ((7 : Int32) < 0 ∨ cl17.slots.size ≤ ((7 : Int32)).toNatClampNeg) := inb_of Sz17 ⟨by decide, by decide⟩
  obtain ⟨T17, h17, X17, e17, W17, st17⟩ := stR X16 hx hZ e16 Ar17 (j := (7 : Int32)) hin17 rfl (Sto.ofV Ar17 qk17 Ov1 (Ins.self (G.2.2.2.2.2.2.2.2.2.2.2.2.2.2.2.1.ext O15.2))) (g := (mkF m 54 #[.val (.int p1), .unset, .unset, .unset, .unset, .unset, .unset] [(.ref wCW2), (.int (7 : Int32)), (.ref b1), (.ref b1)])) rfl rfl (hb hby at_54)
  have V17 := Arv.set Ar17 qk17 Sz17 Nn17 Hs17 Gs17 rfl W17 7 rfl (Nat.le_of_ble_eq_true rfl)
  have O17 := O15.wr W17 ge_b1
  have K17 := K15.wr W17 (Or.inr sz_b1)
  have N17 := Fr.snoc X17 N15 ge_b1
  obtain ⟨T18, X18, e18, st18⟩ := getS2 X17 hx hZ hown (host := "") (Or.inl (hw _ (List.mem_of_getElem? (i := 20) rfl))) Via.refl e17 (G.2.2.2.2.2.2.2.2.2.2.2.2.2.2.2.2.1.ext O17.2) (g := (mkF m 58 #[.val (.int p1), .unset, .unset, .unset, .unset, .unset, .unset] [(.int (8 : Int32)), (.ref b1), (.ref b1)])) rfl (hb hby at_58)
  obtain ⟨cl19, Ar19, qk19, Sz19, Nn19, Hs19, Gs19⟩ := id (V17)
  have hin19 : ¬ ((8 : Int32) < 0 ∨ cl19.slots.size ≤ ((8 : Int32)).toNatClampNeg) := inb_of Sz19 ⟨by decide, by decide⟩
  obtain ⟨T19, h19, X19, e19, W19, st19⟩ := stR X18 hx hZ e18 Ar19 (j := (8 : Int32)) hin19 rfl (Sto.ofV Ar19 qk19 Ov1 (Ins.self (G.2.2.2.2.2.2.2.2.2.2.2.2.2.2.2.2.2.1.ext O17.2))) (g := (mkF m 61 #[.val (.int p1), .unset, .unset, .unset, .unset, .unset, .unset] [(.ref wCW3), (.int (8 : Int32)), (.ref b1), (.ref b1)])) rfl rfl (hb hby at_61)
  have V19 := Arv.set Ar19 qk19 Sz19 Nn19 Hs19 Gs19 rfl W19 8 rfl (Nat.le_of_ble_eq_true rfl)
  have O19 := O17.wr W19 ge_b1
  have K19 := K17.wr W19 (Or.inr sz_b1)
  have N19 := Fr.snoc X19 N17 ge_b1
  obtain ⟨T20, X20, e20, st20⟩ := getS2 X19 hx hZ hown (host := "") (Or.inl (hw _ (List.mem_of_getElem? (i := 22) rfl))) Via.refl e19 (G.2.2.2.2.2.2.2.2.2.2.2.2.2.2.2.2.2.2.1.ext O19.2) (g := (mkF m 65 #[.val (.int p1), .unset, .unset, .unset, .unset, .unset, .unset] [(.int (9 : Int32)), (.ref b1), (.ref b1)])) rfl (hb hby at_65)
  obtain ⟨cl21, Ar21, qk21, Sz21, Nn21, Hs21, Gs21⟩ := id (V19)
  have hin21 : ¬ ((9 : Int32) < 0 ∨ cl21.slots.size ≤ ((9 : Int32)).toNatClampNeg) := inb_of Sz21 ⟨by decide, by decide⟩
  obtain ⟨T21, h21, X21, e21, W21, st21⟩ := stR X20 hx hZ e20 Ar21 (j := (9 : Int32)) hin21 rfl (Sto.ofV Ar21 qk21 Ov1 (Ins.self (G.2.2.2.2.2.2.2.2.2.2.2.2.2.2.2.2.2.2.2.1.ext O19.2))) (g := (mkF m 68 #[.val (.int p1), .unset, .unset, .unset, .unset, .unset, .unset] [(.ref wCW4), (.int (9 : Int32)), (.ref b1), (.ref b1)])) rfl rfl (hb hby at_68)
  have V21 := Arv.set Ar21 qk21 Sz21 Nn21 Hs21 Gs21 rfl W21 9 rfl (Nat.le_of_ble_eq_true rfl)
  have O21 := O19.wr W21 ge_b1
  have K21 := K19.wr W21 (Or.inr sz_b1)
  have N21 := Fr.snoc X21 N19 ge_b1
  obtain ⟨T22, X22, e22, st22⟩ := getS2 X21 hx hZ hown (host := "") (Or.inl (hw _ (List.mem_of_getElem? (i := 24) rfl))) Via.refl e21 (G.2.2.2.2.2.2.2.2.2.2.2.2.2.2.2.2.2.2.2.2.1.ext O21.2) (g := (mkF m 72 #[.val (.int p1), .unset, .unset, .unset, .unset, .unset, .unset] [(.int (10 : Int32)), (.ref b1), (.ref b1)])) rfl (hb hby at_72)
  obtain ⟨cl23, Ar23, qk23, Sz23, Nn23, Hs23, Gs23⟩ := id (V21)
  have hin23 : ¬ ((10 : Int32) < 0 ∨ cl23.slots.size ≤ ((10 : Int32)).toNatClampNeg) := inb_of Sz23 ⟨by decide, by decide⟩
  obtain ⟨T23, h23, X23, e23, W23, st23⟩ := stR X22 hx hZ e22 Ar23 (j := (10 : Int32)) hin23 rfl (Sto.ofV Ar23 qk23 Ov1 (Ins.self (G.2.2.2.2.2.2.2.2.2.2.2.2.2.2.2.2.2.2.2.2.2.1.ext O21.2))) (g := (mkF m 75 #[.val (.int p1), .unset, .unset, .unset, .unset, .unset, .unset] [(.ref wCW5), (.int (10 : Int32)), (.ref b1), (.ref b1)])) rfl rfl (hb hby at_75)
  have V23 := Arv.set Ar23 qk23 Sz23 Nn23 Hs23 Gs23 rfl W23 10 rfl (Nat.le_of_ble_eq_true rfl)
  have O23 := O21.wr W23 ge_b1
  have K23 := K21.wr W23 (Or.inr sz_b1)
  have N23 := Fr.snoc X23 N21 ge_b1
  obtain ⟨T24, X24, e24, st24⟩ := getS2 X23 hx hZ hown (host := "") (Or.inl (hw _ (List.mem_of_getElem? (i := 26) rfl))) Via.refl e23 (G.2.2.2.2.2.2.2.2.2.2.2.2.2.2.2.2.2.2.2.2.2.2.1.ext O23.2) (g := (mkF m 79 #[.val (.int p1), .unset, .unset, .unset, .unset, .unset, .unset] [(.int (11 : Int32)), (.ref b1), (.ref b1)])) rfl (hb hby at_79)
  obtain ⟨cl25, Ar25, qk25, Sz25, Nn25, Hs25, Gs25⟩ := id (V23)
  have hin25 : ¬ ((11 : Int32) < 0 ∨ cl25.slots.size ≤ ((11 : Int32)).toNatClampNeg) := inb_of Sz25 ⟨by decide, by decide⟩
  obtain ⟨T25, h25, X25, e25, W25, st25⟩ := stR X24 hx hZ e24 Ar25 (j := (11 : Int32)) hin25 rfl (Sto.ofV Ar25 qk25 Ov1 (Ins.self (G.2.2.2.2.2.2.2.2.2.2.2.2.2.2.2.2.2.2.2.2.2.2.2.1.ext O23.2))) (g := (mkF m 82 #[.val (.int p1), .unset, .unset, .unset, .unset, .unset, .unset] [(.ref wCW6), (.int (11 : Int32)), (.ref b1), (.ref b1)])) rfl rfl (hb hby at_82)
  have V25 := Arv.set Ar25 qk25 Sz25 Nn25 Hs25 Gs25 rfl W25 11 rfl (Nat.le_of_ble_eq_true rfl)
  have O25 := O23.wr W25 ge_b1
  have K25 := K23.wr W25 (Or.inr sz_b1)
  have N25 := Fr.snoc X25 N23 ge_b1
  obtain ⟨cl26, Ar26, qk26, Sz26, Nn26, Hs26, Gs26⟩ := id (V25)
  have hin27 : ¬ ((6 : Int32) < 0 ∨ cl26.slots.size ≤ ((6 : Int32)).toNatClampNeg) := inb_of Sz26 ⟨by decide, by decide⟩
  have hat27 : cl26.slots[((6 : Int32)).toNatClampNeg]? = some (.ref wCW1) := Hs26.at hin27 rfl
  obtain ⟨cq28, kq28, q28a, q28b, q28c⟩ := isOf hZ e25 (G.2.2.2.2.2.2.2.2.2.2.2.2.2.1.ext O25.2)
  obtain ⟨_, _, ⟨T28, L28, k28, n28⟩, -, X28, ⟨Lc28, hQ28, l28, y28, z28⟩, st28⟩ := X25.virtualBack hx (y := (⟨"com/example/credlib/credlib/engine/Rule", "statesCredential", "()Z"⟩ : MethodName)) (z := (⟨"com/example/credlib/credlib/engine/Rule", "statesCredential", "()Z"⟩ : MethodName)) hown (mvT hZ (hw _ (List.mem_of_getElem? (i := 29) rfl))) (mvT hZ (hw _ (List.mem_of_getElem? (i := 30) rfl))) (notFace_of_selects (args := #[]) (mvT hZ (hw _ (List.mem_of_getElem? (i := 32) rfl)))) (mvT hZ (hw _ (List.mem_of_getElem? (i := 32) rfl))) (mvT hZ (hw _ (List.mem_of_getElem? (i := 31) rfl))) (by decide) (backOf (W := 0) (own_statesCredential_3 l Z a0 hw [] wW1 wW2 wW3 wW4 wW5 wW6 wCW1 wCW2 wCW3 wCW4 wCW5 wCW6 G h25 n0 O25) hZ (hw _ (List.mem_of_getElem? (i := 33) rfl)) (hw _ (List.mem_of_getElem? (i := 3) rfl)) (by decide) (by decide)) q28a q28c (g := (mkF m 111 #[.val (.int p1), .val (.ref b1), .val (.int (6 : Int32)), .val (.ref wCW1), .val (.int (1 : Int32)), .unset, .unset] [(.ref wCW1)])) rfl (by rw [hml]; rfl) (Steps.refl _) (argsL := []) (rest := []) (lenOf own_pd_0 rfl) rfl (by show 2 * 0 + _ ≤ _; exact Nat.le_of_eq rfl) (hb hby at_111) (fun _ _ => ⟨rfl, e25, (by decide : 1 + 0 ≤ _), (by decide : 12 + 0 ≤ _)⟩)
  dsimp only [Pt.U, Pt.locs, Pt.cells, Pt.slots] at X28 l28 y28 z28 st28 hQ28
  subst l28 y28 z28
  obtain ⟨rfl, N28q, e28⟩ := hQ28
  have N28 := Fr.app N25 N28q
  obtain ⟨cq29, kq29, q29a, q29b, q29c⟩ := isOf hZ e28 (G.2.2.2.2.2.2.2.2.2.2.2.2.2.1.ext O25.2)
  obtain ⟨_, _, ⟨T29, L29, k29, n29⟩, -, X29, ⟨Lc29, hQ29, l29, y29, z29⟩, st29⟩ := X28.virtualBack hx (y := (⟨"com/example/credlib/credlib/engine/Rule", "atInstant", "()Lcom/example/credlib/credlib/engine/Rule;"⟩ : MethodName)) (z := (⟨"com/example/credlib/credlib/engine/Rule", "atInstant", "()Lcom/example/credlib/credlib/engine/Rule;"⟩ : MethodName)) hown (mvT hZ (hw _ (List.mem_of_getElem? (i := 35) rfl))) (mvT hZ (hw _ (List.mem_of_getElem? (i := 36) rfl))) (notFace_of_selects (args := #[]) (mvT hZ (hw _ (List.mem_of_getElem? (i := 38) rfl)))) (mvT hZ (hw _ (List.mem_of_getElem? (i := 38) rfl))) (mvT hZ (hw _ (List.mem_of_getElem? (i := 37) rfl))) (by decide) (backOf (W := 0) (own_atInstant_24 l Z a0 hw [] wW1 wW2 wW3 wW4 wW5 wW6 wCW1 wCW2 wCW3 wCW4 wCW5 wCW6 G h25 n0 O25) hZ (hw _ (List.mem_of_getElem? (i := 39) rfl)) (hw _ (List.mem_of_getElem? (i := 3) rfl)) (by decide) (by decide)) q29a q29c (g := (mkF m 117 #[.val (.int p1), .val (.ref b1), .val (.int (6 : Int32)), .val (.ref wCW1), .val (.int (1 : Int32)), .val (.int (1 : Int32)), .unset] [(.ref wCW1)])) rfl (by rw [hml]; rfl) (Steps.refl _) (argsL := []) (rest := []) (lenOf own_pd_2 rfl) rfl (by show 2 * 0 + _ ≤ _; exact Nat.le_of_eq rfl) (hb hby at_117) (fun _ _ => ⟨rfl, e28, (by decide : 1 + 0 ≤ _), (by decide : 12 + 0 ≤ _)⟩)
  dsimp only [Pt.U, Pt.locs, Pt.cells, Pt.slots] at X29 l29 y29 z29 st29 hQ29
  subst l29 y29 z29
  obtain ⟨rfl, N29q, e29⟩ := hQ29
  have N29 := Fr.app N28 N29q
  obtain ⟨cq30, kq30, q30a, q30b, q30c⟩ := isOf hZ e29 (G.2.2.2.2.2.2.2.2.2.2.2.2.2.1.ext O25.2)
  obtain ⟨_, _, ⟨T30, L30, k30, n30⟩, -, X30, ⟨Lc30, hQ30, l30, y30, z30⟩, st30⟩ := X29.virtualBack hx (y := (⟨"com/example/credlib/credlib/engine/Rule", "statesCredential", "()Z"⟩ : MethodName)) (z := (⟨"com/example/credlib/credlib/engine/Rule", "statesCredential", "()Z"⟩ : MethodName)) hown (mvT hZ (hw _ (List.mem_of_getElem? (i := 29) rfl))) (mvT hZ (hw _ (List.mem_of_getElem? (i := 30) rfl))) (notFace_of_selects (args := #[]) (mvT hZ (hw _ (List.mem_of_getElem? (i := 32) rfl)))) (mvT hZ (hw _ (List.mem_of_getElem? (i := 32) rfl))) (mvT hZ (hw _ (List.mem_of_getElem? (i := 31) rfl))) (by decide) (backOf (W := 0) (own_statesCredential_3 l Z a0 hw [] wW1 wW2 wW3 wW4 wW5 wW6 wCW1 wCW2 wCW3 wCW4 wCW5 wCW6 G h25 n0 O25) hZ (hw _ (List.mem_of_getElem? (i := 33) rfl)) (hw _ (List.mem_of_getElem? (i := 3) rfl)) (by decide) (by decide)) q30a q30c (g := (mkF m 120 #[.val (.int p1), .val (.ref b1), .val (.int (6 : Int32)), .val (.ref wCW1), .val (.int (1 : Int32)), .val (.int (1 : Int32)), .unset] [(.ref wCW1)])) rfl (by rw [hml]; rfl) (Steps.refl _) (argsL := []) (rest := []) (lenOf own_pd_0 rfl) rfl (by show 2 * 0 + _ ≤ _; exact Nat.le_of_eq rfl) (hb hby at_120) (fun _ _ => ⟨rfl, e29, (by decide : 1 + 0 ≤ _), (by decide : 12 + 0 ≤ _)⟩)
  dsimp only [Pt.U, Pt.locs, Pt.cells, Pt.slots] at X30 l30 y30 z30 st30 hQ30
  subst l30 y30 z30
  obtain ⟨rfl, N30q, e30⟩ := hQ30
  have N30 := Fr.app N29 N30q
  obtain ⟨fs, hr, hrun, hended, hW, hsame⟩ := X30.leave (v := some (.int (1 : Int32))) (fun h => by rw [Bd.returns] at h; cases h)
  refine ⟨_, _, pre0 _ ?_, hrun, hended, _, _, rfl, ?_, ⟨_, rfl⟩, hW, hsame.mono (by decide) (by decide)⟩
  · show Steps p.tables e below (s₁.setTop (mkF m 0 #[.val (.int p1), .unset, .unset, .unset, .unset, .unset, .unset] [])) _
    refine XS.bipush X0.here hx rfl (hb hby at_0) ?_
    show Steps p.tables e below (s₁.setTop (mkF m 2 #[.val (.int p1), .unset, .unset, .unset, .unset, .unset, .unset] [(.int (12 : Int32))])) _
    refine st1 _ ?_
    show Steps p.tables e below (T1.setTop (mkF m 5 #[.val (.int p1), .unset, .unset, .unset, .unset, .unset, .unset] [(.ref b1)])) _
    refine XS.dup X1.here hx rfl (hb hby at_5) rfl rfl ?_
    show Steps p.tables e below (T1.setTop (mkF m 6 #[.val (.int p1), .unset, .unset, .unset, .unset, .unset, .unset] [(.ref b1), (.ref b1)])) _
    refine XS.iconst X1.here hx rfl (hb hby at_6) ?_
    show Steps p.tables e below (T1.setTop (mkF m 7 #[.val (.int p1), .unset, .unset, .unset, .unset, .unset, .unset] [(.int (0 : Int32)), (.ref b1), (.ref b1)])) _
    refine st2 _ ?_
    show Steps p.tables e below (T2.setTop (mkF m 10 #[.val (.int p1), .unset, .unset, .unset, .unset, .unset, .unset] [(.ref wW1), (.int (0 : Int32)), (.ref b1), (.ref b1)])) _
    refine st3 _ ?_
    show Steps p.tables e below (T3.setTop (mkF m 11 #[.val (.int p1), .unset, .unset, .unset, .unset, .unset, .unset] [(.ref b1)])) _
    refine XS.dup X3.here hx rfl (hb hby at_11) rfl rfl ?_
    show Steps p.tables e below (T3.setTop (mkF m 12 #[.val (.int p1), .unset, .unset, .unset, .unset, .unset, .unset] [(.ref b1), (.ref b1)])) _
    refine XS.iconst X3.here hx rfl (hb hby at_12) ?_
    show Steps p.tables e below (T3.setTop (mkF m 13 #[.val (.int p1), .unset, .unset, .unset, .unset, .unset, .unset] [(.int (1 : Int32)), (.ref b1), (.ref b1)])) _
    refine st4 _ ?_
    show Steps p.tables e below (T4.setTop (mkF m 16 #[.val (.int p1), .unset, .unset, .unset, .unset, .unset, .unset] [(.ref wW2), (.int (1 : Int32)), (.ref b1), (.ref b1)])) _
    refine st5 _ ?_
    show Steps p.tables e below (T5.setTop (mkF m 17 #[.val (.int p1), .unset, .unset, .unset, .unset, .unset, .unset] [(.ref b1)])) _
    refine XS.dup X5.here hx rfl (hb hby at_17) rfl rfl ?_
    show Steps p.tables e below (T5.setTop (mkF m 18 #[.val (.int p1), .unset, .unset, .unset, .unset, .unset, .unset] [(.ref b1), (.ref b1)])) _
    refine XS.iconst X5.here hx rfl (hb hby at_18) ?_
    show Steps p.tables e below (T5.setTop (mkF m 19 #[.val (.int p1), .unset, .unset, .unset, .unset, .unset, .unset] [(.int (2 : Int32)), (.ref b1), (.ref b1)])) _
    refine st6 _ ?_
    show Steps p.tables e below (T6.setTop (mkF m 22 #[.val (.int p1), .unset, .unset, .unset, .unset, .unset, .unset] [(.ref wW3), (.int (2 : Int32)), (.ref b1), (.ref b1)])) _
    refine st7 _ ?_
    show Steps p.tables e below (T7.setTop (mkF m 23 #[.val (.int p1), .unset, .unset, .unset, .unset, .unset, .unset] [(.ref b1)])) _
    refine XS.dup X7.here hx rfl (hb hby at_23) rfl rfl ?_
    show Steps p.tables e below (T7.setTop (mkF m 24 #[.val (.int p1), .unset, .unset, .unset, .unset, .unset, .unset] [(.ref b1), (.ref b1)])) _
    refine XS.iconst X7.here hx rfl (hb hby at_24) ?_
    show Steps p.tables e below (T7.setTop (mkF m 25 #[.val (.int p1), .unset, .unset, .unset, .unset, .unset, .unset] [(.int (3 : Int32)), (.ref b1), (.ref b1)])) _
    refine st8 _ ?_
    show Steps p.tables e below (T8.setTop (mkF m 28 #[.val (.int p1), .unset, .unset, .unset, .unset, .unset, .unset] [(.ref wW4), (.int (3 : Int32)), (.ref b1), (.ref b1)])) _
    refine st9 _ ?_
    show Steps p.tables e below (T9.setTop (mkF m 29 #[.val (.int p1), .unset, .unset, .unset, .unset, .unset, .unset] [(.ref b1)])) _
    refine XS.dup X9.here hx rfl (hb hby at_29) rfl rfl ?_
    show Steps p.tables e below (T9.setTop (mkF m 30 #[.val (.int p1), .unset, .unset, .unset, .unset, .unset, .unset] [(.ref b1), (.ref b1)])) _
    refine XS.iconst X9.here hx rfl (hb hby at_30) ?_
    show Steps p.tables e below (T9.setTop (mkF m 31 #[.val (.int p1), .unset, .unset, .unset, .unset, .unset, .unset] [(.int (4 : Int32)), (.ref b1), (.ref b1)])) _
    refine st10 _ ?_
    show Steps p.tables e below (T10.setTop (mkF m 34 #[.val (.int p1), .unset, .unset, .unset, .unset, .unset, .unset] [(.ref wW5), (.int (4 : Int32)), (.ref b1), (.ref b1)])) _
    refine st11 _ ?_
    show Steps p.tables e below (T11.setTop (mkF m 35 #[.val (.int p1), .unset, .unset, .unset, .unset, .unset, .unset] [(.ref b1)])) _
    refine XS.dup X11.here hx rfl (hb hby at_35) rfl rfl ?_
    show Steps p.tables e below (T11.setTop (mkF m 36 #[.val (.int p1), .unset, .unset, .unset, .unset, .unset, .unset] [(.ref b1), (.ref b1)])) _
    refine XS.iconst X11.here hx rfl (hb hby at_36) ?_
    show Steps p.tables e below (T11.setTop (mkF m 37 #[.val (.int p1), .unset, .unset, .unset, .unset, .unset, .unset] [(.int (5 : Int32)), (.ref b1), (.ref b1)])) _
    refine st12 _ ?_
    show Steps p.tables e below (T12.setTop (mkF m 40 #[.val (.int p1), .unset, .unset, .unset, .unset, .unset, .unset] [(.ref wW6), (.int (5 : Int32)), (.ref b1), (.ref b1)])) _
    refine st13 _ ?_
    show Steps p.tables e below (T13.setTop (mkF m 41 #[.val (.int p1), .unset, .unset, .unset, .unset, .unset, .unset] [(.ref b1)])) _
    refine XS.dup X13.here hx rfl (hb hby at_41) rfl rfl ?_
    show Steps p.tables e below (T13.setTop (mkF m 42 #[.val (.int p1), .unset, .unset, .unset, .unset, .unset, .unset] [(.ref b1), (.ref b1)])) _
    refine XS.bipush X13.here hx rfl (hb hby at_42) ?_
    show Steps p.tables e below (T13.setTop (mkF m 44 #[.val (.int p1), .unset, .unset, .unset, .unset, .unset, .unset] [(.int (6 : Int32)), (.ref b1), (.ref b1)])) _
    refine st14 _ ?_
    show Steps p.tables e below (T14.setTop (mkF m 47 #[.val (.int p1), .unset, .unset, .unset, .unset, .unset, .unset] [(.ref wCW1), (.int (6 : Int32)), (.ref b1), (.ref b1)])) _
    refine st15 _ ?_
    show Steps p.tables e below (T15.setTop (mkF m 48 #[.val (.int p1), .unset, .unset, .unset, .unset, .unset, .unset] [(.ref b1)])) _
    refine XS.dup X15.here hx rfl (hb hby at_48) rfl rfl ?_
    show Steps p.tables e below (T15.setTop (mkF m 49 #[.val (.int p1), .unset, .unset, .unset, .unset, .unset, .unset] [(.ref b1), (.ref b1)])) _
    refine XS.bipush X15.here hx rfl (hb hby at_49) ?_
    show Steps p.tables e below (T15.setTop (mkF m 51 #[.val (.int p1), .unset, .unset, .unset, .unset, .unset, .unset] [(.int (7 : Int32)), (.ref b1), (.ref b1)])) _
    refine st16 _ ?_
    show Steps p.tables e below (T16.setTop (mkF m 54 #[.val (.int p1), .unset, .unset, .unset, .unset, .unset, .unset] [(.ref wCW2), (.int (7 : Int32)), (.ref b1), (.ref b1)])) _
    refine st17 _ ?_
    show Steps p.tables e below (T17.setTop (mkF m 55 #[.val (.int p1), .unset, .unset, .unset, .unset, .unset, .unset] [(.ref b1)])) _
    refine XS.dup X17.here hx rfl (hb hby at_55) rfl rfl ?_
    show Steps p.tables e below (T17.setTop (mkF m 56 #[.val (.int p1), .unset, .unset, .unset, .unset, .unset, .unset] [(.ref b1), (.ref b1)])) _
    refine XS.bipush X17.here hx rfl (hb hby at_56) ?_
    show Steps p.tables e below (T17.setTop (mkF m 58 #[.val (.int p1), .unset, .unset, .unset, .unset, .unset, .unset] [(.int (8 : Int32)), (.ref b1), (.ref b1)])) _
    refine st18 _ ?_
    show Steps p.tables e below (T18.setTop (mkF m 61 #[.val (.int p1), .unset, .unset, .unset, .unset, .unset, .unset] [(.ref wCW3), (.int (8 : Int32)), (.ref b1), (.ref b1)])) _
    refine st19 _ ?_
    show Steps p.tables e below (T19.setTop (mkF m 62 #[.val (.int p1), .unset, .unset, .unset, .unset, .unset, .unset] [(.ref b1)])) _
    refine XS.dup X19.here hx rfl (hb hby at_62) rfl rfl ?_
    show Steps p.tables e below (T19.setTop (mkF m 63 #[.val (.int p1), .unset, .unset, .unset, .unset, .unset, .unset] [(.ref b1), (.ref b1)])) _
    refine XS.bipush X19.here hx rfl (hb hby at_63) ?_
    show Steps p.tables e below (T19.setTop (mkF m 65 #[.val (.int p1), .unset, .unset, .unset, .unset, .unset, .unset] [(.int (9 : Int32)), (.ref b1), (.ref b1)])) _
    refine st20 _ ?_
    show Steps p.tables e below (T20.setTop (mkF m 68 #[.val (.int p1), .unset, .unset, .unset, .unset, .unset, .unset] [(.ref wCW4), (.int (9 : Int32)), (.ref b1), (.ref b1)])) _
    refine st21 _ ?_
    show Steps p.tables e below (T21.setTop (mkF m 69 #[.val (.int p1), .unset, .unset, .unset, .unset, .unset, .unset] [(.ref b1)])) _
    refine XS.dup X21.here hx rfl (hb hby at_69) rfl rfl ?_
    show Steps p.tables e below (T21.setTop (mkF m 70 #[.val (.int p1), .unset, .unset, .unset, .unset, .unset, .unset] [(.ref b1), (.ref b1)])) _
    refine XS.bipush X21.here hx rfl (hb hby at_70) ?_
    show Steps p.tables e below (T21.setTop (mkF m 72 #[.val (.int p1), .unset, .unset, .unset, .unset, .unset, .unset] [(.int (10 : Int32)), (.ref b1), (.ref b1)])) _
    refine st22 _ ?_
    show Steps p.tables e below (T22.setTop (mkF m 75 #[.val (.int p1), .unset, .unset, .unset, .unset, .unset, .unset] [(.ref wCW5), (.int (10 : Int32)), (.ref b1), (.ref b1)])) _
    refine st23 _ ?_
    show Steps p.tables e below (T23.setTop (mkF m 76 #[.val (.int p1), .unset, .unset, .unset, .unset, .unset, .unset] [(.ref b1)])) _
    refine XS.dup X23.here hx rfl (hb hby at_76) rfl rfl ?_
    show Steps p.tables e below (T23.setTop (mkF m 77 #[.val (.int p1), .unset, .unset, .unset, .unset, .unset, .unset] [(.ref b1), (.ref b1)])) _
    refine XS.bipush X23.here hx rfl (hb hby at_77) ?_
    show Steps p.tables e below (T23.setTop (mkF m 79 #[.val (.int p1), .unset, .unset, .unset, .unset, .unset, .unset] [(.int (11 : Int32)), (.ref b1), (.ref b1)])) _
    refine st24 _ ?_
    show Steps p.tables e below (T24.setTop (mkF m 82 #[.val (.int p1), .unset, .unset, .unset, .unset, .unset, .unset] [(.ref wCW6), (.int (11 : Int32)), (.ref b1), (.ref b1)])) _
    refine st25 _ ?_
    show Steps p.tables e below (T25.setTop (mkF m 83 #[.val (.int p1), .unset, .unset, .unset, .unset, .unset, .unset] [(.ref b1)])) _
    refine XS.astoreN X25.here hx rfl (hb hby at_83) rfl rfl (l' := #[.val (.int p1), .val (.ref b1), .unset, .unset, .unset, .unset, .unset]) rfl ?_
    show Steps p.tables e below (T25.setTop (mkF m 84 #[.val (.int p1), .val (.ref b1), .unset, .unset, .unset, .unset, .unset] [])) _
    refine XS.iloadN X25.here hx rfl (hb hby at_84) rfl ?_
    show Steps p.tables e below (T25.setTop (mkF m 85 #[.val (.int p1), .val (.ref b1), .unset, .unset, .unset, .unset, .unset] [(.int p1)])) _
    refine Jvm.Stand.ldcI X25 hx hown (mvT hZ (hw _ (List.mem_of_getElem? (i := 28) rfl))) rfl (hb hby at_85) ?_
    show Steps p.tables e below (T25.setTop (mkF m 87 #[.val (.int p1), .val (.ref b1), .unset, .unset, .unset, .unset, .unset] [(.int (2147483647 : Int32)), (.int p1)])) _
    refine XS.iand X25.here hx rfl (hb hby at_87) rfl ?_
    show Steps p.tables e below (T25.setTop (mkF m 88 #[.val (.int p1), .val (.ref b1), .unset, .unset, .unset, .unset, .unset] [(.int (p1 &&& (2147483647 : Int32)))])) _
    refine XS.bipush X25.here hx rfl (hb hby at_88) ?_
    show Steps p.tables e below (T25.setTop (mkF m 90 #[.val (.int p1), .val (.ref b1), .unset, .unset, .unset, .unset, .unset] [(.int (12 : Int32)), (.int (p1 &&& (2147483647 : Int32)))])) _
    refine iremM X25 hx rfl (hb hby at_90) rfl (by decide) ?_
    show Steps p.tables e below (T25.setTop (mkF m 91 #[.val (.int p1), .val (.ref b1), .unset, .unset, .unset, .unset, .unset] [(.int ((p1 &&& (2147483647 : Int32)) % (12 : Int32)))])) _
    refine castTop (g' := (mkF m 91 #[.val (.int p1), .val (.ref b1), .unset, .unset, .unset, .unset, .unset] [(.int (6 : Int32))])) (by rw [hi]) ?_
    show Steps p.tables e below (T25.setTop (mkF m 91 #[.val (.int p1), .val (.ref b1), .unset, .unset, .unset, .unset, .unset] [(.int (6 : Int32))])) _
    refine XS.istoreN X25.here hx rfl (hb hby at_91) rfl (l' := #[.val (.int p1), .val (.ref b1), .val (.int (6 : Int32)), .unset, .unset, .unset, .unset]) rfl ?_
    show Steps p.tables e below (T25.setTop (mkF m 92 #[.val (.int p1), .val (.ref b1), .val (.int (6 : Int32)), .unset, .unset, .unset, .unset] [])) _
    refine XS.aloadN X25.here hx rfl (hb hby at_92) rfl rfl ?_
    show Steps p.tables e below (T25.setTop (mkF m 93 #[.val (.int p1), .val (.ref b1), .val (.int (6 : Int32)), .unset, .unset, .unset, .unset] [(.ref b1)])) _
    refine XS.iloadN X25.here hx rfl (hb hby at_93) rfl ?_
    show Steps p.tables e below (T25.setTop (mkF m 94 #[.val (.int p1), .val (.ref b1), .val (.int (6 : Int32)), .unset, .unset, .unset, .unset] [(.int (6 : Int32)), (.ref b1)])) _
    refine X25.aaload hx (j := (6 : Int32)) (v := (.ref wCW1)) (by rw [e25]; exact Ar26.1) (State.isArrayOf_alike hZ.alike Ar26.2.1) rfl Ar26.2.2 hin27 hat27 (g := (mkF m 94 #[.val (.int p1), .val (.ref b1), .val (.int (6 : Int32)), .unset, .unset, .unset, .unset] [(.int (6 : Int32)), (.ref b1)])) rfl rfl (hb hby at_94) _ ?_
    show Steps p.tables e below (T25.setTop (mkF m 95 #[.val (.int p1), .val (.ref b1), .val (.int (6 : Int32)), .unset, .unset, .unset, .unset] [(.ref wCW1)])) _
    refine XS.astoreN X25.here hx rfl (hb hby at_95) rfl rfl (l' := #[.val (.int p1), .val (.ref b1), .val (.int (6 : Int32)), .val (.ref wCW1), .unset, .unset, .unset]) rfl ?_
    show Steps p.tables e below (T25.setTop (mkF m 96 #[.val (.int p1), .val (.ref b1), .val (.int (6 : Int32)), .val (.ref wCW1), .unset, .unset, .unset] [])) _
    refine XS.iloadN X25.here hx rfl (hb hby at_96) rfl ?_
    show Steps p.tables e below (T25.setTop (mkF m 97 #[.val (.int p1), .val (.ref b1), .val (.int (6 : Int32)), .val (.ref wCW1), .unset, .unset, .unset] [(.int (6 : Int32))])) _
    refine XS.bipush X25.here hx rfl (hb hby at_97) ?_
    show Steps p.tables e below (T25.setTop (mkF m 99 #[.val (.int p1), .val (.ref b1), .val (.int (6 : Int32)), .val (.ref wCW1), .unset, .unset, .unset] [(.int (6 : Int32)), (.int (6 : Int32))])) _
    refine iremM X25 hx rfl (hb hby at_99) rfl (by decide) ?_
    show Steps p.tables e below (T25.setTop (mkF m 100 #[.val (.int p1), .val (.ref b1), .val (.int (6 : Int32)), .val (.ref wCW1), .unset, .unset, .unset] [(.int ((6 : Int32) % (6 : Int32)))])) _
    refine castTop (g' := (mkF m 100 #[.val (.int p1), .val (.ref b1), .val (.int (6 : Int32)), .val (.ref wCW1), .unset, .unset, .unset] [(.int (0 : Int32))])) (by rw [show ((6 : Int32) % (6 : Int32)) = (0 : Int32) from by decide]) ?_
    show Steps p.tables e below (T25.setTop (mkF m 100 #[.val (.int p1), .val (.ref b1), .val (.int (6 : Int32)), .val (.ref wCW1), .unset, .unset, .unset] [(.int (0 : Int32))])) _
    refine XS.ifNo X25.here hx rfl (hb hby at_100) rfl (by decide) ?_
    show Steps p.tables e below (T25.setTop (mkF m 103 #[.val (.int p1), .val (.ref b1), .val (.int (6 : Int32)), .val (.ref wCW1), .unset, .unset, .unset] [])) _
    refine XS.iconst X25.here hx rfl (hb hby at_103) ?_
    show Steps p.tables e below (T25.setTop (mkF m 104 #[.val (.int p1), .val (.ref b1), .val (.int (6 : Int32)), .val (.ref wCW1), .unset, .unset, .unset] [(.int (1 : Int32))])) _
    refine XS.goto X25.here hx rfl (pc0 := 104) (pc' := 108) rfl (hb hby at_104) (by decide) (by decide) ?_
    show Steps p.tables e below (T25.setTop (mkF m 108 #[.val (.int p1), .val (.ref b1), .val (.int (6 : Int32)), .val (.ref wCW1), .unset, .unset, .unset] [(.int (1 : Int32))])) _
    refine XS.istore X25.here hx rfl (hb hby at_108) rfl (l' := #[.val (.int p1), .val (.ref b1), .val (.int (6 : Int32)), .val (.ref wCW1), .val (.int (1 : Int32)), .unset, .unset]) rfl ?_
    show Steps p.tables e below (T25.setTop (mkF m 110 #[.val (.int p1), .val (.ref b1), .val (.int (6 : Int32)), .val (.ref wCW1), .val (.int (1 : Int32)), .unset, .unset] [])) _
    refine XS.aloadN X25.here hx rfl (hb hby at_110) rfl rfl ?_
    show Steps p.tables e below (T25.setTop (mkF m 111 #[.val (.int p1), .val (.ref b1), .val (.int (6 : Int32)), .val (.ref wCW1), .val (.int (1 : Int32)), .unset, .unset] [(.ref wCW1)])) _
    refine st28.trans ?_
    show Steps p.tables e below (T28.setTop (mkF m 114 #[.val (.int p1), .val (.ref b1), .val (.int (6 : Int32)), .val (.ref wCW1), .val (.int (1 : Int32)), .unset, .unset] [(.int (1 : Int32))])) _
    refine XS.istore X28.here hx rfl (hb hby at_114) rfl (l' := #[.val (.int p1), .val (.ref b1), .val (.int (6 : Int32)), .val (.ref wCW1), .val (.int (1 : Int32)), .val (.int (1 : Int32)), .unset]) rfl ?_
    show Steps p.tables e below (T28.setTop (mkF m 116 #[.val (.int p1), .val (.ref b1), .val (.int (6 : Int32)), .val (.ref wCW1), .val (.int (1 : Int32)), .val (.int (1 : Int32)), .unset] [])) _
    refine XS.aloadN X28.here hx rfl (hb hby at_116) rfl rfl ?_
    show Steps p.tables e below (T28.setTop (mkF m 117 #[.val (.int p1), .val (.ref b1), .val (.int (6 : Int32)), .val (.ref wCW1), .val (.int (1 : Int32)), .val (.int (1 : Int32)), .unset] [(.ref wCW1)])) _
    refine st29.trans ?_
    show Steps p.tables e below (T29.setTop (mkF m 120 #[.val (.int p1), .val (.ref b1), .val (.int (6 : Int32)), .val (.ref wCW1), .val (.int (1 : Int32)), .val (.int (1 : Int32)), .unset] [(.ref wCW1)])) _
    refine st30.trans ?_
    show Steps p.tables e below (T30.setTop (mkF m 123 #[.val (.int p1), .val (.ref b1), .val (.int (6 : Int32)), .val (.ref wCW1), .val (.int (1 : Int32)), .val (.int (1 : Int32)), .unset] [(.int (1 : Int32))])) _
    refine XS.istore X30.here hx rfl (hb hby at_123) rfl (l' := #[.val (.int p1), .val (.ref b1), .val (.int (6 : Int32)), .val (.ref wCW1), .val (.int (1 : Int32)), .val (.int (1 : Int32)), .val (.int (1 : Int32))]) rfl ?_
    show Steps p.tables e below (T30.setTop (mkF m 125 #[.val (.int p1), .val (.ref b1), .val (.int (6 : Int32)), .val (.ref wCW1), .val (.int (1 : Int32)), .val (.int (1 : Int32)), .val (.int (1 : Int32))] [])) _
    refine XS.iload X30.here hx rfl (hb hby at_125) rfl ?_
    show Steps p.tables e below (T30.setTop (mkF m 127 #[.val (.int p1), .val (.ref b1), .val (.int (6 : Int32)), .val (.ref wCW1), .val (.int (1 : Int32)), .val (.int (1 : Int32)), .val (.int (1 : Int32))] [(.int (1 : Int32))])) _
    refine XS.iload X30.here hx rfl (hb hby at_127) rfl ?_
    show Steps p.tables e below (T30.setTop (mkF m 129 #[.val (.int p1), .val (.ref b1), .val (.int (6 : Int32)), .val (.ref wCW1), .val (.int (1 : Int32)), .val (.int (1 : Int32)), .val (.int (1 : Int32))] [(.int (1 : Int32)), (.int (1 : Int32))])) _
    refine XS.icmpNo X30.here hx rfl (hb hby at_129) rfl (by decide) ?_
    show Steps p.tables e below (T30.setTop (mkF m 132 #[.val (.int p1), .val (.ref b1), .val (.int (6 : Int32)), .val (.ref wCW1), .val (.int (1 : Int32)), .val (.int (1 : Int32)), .val (.int (1 : Int32))] [])) _
    refine XS.iload X30.here hx rfl (hb hby at_132) rfl ?_
    show Steps p.tables e below (T30.setTop (mkF m 134 #[.val (.int p1), .val (.ref b1), .val (.int (6 : Int32)), .val (.ref wCW1), .val (.int (1 : Int32)), .val (.int (1 : Int32)), .val (.int (1 : Int32))] [(.int (1 : Int32))])) _
    refine XS.iload X30.here hx rfl (hb hby at_134) rfl ?_
    show Steps p.tables e below (T30.setTop (mkF m 136 #[.val (.int p1), .val (.ref b1), .val (.int (6 : Int32)), .val (.ref wCW1), .val (.int (1 : Int32)), .val (.int (1 : Int32)), .val (.int (1 : Int32))] [(.int (1 : Int32)), (.int (1 : Int32))])) _
    refine XS.icmpNo X30.here hx rfl (hb hby at_136) rfl (by decide) ?_
    show Steps p.tables e below (T30.setTop (mkF m 139 #[.val (.int p1), .val (.ref b1), .val (.int (6 : Int32)), .val (.ref wCW1), .val (.int (1 : Int32)), .val (.int (1 : Int32)), .val (.int (1 : Int32))] [])) _
    refine XS.iconst X30.here hx rfl (hb hby at_139) ?_
    show Steps p.tables e below (T30.setTop (mkF m 140 #[.val (.int p1), .val (.ref b1), .val (.int (6 : Int32)), .val (.ref wCW1), .val (.int (1 : Int32)), .val (.int (1 : Int32)), .val (.int (1 : Int32))] [(.int (1 : Int32))])) _
    refine XS.goto X30.here hx rfl (pc0 := 140) (pc' := 144) rfl (hb hby at_140) (by decide) (by decide) ?_
    show Steps p.tables e below (T30.setTop (mkF m 144 #[.val (.int p1), .val (.ref b1), .val (.int (6 : Int32)), .val (.ref wCW1), .val (.int (1 : Int32)), .val (.int (1 : Int32)), .val (.int (1 : Int32))] [(.int (1 : Int32))])) _
    exact retN X30 hx (t := .boolean) Bd.returns (by simp) (hb hby at_144) hr
  · exact ⟨rfl, N30⟩
set_option maxRecDepth 65536 in
set_option maxHeartbeats 40000000 in
theorem own_ordinal_27 (l : Launch) (Z : State) (a0 : Array Value) (hw : ∀ d ∈ tables_1, d.before a0 Z = true) (ws : List Jvm.Cond) (wW1 : Addr) (wW2 : Addr) (wW3 : Addr) (wW4 : Addr) (wW5 : Addr) (wW6 : Addr) (wCW1 : Addr) (wCW2 : Addr) (wCW3 : Addr) (wCW4 : Addr) (wCW5 : Addr) (wCW6 : Addr) (G : OwnG Z wW1 wW2 wW3 wW4 wW5 wW6 wCW1 wCW2 wCW3 wCW4 wCW5 wCW6) (h0 : Heap) (n0 : Nat) (O0 : Old Z n0 h0) :
    MetFree l (⟨"java/lang/Enum", "ordinal", "()I"⟩ : MethodName) (head1 (Jvm.Cond.code (⟨"java/lang/Enum", "ordinal", "()I"⟩ : MethodName) jdk_37_method_2_code 1 (some .int) :: ws) ({ frames := 0, cells := 0, slots := 0, locals := 0 } : Room)) (fun a U => a = #[(.ref wCW2)] ∧ Z.Warmed39 U.vm ∧ U.heap = h0) (fun _ _ _ _ _ => True) (fun _ U o U' => ∃ v L, o = .returned v ∧ OwnQ (some (.int (7 : Int32))) h0 n0 v U'.heap L ∧ FrameEnd U o U' L ({ frames := 0, cells := 0, slots := 0, locals := 0 } : Room).cells ({ frames := 0, cells := 0, slots := 0, locals := 0 } : Room).slots) := by
  refine MetFree.of_bodySF (plainFor_of_name own_pn_3) hisR ?_
  intro p e s m args below meth c s₁ Bd hml0 hP hK
  obtain ⟨rfl, hZ, hh⟩ := hP
  have hx := Bd.exec
  have hby := Bd.bytes
  have hml : c.maxLocals = 1 := hml0
  have hown : s.vm.findClass "java/lang/Enum" = some m.cls := findClass_of_methodNamed Bd.named
  have hnm := (name_of_methodNamed Bd.named Bd.method).1
  have X0 : Stand p l e ({ frames := 0, cells := 0, slots := 0, locals := 0 } : Room) s m #[(.ref wCW2)] below meth c s₁ [] 0 0 := Stand.of_body Bd
  have e0 : s₁.heap = h0 := by rw [← hh, Bd.state]; rfl
  have N0 := Fr.nil n0
  have pre0 : ∀ t, Steps p.tables e below (s₁.setTop (mkF m 0 #[.val (.ref wCW2)] [])) t → Steps p.tables e below (s₁.setTop (entryFrame m #[(.ref wCW2)] 1)) t := fun t k => castTop (own_ef_3_R m wCW2) k
  obtain ⟨T1, X1, e1, st1⟩ := getF X0 hx hZ hown (host := "") (Or.inl (hw _ (List.mem_of_getElem? (i := 47) rfl))) Via.refl e0 (G.2.2.2.2.2.2.2.2.2.2.2.2.2.2.2.2.2.2.2.2.2.2.2.2.2.2.2.2.2.2.1.ext O0.2) (g := (mkF m 1 #[.val (.ref wCW2)] [(.ref wCW2)])) rfl rfl (hb hby own_d3_1)
  obtain ⟨fs, hr, hrun, hended, hW, hsame⟩ := X1.leave (v := some (.int (7 : Int32))) (fun h => by rw [Bd.returns] at h; cases h)
  refine ⟨_, _, pre0 _ ?_, hrun, hended, _, _, rfl, ?_, ⟨_, rfl⟩, hW, hsame.mono (by decide) (by decide)⟩
  · show Steps p.tables e below (s₁.setTop (mkF m 0 #[.val (.ref wCW2)] [])) _
    refine XS.aloadN X0.here hx rfl (hb hby own_d3_0) rfl rfl ?_
    show Steps p.tables e below (s₁.setTop (mkF m 1 #[.val (.ref wCW2)] [(.ref wCW2)])) _
    refine st1 _ ?_
    show Steps p.tables e below (T1.setTop (mkF m 4 #[.val (.ref wCW2)] [(.int (7 : Int32))])) _
    exact retI X1 hx Bd.returns (hb hby own_d3_4) hr
  · show OwnQ _ h0 n0 _ T1.heap _
    exact ⟨rfl, N0, e1⟩
set_option maxRecDepth 65536 in
set_option maxHeartbeats 40000000 in
theorem own_atInstant_26 (l : Launch) (Z : State) (a0 : Array Value) (hw : ∀ d ∈ tables_1, d.before a0 Z = true) (ws : List Jvm.Cond) (wW1 : Addr) (wW2 : Addr) (wW3 : Addr) (wW4 : Addr) (wW5 : Addr) (wW6 : Addr) (wCW1 : Addr) (wCW2 : Addr) (wCW3 : Addr) (wCW4 : Addr) (wCW5 : Addr) (wCW6 : Addr) (G : OwnG Z wW1 wW2 wW3 wW4 wW5 wW6 wCW1 wCW2 wCW3 wCW4 wCW5 wCW6) (h0 : Heap) (n0 : Nat) (O0 : Old Z n0 h0) :
    MetFree l (⟨"com/example/credlib/credlib/engine/Rule", "atInstant", "()Lcom/example/credlib/credlib/engine/Rule;"⟩ : MethodName) (head1 (Jvm.Cond.code (⟨"com/example/credlib/credlib/engine/Rule", "atInstant", "()Lcom/example/credlib/credlib/engine/Rule;"⟩ : MethodName) prog_18_method_5_code 1 (some (.object "com/example/credlib/credlib/engine/Rule")) :: ws) ({ frames := 1, cells := 0, slots := 0, locals := 12 } : Room)) (fun a U => a = #[(.ref wCW2)] ∧ Z.Warmed39 U.vm ∧ U.heap = h0) (fun _ _ _ _ _ => True) (fun _ U o U' => ∃ v L, o = .returned v ∧ OwnQ (some (.ref wCW2)) h0 n0 v U'.heap L ∧ FrameEnd U o U' L ({ frames := 1, cells := 0, slots := 0, locals := 12 } : Room).cells ({ frames := 1, cells := 0, slots := 0, locals := 12 } : Room).slots) := by
  refine MetFree.of_bodySF (plainFor_of_name own_pn_1) hisR ?_
  intro p e s m args below meth c s₁ Bd hml0 hP hK
  obtain ⟨rfl, hZ, hh⟩ := hP
  have hx := Bd.exec
  have hby := Bd.bytes
  have hml : c.maxLocals = 1 := hml0
  have hown : s.vm.findClass "com/example/credlib/credlib/engine/Rule" = some m.cls := findClass_of_methodNamed Bd.named
  have hnm := (name_of_methodNamed Bd.named Bd.method).1
  have X0 : Stand p l e ({ frames := 1, cells := 0, slots := 0, locals := 12 } : Room) s m #[(.ref wCW2)] below meth c s₁ [] 0 0 := Stand.of_body Bd
  have e0 : s₁.heap = h0 := by rw [← hh, Bd.state]; rfl
  have N0 := Fr.nil n0
  have pre0 : ∀ t, Steps p.tables e below (s₁.setTop (mkF m 0 #[.val (.ref wCW2)] [])) t → Steps p.tables e below (s₁.setTop (entryFrame m #[(.ref wCW2)] 1)) t := fun t k => castTop (own_ef_2_R m wCW2) k
  obtain ⟨cq1, kq1, q1a, q1b, q1c⟩ := isOf hZ e0 (G.2.2.2.2.2.2.2.2.2.2.2.2.2.2.2.1.ext O0.2)
  obtain ⟨_, _, ⟨T1, L1, k1, n1⟩, -, X1, ⟨Lc1, hQ1, l1, y1, z1⟩, st1⟩ := X0.virtualBackUp hx (x := (⟨"com/example/credlib/credlib/engine/Rule", "ordinal", "()I"⟩ : MethodName)) (y := (⟨"java/lang/Enum", "ordinal", "()I"⟩ : MethodName)) (owner := "java/lang/Enum") hown (mvT hZ (hw _ (List.mem_of_getElem? (i := 40) rfl))) (mvT hZ (hw _ (List.mem_of_getElem? (i := 41) rfl))) (mvT hZ (hw _ (List.mem_of_getElem? (i := 42) rfl))) (by decide) (mvT hZ (hw _ (List.mem_of_getElem? (i := 44) rfl))) (mvT hZ (hw _ (List.mem_of_getElem? (i := 43) rfl))) (backOf (W := 0) (own_ordinal_27 l Z a0 hw [] wW1 wW2 wW3 wW4 wW5 wW6 wCW1 wCW2 wCW3 wCW4 wCW5 wCW6 G h0 n0 O0) hZ (hw _ (List.mem_of_getElem? (i := 46) rfl)) (hw _ (List.mem_of_getElem? (i := 45) rfl)) (by decide) (by decide)) q1a q1c (g := (mkF m 1 #[.val (.ref wCW2)] [(.ref wCW2)])) rfl (by rw [hml]; rfl) (Steps.refl _) (argsL := []) (rest := []) (lenOf own_pd_1 rfl) rfl (by show 2 * 0 + _ ≤ _; exact Nat.le_of_eq rfl) (hb hby own_d2_1) (fun _ _ => ⟨rfl, e0, (by decide : 0 + 0 ≤ _), (by decide : 0 + 0 ≤ _)⟩)
  dsimp only [Pt.U, Pt.locs, Pt.cells, Pt.slots] at X1 l1 y1 z1 st1 hQ1
  subst l1 y1 z1
  obtain ⟨rfl, N1q, e1⟩ := hQ1
  have N1 := Fr.app N0 N1q
  obtain ⟨fs, hr, hrun, hended, hW, hsame⟩ := X1.leave (v := some (.ref wCW2)) (fun h => by rw [Bd.returns] at h; cases h)
  refine ⟨_, _, pre0 _ ?_, hrun, hended, _, _, rfl, ?_, ⟨_, rfl⟩, hW, hsame.mono (by decide) (by decide)⟩
  · show Steps p.tables e below (s₁.setTop (mkF m 0 #[.val (.ref wCW2)] [])) _
    refine XS.aloadN X0.here hx rfl (hb hby own_d2_0) rfl rfl ?_
    show Steps p.tables e below (s₁.setTop (mkF m 1 #[.val (.ref wCW2)] [(.ref wCW2)])) _
    refine st1.trans ?_
    show Steps p.tables e below (T1.setTop (mkF m 4 #[.val (.ref wCW2)] [(.int (7 : Int32))])) _
    refine XS.tswOut X1.here hx rfl (pc0 := 4) (pc' := 80) rfl (hb hby own_d2_4) rfl (by decide) (by decide) (by decide) ?_
    show Steps p.tables e below (T1.setTop (mkF m 80 #[.val (.ref wCW2)] [])) _
    refine XS.aloadN X1.here hx rfl (hb hby own_d2_80) rfl rfl ?_
    show Steps p.tables e below (T1.setTop (mkF m 81 #[.val (.ref wCW2)] [(.ref wCW2)])) _
    jvm_step X1.here [X1.here.top, hx, (hb hby own_d2_81), X1.method', Bd.returns, Value.isRef, FieldType.isReference]
    first | (intro acts; rw [hr _ acts rfl rfl rfl]) | rw [hr _ _ rfl rfl rfl]
    exact Steps.refl _
  · show OwnQ _ h0 n0 _ T1.heap _
    exact ⟨rfl, N1, e1⟩
set_option maxRecDepth 65536 in
set_option maxHeartbeats 40000000 in
theorem own_law_7 (l : Launch) (Z : State) (a0 : Array Value) (hw : ∀ d ∈ tables_1, d.before a0 Z = true) (ws : List Jvm.Cond) (wW1 : Addr) (wW2 : Addr) (wW3 : Addr) (wW4 : Addr) (wW5 : Addr) (wW6 : Addr) (wCW1 : Addr) (wCW2 : Addr) (wCW3 : Addr) (wCW4 : Addr) (wCW5 : Addr) (wCW6 : Addr) (G : OwnG Z wW1 wW2 wW3 wW4 wW5 wW6 wCW1 wCW2 wCW3 wCW4 wCW5 wCW6) (h0 : Heap) (n0 : Nat) (O0 : Old Z n0 h0) (p1 : Int32) (hi : ((p1 &&& (2147483647 : Int32)) % (12 : Int32)) = (7 : Int32)) :
    MetFree l x (head1 (Jvm.Cond.code x code maxLocals ret :: ws) room_1) (fun a U => a = #[(.int p1)] ∧ Z.Warmed39 U.vm ∧ U.heap = h0) (fun _ _ _ _ _ => True) (fun _ U o U' => ∃ v L, o = .returned v ∧ (v = some (.int 1) ∧ Fr n0 L) ∧ FrameEnd U o U' L room_1.cells room_1.slots) := by
  refine MetFree.of_bodySF (plainFor_of_name own_pn_0) hisR ?_
  intro p e s m args below meth c s₁ Bd hml0 hP hK
  obtain ⟨rfl, hZ, hh⟩ := hP
  have hx := Bd.exec
  have hby := Bd.bytes
  have hml : c.maxLocals = 7 := hml0
  have hown : s.vm.findClass "com/example/credlib/credlib/engine/RuleStatesCredentialPinLaw" = some m.cls := findClass_of_methodNamed Bd.named
  have hnm := (name_of_methodNamed Bd.named Bd.method).1
  have X0 : Stand p l e room_1 s m #[(.int p1)] below meth c s₁ [] 0 0 := Stand.of_body Bd
  have e0 : s₁.heap = h0 := by rw [← hh, Bd.state]; rfl
  have N0 := Fr.nil n0
  have pre0 : ∀ t, Steps p.tables e below (s₁.setTop (mkF m 0 #[.val (.int p1), .unset, .unset, .unset, .unset, .unset, .unset] [])) t → Steps p.tables e below (s₁.setTop (entryFrame m #[(.int p1)] maxLocals)) t := fun t k => castTop (own_ef_0_I m p1) k
  obtain ⟨T1, h1, k1, X1, e1, E1, A1, Ov1, st1⟩ := newR X0 hx hZ hown (hw _ (List.mem_of_getElem? (i := 0) rfl)) (hw _ (List.mem_of_getElem? (i := 1) rfl)) e0 (g := (mkF m 2 #[.val (.int p1), .unset, .unset, .unset, .unset, .unset, .unset] [(.int (12 : Int32))])) rfl (hb hby at_2) rfl (by decide) (cap := 12) (by decide) (by decide) (by decide) (by decide)
  obtain ⟨b1, g1⟩ : ∃ z, z = h0.size := ⟨_, rfl⟩
  rw [← g1] at A1 st1
  have ge_b1 : n0 ≤ b1 := own_new O0 g1
  have sz_b1 : h0.size ≤ b1 := Nat.le_trans (Keep.refl h0 []).1 (Nat.le_of_eq g1.symm)
  have O1 := O0.ext E1
  have K1 := (Keep.refl h0 []).ext E1
  have V1 : Arv Z h1 b1 k1 (.object "com/example/credlib/credlib/engine/Rule") (12 : Int32) [.null, .null, .null, .null, .null, .null, .null, .null, .null, .null, .null, .null] .null := (Arv.new A1 (by decide)).pad (pad_rep [] .null 12)
  obtain ⟨T2, X2, e2, st2⟩ := getS2 X1 hx hZ hown (host := "") (Or.inl (hw _ (List.mem_of_getElem? (i := 2) rfl))) Via.refl e1 (G.1.ext O1.2) (g := (mkF m 7 #[.val (.int p1), .unset, .unset, .unset, .unset, .unset, .unset] [(.int (0 : Int32)), (.ref b1), (.ref b1)])) rfl (hb hby at_7)
  obtain ⟨cl3, Ar3, qk3, Sz3, Nn3, Hs3, Gs3⟩ := id (V1)
  have hin3 : ¬ ((0 : Int32) < 0 ∨ cl3.slots.size ≤ ((0 : Int32)).toNatClampNeg) := inb_of Sz3 ⟨by decide, by decide⟩
  obtain ⟨T3, h3, X3, e3, W3, st3⟩ := stR X2 hx hZ e2 Ar3 (j := (0 : Int32)) hin3 rfl (Sto.ofV Ar3 qk3 Ov1 (Ins.self (G.2.1.ext O1.2))) (g := (mkF m 10 #[.val (.int p1), .unset, .unset, .unset, .unset, .unset, .unset] [(.ref wW1), (.int (0 : Int32)), (.ref b1), (.ref b1)])) rfl rfl (hb hby at_10)
  have V3 := Arv.set Ar3 qk3 Sz3 Nn3 Hs3 Gs3 rfl W3 0 rfl (Nat.le_of_ble_eq_true rfl)
  have O3 := O1.wr W3 ge_b1
  have K3 := K1.wr W3 (Or.inr sz_b1)
  have N3 := Fr.snoc X3 N0 ge_b1
  obtain ⟨T4, X4, e4, st4⟩ := getS2 X3 hx hZ hown (host := "") (Or.inl (hw _ (List.mem_of_getElem? (i := 6) rfl))) Via.refl e3 (G.2.2.1.ext O3.2) (g := (mkF m 13 #[.val (.int p1), .unset, .unset, .unset, .unset, .unset, .unset] [(.int (1 : Int32)), (.ref b1), (.ref b1)])) rfl (hb hby at_13)
  obtain ⟨cl5, Ar5, qk5, Sz5, Nn5, Hs5, Gs5⟩ := id (V3)
  have hin5 : ¬ ((1 : Int32) < 0 ∨ cl5.slots.size ≤ ((1 : Int32)).toNatClampNeg) := inb_of Sz5 ⟨by decide, by decide⟩
  obtain ⟨T5, h5, X5, e5, W5, st5⟩ := stR X4 hx hZ e4 Ar5 (j := (1 : Int32)) hin5 rfl (Sto.ofV Ar5 qk5 Ov1 (Ins.self (G.2.2.2.1.ext O3.2))) (g := (mkF m 16 #[.val (.int p1), .unset, .unset, .unset, .unset, .unset, .unset] [(.ref wW2), (.int (1 : Int32)), (.ref b1), (.ref b1)])) rfl rfl (hb hby at_16)
  have V5 := Arv.set Ar5 qk5 Sz5 Nn5 Hs5 Gs5 rfl W5 1 rfl (Nat.le_of_ble_eq_true rfl)
  have O5 := O3.wr W5 ge_b1
  have K5 := K3.wr W5 (Or.inr sz_b1)
  have N5 := Fr.snoc X5 N3 ge_b1
  obtain ⟨T6, X6, e6, st6⟩ := getS2 X5 hx hZ hown (host := "") (Or.inl (hw _ (List.mem_of_getElem? (i := 8) rfl))) Via.refl e5 (G.2.2.2.2.1.ext O5.2) (g := (mkF m 19 #[.val (.int p1), .unset, .unset, .unset, .unset, .unset, .unset] [(.int (2 : Int32)), (.ref b1), (.ref b1)])) rfl (hb hby at_19)
  obtain ⟨cl7, Ar7, qk7, Sz7, Nn7, Hs7, Gs7⟩ := id (V5)
  have hin7 : ¬ ((2 : Int32) < 0 ∨ cl7.slots.size ≤ ((2 : Int32)).toNatClampNeg) := inb_of Sz7 ⟨by decide, by decide⟩
  obtain ⟨T7, h7, X7, e7, W7, st7⟩ := stR X6 hx hZ e6 Ar7 (j := (2 : Int32)) hin7 rfl (Sto.ofV Ar7 qk7 Ov1 (Ins.self (G.2.2.2.2.2.1.ext O5.2))) (g := (mkF m 22 #[.val (.int p1), .unset, .unset, .unset, .unset, .unset, .unset] [(.ref wW3), (.int (2 : Int32)), (.ref b1), (.ref b1)])) rfl rfl (hb hby at_22)
  have V7 := Arv.set Ar7 qk7 Sz7 Nn7 Hs7 Gs7 rfl W7 2 rfl (Nat.le_of_ble_eq_true rfl)
  have O7 := O5.wr W7 ge_b1
  have K7 := K5.wr W7 (Or.inr sz_b1)
  have N7 := Fr.snoc X7 N5 ge_b1
  obtain ⟨T8, X8, e8, st8⟩ := getS2 X7 hx hZ hown (host := "") (Or.inl (hw _ (List.mem_of_getElem? (i := 10) rfl))) Via.refl e7 (G.2.2.2.2.2.2.1.ext O7.2) (g := (mkF m 25 #[.val (.int p1), .unset, .unset, .unset, .unset, .unset, .unset] [(.int (3 : Int32)), (.ref b1), (.ref b1)])) rfl (hb hby at_25)
  obtain ⟨cl9, Ar9, qk9, Sz9, Nn9, Hs9, Gs9⟩ := id (V7)
  have hin9 : ¬ ((3 : Int32) < 0 ∨ cl9.slots.size ≤ ((3 : Int32)).toNatClampNeg) := inb_of Sz9 ⟨by decide, by decide⟩
  obtain ⟨T9, h9, X9, e9, W9, st9⟩ := stR X8 hx hZ e8 Ar9 (j := (3 : Int32)) hin9 rfl (Sto.ofV Ar9 qk9 Ov1 (Ins.self (G.2.2.2.2.2.2.2.1.ext O7.2))) (g := (mkF m 28 #[.val (.int p1), .unset, .unset, .unset, .unset, .unset, .unset] [(.ref wW4), (.int (3 : Int32)), (.ref b1), (.ref b1)])) rfl rfl (hb hby at_28)
  have V9 := Arv.set Ar9 qk9 Sz9 Nn9 Hs9 Gs9 rfl W9 3 rfl (Nat.le_of_ble_eq_true rfl)
  have O9 := O7.wr W9 ge_b1
  have K9 := K7.wr W9 (Or.inr sz_b1)
  have N9 := Fr.snoc X9 N7 ge_b1
  obtain ⟨T10, X10, e10, st10⟩ := getS2 X9 hx hZ hown (host := "") (Or.inl (hw _ (List.mem_of_getElem? (i := 12) rfl))) Via.refl e9 (G.2.2.2.2.2.2.2.2.1.ext O9.2) (g := (mkF m 31 #[.val (.int p1), .unset, .unset, .unset, .unset, .unset, .unset] [(.int (4 : Int32)), (.ref b1), (.ref b1)])) rfl (hb hby at_31)
  obtain ⟨cl11, Ar11, qk11, Sz11, Nn11, Hs11, Gs11⟩ := id (V9)
  have hin11 : ¬ ((4 : Int32) < 0 ∨ cl11.slots.size ≤ ((4 : Int32)).toNatClampNeg) := inb_of Sz11 ⟨by decide, by decide⟩
  obtain ⟨T11, h11, X11, e11, W11, st11⟩ := stR X10 hx hZ e10 Ar11 (j := (4 : Int32)) hin11 rfl (Sto.ofV Ar11 qk11 Ov1 (Ins.self (G.2.2.2.2.2.2.2.2.2.1.ext O9.2))) (g := (mkF m 34 #[.val (.int p1), .unset, .unset, .unset, .unset, .unset, .unset] [(.ref wW5), (.int (4 : Int32)), (.ref b1), (.ref b1)])) rfl rfl (hb hby at_34)
  have V11 := Arv.set Ar11 qk11 Sz11 Nn11 Hs11 Gs11 rfl W11 4 rfl (Nat.le_of_ble_eq_true rfl)
  have O11 := O9.wr W11 ge_b1
  have K11 := K9.wr W11 (Or.inr sz_b1)
  have N11 := Fr.snoc X11 N9 ge_b1
  obtain ⟨T12, X12, e12, st12⟩ := getS2 X11 hx hZ hown (host := "") (Or.inl (hw _ (List.mem_of_getElem? (i := 14) rfl))) Via.refl e11 (G.2.2.2.2.2.2.2.2.2.2.1.ext O11.2) (g := (mkF m 37 #[.val (.int p1), .unset, .unset, .unset, .unset, .unset, .unset] [(.int (5 : Int32)), (.ref b1), (.ref b1)])) rfl (hb hby at_37)
  obtain ⟨cl13, Ar13, qk13, Sz13, Nn13, Hs13, Gs13⟩ := id (V11)
  have hin13 : ¬ ((5 : Int32) < 0 ∨ cl13.slots.size ≤ ((5 : Int32)).toNatClampNeg) := inb_of Sz13 ⟨by decide, by decide⟩
  obtain ⟨T13, h13, X13, e13, W13, st13⟩ := stR X12 hx hZ e12 Ar13 (j := (5 : Int32)) hin13 rfl (Sto.ofV Ar13 qk13 Ov1 (Ins.self (G.2.2.2.2.2.2.2.2.2.2.2.1.ext O11.2))) (g := (mkF m 40 #[.val (.int p1), .unset, .unset, .unset, .unset, .unset, .unset] [(.ref wW6), (.int (5 : Int32)), (.ref b1), (.ref b1)])) rfl rfl (hb hby at_40)
  have V13 := Arv.set Ar13 qk13 Sz13 Nn13 Hs13 Gs13 rfl W13 5 rfl (Nat.le_of_ble_eq_true rfl)
  have O13 := O11.wr W13 ge_b1
  have K13 := K11.wr W13 (Or.inr sz_b1)
  have N13 := Fr.snoc X13 N11 ge_b1
  obtain ⟨T14, X14, e14, st14⟩ := getS2 X13 hx hZ hown (host := "") (Or.inl (hw _ (List.mem_of_getElem? (i := 16) rfl))) Via.refl e13 (G.2.2.2.2.2.2.2.2.2.2.2.2.1.ext O13.2) (g := (mkF m 44 #[.val (.int p1), .unset, .unset, .unset, .unset, .unset, .unset] [(.int (6 : Int32)), (.ref b1), (.ref b1)])) rfl (hb hby at_44)
  obtain ⟨cl15, Ar15, qk15, Sz15, Nn15, Hs15, Gs15⟩ := id (V13)
  have hin15 : ¬ ((6 : Int32) < 0 ∨ cl15.slots.size ≤ ((6 : Int32)).toNatClampNeg) := inb_of Sz15 ⟨by decide, by decide⟩
  obtain ⟨T15, h15, X15, e15, W15, st15⟩ := stR X14 hx hZ e14 Ar15 (j := (6 : Int32)) hin15 rfl (Sto.ofV Ar15 qk15 Ov1 (Ins.self (G.2.2.2.2.2.2.2.2.2.2.2.2.2.1.ext O13.2))) (g := (mkF m 47 #[.val (.int p1), .unset, .unset, .unset, .unset, .unset, .unset] [(.ref wCW1), (.int (6 : Int32)), (.ref b1), (.ref b1)])) rfl rfl (hb hby at_47)
  have V15 := Arv.set Ar15 qk15 Sz15 Nn15 Hs15 Gs15 rfl W15 6 rfl (Nat.le_of_ble_eq_true rfl)
  have O15 := O13.wr W15 ge_b1
  have K15 := K13.wr W15 (Or.inr sz_b1)
  have N15 := Fr.snoc X15 N13 ge_b1
  obtain ⟨T16, X16, e16, st16⟩ := getS2 X15 hx hZ hown (host := "") (Or.inl (hw _ (List.mem_of_getElem? (i := 18) rfl))) Via.refl e15 (G.2.2.2.2.2.2.2.2.2.2.2.2.2.2.1.ext O15.2) (g := (mkF m 51 #[.val (.int p1), .unset, .unset, .unset, .unset, .unset, .unset] [(.int (7 : Int32)), (.ref b1), (.ref b1)])) rfl (hb hby at_51)
  obtain ⟨cl17, Ar17, qk17, Sz17, Nn17, Hs17, Gs17⟩ := id (V15)
  have hin17 : ¬ ((7 : Int32) < 0 ∨ cl17.slots.size ≤ ((7 : Int32)).toNatClampNeg) := inb_of Sz17 ⟨by decide, by decide⟩
  obtain ⟨T17, h17, X17, e17, W17, st17⟩ := stR X16 hx hZ e16 Ar17 (j := (7 : Int32)) hin17 rfl (Sto.ofV Ar17 qk17 Ov1 (Ins.self (G.2.2.2.2.2.2.2.2.2.2.2.2.2.2.2.1.ext O15.2))) (g := (mkF m 54 #[.val (.int p1), .unset, .unset, .unset, .unset, .unset, .unset] [(.ref wCW2), (.int (7 : Int32)), (.ref b1), (.ref b1)])) rfl rfl (hb hby at_54)
  have V17 := Arv.set Ar17 qk17 Sz17 Nn17 Hs17 Gs17 rfl W17 7 rfl (Nat.le_of_ble_eq_true rfl)
  have O17 := O15.wr W17 ge_b1
  have K17 := K15.wr W17 (Or.inr sz_b1)
  have N17 := Fr.snoc X17 N15 ge_b1
  obtain ⟨T18, X18, e18, st18⟩ := getS2 X17 hx hZ hown (host := "") (Or.inl (hw _ (List.mem_of_getElem? (i := 20) rfl))) Via.refl e17 (G.2.2.2.2.2.2.2.2.2.2.2.2.2.2.2.2.1.ext O17.2) (g := (mkF m 58 #[.val (.int p1), .unset, .unset, .unset, .unset, .unset, .unset] [(.int (8 : Int32)), (.ref b1), (.ref b1)])) rfl (hb hby at_58)
  obtain ⟨cl19, Ar19, qk19, Sz19, Nn19, Hs19, Gs19⟩ := id (V17)
  have hin19 : ¬ ((8 : Int32) < 0 ∨ cl19.slots.size ≤ ((8 : Int32)).toNatClampNeg) := inb_of Sz19 ⟨by decide, by decide⟩
  obtain ⟨T19, h19, X19, e19, W19, st19⟩ := stR X18 hx hZ e18 Ar19 (j := (8 : Int32)) hin19 rfl (Sto.ofV Ar19 qk19 Ov1 (Ins.self (G.2.2.2.2.2.2.2.2.2.2.2.2.2.2.2.2.2.1.ext O17.2))) (g := (mkF m 61 #[.val (.int p1), .unset, .unset, .unset, .unset, .unset, .unset] [(.ref wCW3), (.int (8 : Int32)), (.ref b1), (.ref b1)])) rfl rfl (hb hby at_61)
  have V19 := Arv.set Ar19 qk19 Sz19 Nn19 Hs19 Gs19 rfl W19 8 rfl (Nat.le_of_ble_eq_true rfl)
  have O19 := O17.wr W19 ge_b1
  have K19 := K17.wr W19 (Or.inr sz_b1)
  have N19 := Fr.snoc X19 N17 ge_b1
  obtain ⟨T20, X20, e20, st20⟩ := getS2 X19 hx hZ hown (host := "") (Or.inl (hw _ (List.mem_of_getElem? (i := 22) rfl))) Via.refl e19 (G.2.2.2.2.2.2.2.2.2.2.2.2.2.2.2.2.2.2.1.ext O19.2) (g := (mkF m 65 #[.val (.int p1), .unset, .unset, .unset, .unset, .unset, .unset] [(.int (9 : Int32)), (.ref b1), (.ref b1)])) rfl (hb hby at_65)
  obtain ⟨cl21, Ar21, qk21, Sz21, Nn21, Hs21, Gs21⟩ := id (V19)
  have hin21 : ¬ ((9 : Int32) < 0 ∨ cl21.slots.size ≤ ((9 : Int32)).toNatClampNeg) := inb_of Sz21 ⟨by decide, by decide⟩
  obtain ⟨T21, h21, X21, e21, W21, st21⟩ := stR X20 hx hZ e20 Ar21 (j := (9 : Int32)) hin21 rfl (Sto.ofV Ar21 qk21 Ov1 (Ins.self (G.2.2.2.2.2.2.2.2.2.2.2.2.2.2.2.2.2.2.2.1.ext O19.2))) (g := (mkF m 68 #[.val (.int p1), .unset, .unset, .unset, .unset, .unset, .unset] [(.ref wCW4), (.int (9 : Int32)), (.ref b1), (.ref b1)])) rfl rfl (hb hby at_68)
  have V21 := Arv.set Ar21 qk21 Sz21 Nn21 Hs21 Gs21 rfl W21 9 rfl (Nat.le_of_ble_eq_true rfl)
  have O21 := O19.wr W21 ge_b1
  have K21 := K19.wr W21 (Or.inr sz_b1)
  have N21 := Fr.snoc X21 N19 ge_b1
  obtain ⟨T22, X22, e22, st22⟩ := getS2 X21 hx hZ hown (host := "") (Or.inl (hw _ (List.mem_of_getElem? (i := 24) rfl))) Via.refl e21 (G.2.2.2.2.2.2.2.2.2.2.2.2.2.2.2.2.2.2.2.2.1.ext O21.2) (g := (mkF m 72 #[.val (.int p1), .unset, .unset, .unset, .unset, .unset, .unset] [(.int (10 : Int32)), (.ref b1), (.ref b1)])) rfl (hb hby at_72)
  obtain ⟨cl23, Ar23, qk23, Sz23, Nn23, Hs23, Gs23⟩ := id (V21)
  have hin23 : ¬ ((10 : Int32) < 0 ∨ cl23.slots.size ≤ ((10 : Int32)).toNatClampNeg) := inb_of Sz23 ⟨by decide, by decide⟩
  obtain ⟨T23, h23, X23, e23, W23, st23⟩ := stR X22 hx hZ e22 Ar23 (j := (10 : Int32)) hin23 rfl (Sto.ofV Ar23 qk23 Ov1 (Ins.self (G.2.2.2.2.2.2.2.2.2.2.2.2.2.2.2.2.2.2.2.2.2.1.ext O21.2))) (g := (mkF m 75 #[.val (.int p1), .unset, .unset, .unset, .unset, .unset, .unset] [(.ref wCW5), (.int (10 : Int32)), (.ref b1), (.ref b1)])) rfl rfl (hb hby at_75)
  have V23 := Arv.set Ar23 qk23 Sz23 Nn23 Hs23 Gs23 rfl W23 10 rfl (Nat.le_of_ble_eq_true rfl)
  have O23 := O21.wr W23 ge_b1
  have K23 := K21.wr W23 (Or.inr sz_b1)
  have N23 := Fr.snoc X23 N21 ge_b1
  obtain ⟨T24, X24, e24, st24⟩ := getS2 X23 hx hZ hown (host := "") (Or.inl (hw _ (List.mem_of_getElem? (i := 26) rfl))) Via.refl e23 (G.2.2.2.2.2.2.2.2.2.2.2.2.2.2.2.2.2.2.2.2.2.2.1.ext O23.2) (g := (mkF m 79 #[.val (.int p1), .unset, .unset, .unset, .unset, .unset, .unset] [(.int (11 : Int32)), (.ref b1), (.ref b1)])) rfl (hb hby at_79)
  obtain ⟨cl25, Ar25, qk25, Sz25, Nn25, Hs25, Gs25⟩ := id (V23)
  have hin25 : ¬ ((11 : Int32) < 0 ∨ cl25.slots.size ≤ ((11 : Int32)).toNatClampNeg) := inb_of Sz25 ⟨by decide, by decide⟩
  obtain ⟨T25, h25, X25, e25, W25, st25⟩ := stR X24 hx hZ e24 Ar25 (j := (11 : Int32)) hin25 rfl (Sto.ofV Ar25 qk25 Ov1 (Ins.self (G.2.2.2.2.2.2.2.2.2.2.2.2.2.2.2.2.2.2.2.2.2.2.2.1.ext O23.2))) (g := (mkF m 82 #[.val (.int p1), .unset, .unset, .unset, .unset, .unset, .unset] [(.ref wCW6), (.int (11 : Int32)), (.ref b1), (.ref b1)])) rfl rfl (hb hby at_82)
  have V25 := Arv.set Ar25 qk25 Sz25 Nn25 Hs25 Gs25 rfl W25 11 rfl (Nat.le_of_ble_eq_true rfl)
  have O25 := O23.wr W25 ge_b1
  have K25 := K23.wr W25 (Or.inr sz_b1)
  have N25 := Fr.snoc X25 N23 ge_b1
  obtain ⟨cl26, Ar26, qk26, Sz26, Nn26, Hs26, Gs26⟩ := id (V25)
  have hin27 : ¬ ((7 : Int32) < 0 ∨ cl26.slots.size ≤ ((7 : Int32)).toNatClampNeg) := inb_of Sz26 ⟨by decide, by decide⟩
  have hat27 : cl26.slots[((7 : Int32)).toNatClampNeg]? = some (.ref wCW2) := Hs26.at hin27 rfl
  obtain ⟨cq28, kq28, q28a, q28b, q28c⟩ := isOf hZ e25 (G.2.2.2.2.2.2.2.2.2.2.2.2.2.2.2.1.ext O25.2)
  obtain ⟨_, _, ⟨T28, L28, k28, n28⟩, -, X28, ⟨Lc28, hQ28, l28, y28, z28⟩, st28⟩ := X25.virtualBack hx (y := (⟨"com/example/credlib/credlib/engine/Rule", "statesCredential", "()Z"⟩ : MethodName)) (z := (⟨"com/example/credlib/credlib/engine/Rule", "statesCredential", "()Z"⟩ : MethodName)) hown (mvT hZ (hw _ (List.mem_of_getElem? (i := 29) rfl))) (mvT hZ (hw _ (List.mem_of_getElem? (i := 30) rfl))) (notFace_of_selects (args := #[]) (mvT hZ (hw _ (List.mem_of_getElem? (i := 32) rfl)))) (mvT hZ (hw _ (List.mem_of_getElem? (i := 32) rfl))) (mvT hZ (hw _ (List.mem_of_getElem? (i := 31) rfl))) (by decide) (backOf (W := 0) (own_statesCredential_7 l Z a0 hw [] wW1 wW2 wW3 wW4 wW5 wW6 wCW1 wCW2 wCW3 wCW4 wCW5 wCW6 G h25 n0 O25) hZ (hw _ (List.mem_of_getElem? (i := 33) rfl)) (hw _ (List.mem_of_getElem? (i := 3) rfl)) (by decide) (by decide)) q28a q28c (g := (mkF m 111 #[.val (.int p1), .val (.ref b1), .val (.int (7 : Int32)), .val (.ref wCW2), .val (.int (0 : Int32)), .unset, .unset] [(.ref wCW2)])) rfl (by rw [hml]; rfl) (Steps.refl _) (argsL := []) (rest := []) (lenOf own_pd_0 rfl) rfl (by show 2 * 0 + _ ≤ _; exact Nat.le_of_eq rfl) (hb hby at_111) (fun _ _ => ⟨rfl, e25, (by decide : 1 + 0 ≤ _), (by decide : 12 + 0 ≤ _)⟩)
  dsimp only [Pt.U, Pt.locs, Pt.cells, Pt.slots] at X28 l28 y28 z28 st28 hQ28
  subst l28 y28 z28
  obtain ⟨rfl, N28q, e28⟩ := hQ28
  have N28 := Fr.app N25 N28q
  obtain ⟨cq29, kq29, q29a, q29b, q29c⟩ := isOf hZ e28 (G.2.2.2.2.2.2.2.2.2.2.2.2.2.2.2.1.ext O25.2)
  obtain ⟨_, _, ⟨T29, L29, k29, n29⟩, -, X29, ⟨Lc29, hQ29, l29, y29, z29⟩, st29⟩ := X28.virtualBack hx (y := (⟨"com/example/credlib/credlib/engine/Rule", "atInstant", "()Lcom/example/credlib/credlib/engine/Rule;"⟩ : MethodName)) (z := (⟨"com/example/credlib/credlib/engine/Rule", "atInstant", "()Lcom/example/credlib/credlib/engine/Rule;"⟩ : MethodName)) hown (mvT hZ (hw _ (List.mem_of_getElem? (i := 35) rfl))) (mvT hZ (hw _ (List.mem_of_getElem? (i := 36) rfl))) (notFace_of_selects (args := #[]) (mvT hZ (hw _ (List.mem_of_getElem? (i := 38) rfl)))) (mvT hZ (hw _ (List.mem_of_getElem? (i := 38) rfl))) (mvT hZ (hw _ (List.mem_of_getElem? (i := 37) rfl))) (by decide) (backOf (W := 0) (own_atInstant_26 l Z a0 hw [] wW1 wW2 wW3 wW4 wW5 wW6 wCW1 wCW2 wCW3 wCW4 wCW5 wCW6 G h25 n0 O25) hZ (hw _ (List.mem_of_getElem? (i := 39) rfl)) (hw _ (List.mem_of_getElem? (i := 3) rfl)) (by decide) (by decide)) q29a q29c (g := (mkF m 117 #[.val (.int p1), .val (.ref b1), .val (.int (7 : Int32)), .val (.ref wCW2), .val (.int (0 : Int32)), .val (.int (0 : Int32)), .unset] [(.ref wCW2)])) rfl (by rw [hml]; rfl) (Steps.refl _) (argsL := []) (rest := []) (lenOf own_pd_2 rfl) rfl (by show 2 * 0 + _ ≤ _; exact Nat.le_of_eq rfl) (hb hby at_117) (fun _ _ => ⟨rfl, e28, (by decide : 1 + 0 ≤ _), (by decide : 12 + 0 ≤ _)⟩)
  dsimp only [Pt.U, Pt.locs, Pt.cells, Pt.slots] at X29 l29 y29 z29 st29 hQ29
  subst l29 y29 z29
  obtain ⟨rfl, N29q, e29⟩ := hQ29
  have N29 := Fr.app N28 N29q
  obtain ⟨cq30, kq30, q30a, q30b, q30c⟩ := isOf hZ e29 (G.2.2.2.2.2.2.2.2.2.2.2.2.2.2.2.1.ext O25.2)
  obtain ⟨_, _, ⟨T30, L30, k30, n30⟩, -, X30, ⟨Lc30, hQ30, l30, y30, z30⟩, st30⟩ := X29.virtualBack hx (y := (⟨"com/example/credlib/credlib/engine/Rule", "statesCredential", "()Z"⟩ : MethodName)) (z := (⟨"com/example/credlib/credlib/engine/Rule", "statesCredential", "()Z"⟩ : MethodName)) hown (mvT hZ (hw _ (List.mem_of_getElem? (i := 29) rfl))) (mvT hZ (hw _ (List.mem_of_getElem? (i := 30) rfl))) (notFace_of_selects (args := #[]) (mvT hZ (hw _ (List.mem_of_getElem? (i := 32) rfl)))) (mvT hZ (hw _ (List.mem_of_getElem? (i := 32) rfl))) (mvT hZ (hw _ (List.mem_of_getElem? (i := 31) rfl))) (by decide) (backOf (W := 0) (own_statesCredential_7 l Z a0 hw [] wW1 wW2 wW3 wW4 wW5 wW6 wCW1 wCW2 wCW3 wCW4 wCW5 wCW6 G h25 n0 O25) hZ (hw _ (List.mem_of_getElem? (i := 33) rfl)) (hw _ (List.mem_of_getElem? (i := 3) rfl)) (by decide) (by decide)) q30a q30c (g := (mkF m 120 #[.val (.int p1), .val (.ref b1), .val (.int (7 : Int32)), .val (.ref wCW2), .val (.int (0 : Int32)), .val (.int (0 : Int32)), .unset] [(.ref wCW2)])) rfl (by rw [hml]; rfl) (Steps.refl _) (argsL := []) (rest := []) (lenOf own_pd_0 rfl) rfl (by show 2 * 0 + _ ≤ _; exact Nat.le_of_eq rfl) (hb hby at_120) (fun _ _ => ⟨rfl, e29, (by decide : 1 + 0 ≤ _), (by decide : 12 + 0 ≤ _)⟩)
  dsimp only [Pt.U, Pt.locs, Pt.cells, Pt.slots] at X30 l30 y30 z30 st30 hQ30
  subst l30 y30 z30
  obtain ⟨rfl, N30q, e30⟩ := hQ30
  have N30 := Fr.app N29 N30q
  obtain ⟨fs, hr, hrun, hended, hW, hsame⟩ := X30.leave (v := some (.int (1 : Int32))) (fun h => by rw [Bd.returns] at h; cases h)
  refine ⟨_, _, pre0 _ ?_, hrun, hended, _, _, rfl, ?_, ⟨_, rfl⟩, hW, hsame.mono (by decide) (by decide)⟩
  · show Steps p.tables e below (s₁.setTop (mkF m 0 #[.val (.int p1), .unset, .unset, .unset, .unset, .unset, .unset] [])) _
    refine XS.bipush X0.here hx rfl (hb hby at_0) ?_
    show Steps p.tables e below (s₁.setTop (mkF m 2 #[.val (.int p1), .unset, .unset, .unset, .unset, .unset, .unset] [(.int (12 : Int32))])) _
    refine st1 _ ?_
    show Steps p.tables e below (T1.setTop (mkF m 5 #[.val (.int p1), .unset, .unset, .unset, .unset, .unset, .unset] [(.ref b1)])) _
    refine XS.dup X1.here hx rfl (hb hby at_5) rfl rfl ?_
    show Steps p.tables e below (T1.setTop (mkF m 6 #[.val (.int p1), .unset, .unset, .unset, .unset, .unset, .unset] [(.ref b1), (.ref b1)])) _
    refine XS.iconst X1.here hx rfl (hb hby at_6) ?_
    show Steps p.tables e below (T1.setTop (mkF m 7 #[.val (.int p1), .unset, .unset, .unset, .unset, .unset, .unset] [(.int (0 : Int32)), (.ref b1), (.ref b1)])) _
    refine st2 _ ?_
    show Steps p.tables e below (T2.setTop (mkF m 10 #[.val (.int p1), .unset, .unset, .unset, .unset, .unset, .unset] [(.ref wW1), (.int (0 : Int32)), (.ref b1), (.ref b1)])) _
    refine st3 _ ?_
    show Steps p.tables e below (T3.setTop (mkF m 11 #[.val (.int p1), .unset, .unset, .unset, .unset, .unset, .unset] [(.ref b1)])) _
    refine XS.dup X3.here hx rfl (hb hby at_11) rfl rfl ?_
    show Steps p.tables e below (T3.setTop (mkF m 12 #[.val (.int p1), .unset, .unset, .unset, .unset, .unset, .unset] [(.ref b1), (.ref b1)])) _
    refine XS.iconst X3.here hx rfl (hb hby at_12) ?_
    show Steps p.tables e below (T3.setTop (mkF m 13 #[.val (.int p1), .unset, .unset, .unset, .unset, .unset, .unset] [(.int (1 : Int32)), (.ref b1), (.ref b1)])) _
    refine st4 _ ?_
    show Steps p.tables e below (T4.setTop (mkF m 16 #[.val (.int p1), .unset, .unset, .unset, .unset, .unset, .unset] [(.ref wW2), (.int (1 : Int32)), (.ref b1), (.ref b1)])) _
    refine st5 _ ?_
    show Steps p.tables e below (T5.setTop (mkF m 17 #[.val (.int p1), .unset, .unset, .unset, .unset, .unset, .unset] [(.ref b1)])) _
    refine XS.dup X5.here hx rfl (hb hby at_17) rfl rfl ?_
    show Steps p.tables e below (T5.setTop (mkF m 18 #[.val (.int p1), .unset, .unset, .unset, .unset, .unset, .unset] [(.ref b1), (.ref b1)])) _
    refine XS.iconst X5.here hx rfl (hb hby at_18) ?_
    show Steps p.tables e below (T5.setTop (mkF m 19 #[.val (.int p1), .unset, .unset, .unset, .unset, .unset, .unset] [(.int (2 : Int32)), (.ref b1), (.ref b1)])) _
    refine st6 _ ?_
    show Steps p.tables e below (T6.setTop (mkF m 22 #[.val (.int p1), .unset, .unset, .unset, .unset, .unset, .unset] [(.ref wW3), (.int (2 : Int32)), (.ref b1), (.ref b1)])) _
    refine st7 _ ?_
    show Steps p.tables e below (T7.setTop (mkF m 23 #[.val (.int p1), .unset, .unset, .unset, .unset, .unset, .unset] [(.ref b1)])) _
    refine XS.dup X7.here hx rfl (hb hby at_23) rfl rfl ?_
    show Steps p.tables e below (T7.setTop (mkF m 24 #[.val (.int p1), .unset, .unset, .unset, .unset, .unset, .unset] [(.ref b1), (.ref b1)])) _
    refine XS.iconst X7.here hx rfl (hb hby at_24) ?_
    show Steps p.tables e below (T7.setTop (mkF m 25 #[.val (.int p1), .unset, .unset, .unset, .unset, .unset, .unset] [(.int (3 : Int32)), (.ref b1), (.ref b1)])) _
    refine st8 _ ?_
    show Steps p.tables e below (T8.setTop (mkF m 28 #[.val (.int p1), .unset, .unset, .unset, .unset, .unset, .unset] [(.ref wW4), (.int (3 : Int32)), (.ref b1), (.ref b1)])) _
    refine st9 _ ?_
    show Steps p.tables e below (T9.setTop (mkF m 29 #[.val (.int p1), .unset, .unset, .unset, .unset, .unset, .unset] [(.ref b1)])) _
    refine XS.dup X9.here hx rfl (hb hby at_29) rfl rfl ?_
    show Steps p.tables e below (T9.setTop (mkF m 30 #[.val (.int p1), .unset, .unset, .unset, .unset, .unset, .unset] [(.ref b1), (.ref b1)])) _
    refine XS.iconst X9.here hx rfl (hb hby at_30) ?_
    show Steps p.tables e below (T9.setTop (mkF m 31 #[.val (.int p1), .unset, .unset, .unset, .unset, .unset, .unset] [(.int (4 : Int32)), (.ref b1), (.ref b1)])) _
    refine st10 _ ?_
    show Steps p.tables e below (T10.setTop (mkF m 34 #[.val (.int p1), .unset, .unset, .unset, .unset, .unset, .unset] [(.ref wW5), (.int (4 : Int32)), (.ref b1), (.ref b1)])) _
    refine st11 _ ?_
    show Steps p.tables e below (T11.setTop (mkF m 35 #[.val (.int p1), .unset, .unset, .unset, .unset, .unset, .unset] [(.ref b1)])) _
    refine XS.dup X11.here hx rfl (hb hby at_35) rfl rfl ?_
    show Steps p.tables e below (T11.setTop (mkF m 36 #[.val (.int p1), .unset, .unset, .unset, .unset, .unset, .unset] [(.ref b1), (.ref b1)])) _
    refine XS.iconst X11.here hx rfl (hb hby at_36) ?_
    show Steps p.tables e below (T11.setTop (mkF m 37 #[.val (.int p1), .unset, .unset, .unset, .unset, .unset, .unset] [(.int (5 : Int32)), (.ref b1), (.ref b1)])) _
    refine st12 _ ?_
    show Steps p.tables e below (T12.setTop (mkF m 40 #[.val (.int p1), .unset, .unset, .unset, .unset, .unset, .unset] [(.ref wW6), (.int (5 : Int32)), (.ref b1), (.ref b1)])) _
    refine st13 _ ?_
    show Steps p.tables e below (T13.setTop (mkF m 41 #[.val (.int p1), .unset, .unset, .unset, .unset, .unset, .unset] [(.ref b1)])) _
    refine XS.dup X13.here hx rfl (hb hby at_41) rfl rfl ?_
    show Steps p.tables e below (T13.setTop (mkF m 42 #[.val (.int p1), .unset, .unset, .unset, .unset, .unset, .unset] [(.ref b1), (.ref b1)])) _
    refine XS.bipush X13.here hx rfl (hb hby at_42) ?_
    show Steps p.tables e below (T13.setTop (mkF m 44 #[.val (.int p1), .unset, .unset, .unset, .unset, .unset, .unset] [(.int (6 : Int32)), (.ref b1), (.ref b1)])) _
    refine st14 _ ?_
    show Steps p.tables e below (T14.setTop (mkF m 47 #[.val (.int p1), .unset, .unset, .unset, .unset, .unset, .unset] [(.ref wCW1), (.int (6 : Int32)), (.ref b1), (.ref b1)])) _
    refine st15 _ ?_
    show Steps p.tables e below (T15.setTop (mkF m 48 #[.val (.int p1), .unset, .unset, .unset, .unset, .unset, .unset] [(.ref b1)])) _
    refine XS.dup X15.here hx rfl (hb hby at_48) rfl rfl ?_
    show Steps p.tables e below (T15.setTop (mkF m 49 #[.val (.int p1), .unset, .unset, .unset, .unset, .unset, .unset] [(.ref b1), (.ref b1)])) _
    refine XS.bipush X15.here hx rfl (hb hby at_49) ?_
    show Steps p.tables e below (T15.setTop (mkF m 51 #[.val (.int p1), .unset, .unset, .unset, .unset, .unset, .unset] [(.int (7 : Int32)), (.ref b1), (.ref b1)])) _
    refine st16 _ ?_
    show Steps p.tables e below (T16.setTop (mkF m 54 #[.val (.int p1), .unset, .unset, .unset, .unset, .unset, .unset] [(.ref wCW2), (.int (7 : Int32)), (.ref b1), (.ref b1)])) _
    refine st17 _ ?_
    show Steps p.tables e below (T17.setTop (mkF m 55 #[.val (.int p1), .unset, .unset, .unset, .unset, .unset, .unset] [(.ref b1)])) _
    refine XS.dup X17.here hx rfl (hb hby at_55) rfl rfl ?_
    show Steps p.tables e below (T17.setTop (mkF m 56 #[.val (.int p1), .unset, .unset, .unset, .unset, .unset, .unset] [(.ref b1), (.ref b1)])) _
    refine XS.bipush X17.here hx rfl (hb hby at_56) ?_
    show Steps p.tables e below (T17.setTop (mkF m 58 #[.val (.int p1), .unset, .unset, .unset, .unset, .unset, .unset] [(.int (8 : Int32)), (.ref b1), (.ref b1)])) _
    refine st18 _ ?_
    show Steps p.tables e below (T18.setTop (mkF m 61 #[.val (.int p1), .unset, .unset, .unset, .unset, .unset, .unset] [(.ref wCW3), (.int (8 : Int32)), (.ref b1), (.ref b1)])) _
    refine st19 _ ?_
    show Steps p.tables e below (T19.setTop (mkF m 62 #[.val (.int p1), .unset, .unset, .unset, .unset, .unset, .unset] [(.ref b1)])) _
    refine XS.dup X19.here hx rfl (hb hby at_62) rfl rfl ?_
    show Steps p.tables e below (T19.setTop (mkF m 63 #[.val (.int p1), .unset, .unset, .unset, .unset, .unset, .unset] [(.ref b1), (.ref b1)])) _
    refine XS.bipush X19.here hx rfl (hb hby at_63) ?_
    show Steps p.tables e below (T19.setTop (mkF m 65 #[.val (.int p1), .unset, .unset, .unset, .unset, .unset, .unset] [(.int (9 : Int32)), (.ref b1), (.ref b1)])) _
    refine st20 _ ?_
    show Steps p.tables e below (T20.setTop (mkF m 68 #[.val (.int p1), .unset, .unset, .unset, .unset, .unset, .unset] [(.ref wCW4), (.int (9 : Int32)), (.ref b1), (.ref b1)])) _
    refine st21 _ ?_
    show Steps p.tables e below (T21.setTop (mkF m 69 #[.val (.int p1), .unset, .unset, .unset, .unset, .unset, .unset] [(.ref b1)])) _
    refine XS.dup X21.here hx rfl (hb hby at_69) rfl rfl ?_
    show Steps p.tables e below (T21.setTop (mkF m 70 #[.val (.int p1), .unset, .unset, .unset, .unset, .unset, .unset] [(.ref b1), (.ref b1)])) _
    refine XS.bipush X21.here hx rfl (hb hby at_70) ?_
    show Steps p.tables e below (T21.setTop (mkF m 72 #[.val (.int p1), .unset, .unset, .unset, .unset, .unset, .unset] [(.int (10 : Int32)), (.ref b1), (.ref b1)])) _
    refine st22 _ ?_
    show Steps p.tables e below (T22.setTop (mkF m 75 #[.val (.int p1), .unset, .unset, .unset, .unset, .unset, .unset] [(.ref wCW5), (.int (10 : Int32)), (.ref b1), (.ref b1)])) _
    refine st23 _ ?_
    show Steps p.tables e below (T23.setTop (mkF m 76 #[.val (.int p1), .unset, .unset, .unset, .unset, .unset, .unset] [(.ref b1)])) _
    refine XS.dup X23.here hx rfl (hb hby at_76) rfl rfl ?_
    show Steps p.tables e below (T23.setTop (mkF m 77 #[.val (.int p1), .unset, .unset, .unset, .unset, .unset, .unset] [(.ref b1), (.ref b1)])) _
    refine XS.bipush X23.here hx rfl (hb hby at_77) ?_
    show Steps p.tables e below (T23.setTop (mkF m 79 #[.val (.int p1), .unset, .unset, .unset, .unset, .unset, .unset] [(.int (11 : Int32)), (.ref b1), (.ref b1)])) _
    refine st24 _ ?_
    show Steps p.tables e below (T24.setTop (mkF m 82 #[.val (.int p1), .unset, .unset, .unset, .unset, .unset, .unset] [(.ref wCW6), (.int (11 : Int32)), (.ref b1), (.ref b1)])) _
    refine st25 _ ?_
    show Steps p.tables e below (T25.setTop (mkF m 83 #[.val (.int p1), .unset, .unset, .unset, .unset, .unset, .unset] [(.ref b1)])) _
    refine XS.astoreN X25.here hx rfl (hb hby at_83) rfl rfl (l' := #[.val (.int p1), .val (.ref b1), .unset, .unset, .unset, .unset, .unset]) rfl ?_
    show Steps p.tables e below (T25.setTop (mkF m 84 #[.val (.int p1), .val (.ref b1), .unset, .unset, .unset, .unset, .unset] [])) _
    refine XS.iloadN X25.here hx rfl (hb hby at_84) rfl ?_
    show Steps p.tables e below (T25.setTop (mkF m 85 #[.val (.int p1), .val (.ref b1), .unset, .unset, .unset, .unset, .unset] [(.int p1)])) _
    refine Jvm.Stand.ldcI X25 hx hown (mvT hZ (hw _ (List.mem_of_getElem? (i := 28) rfl))) rfl (hb hby at_85) ?_
    show Steps p.tables e below (T25.setTop (mkF m 87 #[.val (.int p1), .val (.ref b1), .unset, .unset, .unset, .unset, .unset] [(.int (2147483647 : Int32)), (.int p1)])) _
    refine XS.iand X25.here hx rfl (hb hby at_87) rfl ?_
    show Steps p.tables e below (T25.setTop (mkF m 88 #[.val (.int p1), .val (.ref b1), .unset, .unset, .unset, .unset, .unset] [(.int (p1 &&& (2147483647 : Int32)))])) _
    refine XS.bipush X25.here hx rfl (hb hby at_88) ?_
    show Steps p.tables e below (T25.setTop (mkF m 90 #[.val (.int p1), .val (.ref b1), .unset, .unset, .unset, .unset, .unset] [(.int (12 : Int32)), (.int (p1 &&& (2147483647 : Int32)))])) _
    refine iremM X25 hx rfl (hb hby at_90) rfl (by decide) ?_
    show Steps p.tables e below (T25.setTop (mkF m 91 #[.val (.int p1), .val (.ref b1), .unset, .unset, .unset, .unset, .unset] [(.int ((p1 &&& (2147483647 : Int32)) % (12 : Int32)))])) _
    refine castTop (g' := (mkF m 91 #[.val (.int p1), .val (.ref b1), .unset, .unset, .unset, .unset, .unset] [(.int (7 : Int32))])) (by rw [hi]) ?_
    show Steps p.tables e below (T25.setTop (mkF m 91 #[.val (.int p1), .val (.ref b1), .unset, .unset, .unset, .unset, .unset] [(.int (7 : Int32))])) _
    refine XS.istoreN X25.here hx rfl (hb hby at_91) rfl (l' := #[.val (.int p1), .val (.ref b1), .val (.int (7 : Int32)), .unset, .unset, .unset, .unset]) rfl ?_
    show Steps p.tables e below (T25.setTop (mkF m 92 #[.val (.int p1), .val (.ref b1), .val (.int (7 : Int32)), .unset, .unset, .unset, .unset] [])) _
    refine XS.aloadN X25.here hx rfl (hb hby at_92) rfl rfl ?_
    show Steps p.tables e below (T25.setTop (mkF m 93 #[.val (.int p1), .val (.ref b1), .val (.int (7 : Int32)), .unset, .unset, .unset, .unset] [(.ref b1)])) _
    refine XS.iloadN X25.here hx rfl (hb hby at_93) rfl ?_
    show Steps p.tables e below (T25.setTop (mkF m 94 #[.val (.int p1), .val (.ref b1), .val (.int (7 : Int32)), .unset, .unset, .unset, .unset] [(.int (7 : Int32)), (.ref b1)])) _
    refine X25.aaload hx (j := (7 : Int32)) (v := (.ref wCW2)) (by rw [e25]; exact Ar26.1) (State.isArrayOf_alike hZ.alike Ar26.2.1) rfl Ar26.2.2 hin27 hat27 (g := (mkF m 94 #[.val (.int p1), .val (.ref b1), .val (.int (7 : Int32)), .unset, .unset, .unset, .unset] [(.int (7 : Int32)), (.ref b1)])) rfl rfl (hb hby at_94) _ ?_
    show Steps p.tables e below (T25.setTop (mkF m 95 #[.val (.int p1), .val (.ref b1), .val (.int (7 : Int32)), .unset, .unset, .unset, .unset] [(.ref wCW2)])) _
    refine XS.astoreN X25.here hx rfl (hb hby at_95) rfl rfl (l' := #[.val (.int p1), .val (.ref b1), .val (.int (7 : Int32)), .val (.ref wCW2), .unset, .unset, .unset]) rfl ?_
    show Steps p.tables e below (T25.setTop (mkF m 96 #[.val (.int p1), .val (.ref b1), .val (.int (7 : Int32)), .val (.ref wCW2), .unset, .unset, .unset] [])) _
    refine XS.iloadN X25.here hx rfl (hb hby at_96) rfl ?_
    show Steps p.tables e below (T25.setTop (mkF m 97 #[.val (.int p1), .val (.ref b1), .val (.int (7 : Int32)), .val (.ref wCW2), .unset, .unset, .unset] [(.int (7 : Int32))])) _
    refine XS.bipush X25.here hx rfl (hb hby at_97) ?_
    show Steps p.tables e below (T25.setTop (mkF m 99 #[.val (.int p1), .val (.ref b1), .val (.int (7 : Int32)), .val (.ref wCW2), .unset, .unset, .unset] [(.int (6 : Int32)), (.int (7 : Int32))])) _
    refine iremM X25 hx rfl (hb hby at_99) rfl (by decide) ?_
    show Steps p.tables e below (T25.setTop (mkF m 100 #[.val (.int p1), .val (.ref b1), .val (.int (7 : Int32)), .val (.ref wCW2), .unset, .unset, .unset] [(.int ((7 : Int32) % (6 : Int32)))])) _
    refine castTop (g' := (mkF m 100 #[.val (.int p1), .val (.ref b1), .val (.int (7 : Int32)), .val (.ref wCW2), .unset, .unset, .unset] [(.int (1 : Int32))])) (by rw [show ((7 : Int32) % (6 : Int32)) = (1 : Int32) from by decide]) ?_
    show Steps p.tables e below (T25.setTop (mkF m 100 #[.val (.int p1), .val (.ref b1), .val (.int (7 : Int32)), .val (.ref wCW2), .unset, .unset, .unset] [(.int (1 : Int32))])) _
    refine XS.ifYes X25.here hx rfl (pc0 := 100) (pc' := 107) rfl (hb hby at_100) rfl (by decide) (by decide) (by decide) ?_
    show Steps p.tables e below (T25.setTop (mkF m 107 #[.val (.int p1), .val (.ref b1), .val (.int (7 : Int32)), .val (.ref wCW2), .unset, .unset, .unset] [])) _
    refine XS.iconst X25.here hx rfl (hb hby at_107) ?_
    show Steps p.tables e below (T25.setTop (mkF m 108 #[.val (.int p1), .val (.ref b1), .val (.int (7 : Int32)), .val (.ref wCW2), .unset, .unset, .unset] [(.int (0 : Int32))])) _
    refine XS.istore X25.here hx rfl (hb hby at_108) rfl (l' := #[.val (.int p1), .val (.ref b1), .val (.int (7 : Int32)), .val (.ref wCW2), .val (.int (0 : Int32)), .unset, .unset]) rfl ?_
    show Steps p.tables e below (T25.setTop (mkF m 110 #[.val (.int p1), .val (.ref b1), .val (.int (7 : Int32)), .val (.ref wCW2), .val (.int (0 : Int32)), .unset, .unset] [])) _
    refine XS.aloadN X25.here hx rfl (hb hby at_110) rfl rfl ?_
    show Steps p.tables e below (T25.setTop (mkF m 111 #[.val (.int p1), .val (.ref b1), .val (.int (7 : Int32)), .val (.ref wCW2), .val (.int (0 : Int32)), .unset, .unset] [(.ref wCW2)])) _
    refine st28.trans ?_
    show Steps p.tables e below (T28.setTop (mkF m 114 #[.val (.int p1), .val (.ref b1), .val (.int (7 : Int32)), .val (.ref wCW2), .val (.int (0 : Int32)), .unset, .unset] [(.int (0 : Int32))])) _
    refine XS.istore X28.here hx rfl (hb hby at_114) rfl (l' := #[.val (.int p1), .val (.ref b1), .val (.int (7 : Int32)), .val (.ref wCW2), .val (.int (0 : Int32)), .val (.int (0 : Int32)), .unset]) rfl ?_
    show Steps p.tables e below (T28.setTop (mkF m 116 #[.val (.int p1), .val (.ref b1), .val (.int (7 : Int32)), .val (.ref wCW2), .val (.int (0 : Int32)), .val (.int (0 : Int32)), .unset] [])) _
    refine XS.aloadN X28.here hx rfl (hb hby at_116) rfl rfl ?_
    show Steps p.tables e below (T28.setTop (mkF m 117 #[.val (.int p1), .val (.ref b1), .val (.int (7 : Int32)), .val (.ref wCW2), .val (.int (0 : Int32)), .val (.int (0 : Int32)), .unset] [(.ref wCW2)])) _
    refine st29.trans ?_
    show Steps p.tables e below (T29.setTop (mkF m 120 #[.val (.int p1), .val (.ref b1), .val (.int (7 : Int32)), .val (.ref wCW2), .val (.int (0 : Int32)), .val (.int (0 : Int32)), .unset] [(.ref wCW2)])) _
    refine st30.trans ?_
    show Steps p.tables e below (T30.setTop (mkF m 123 #[.val (.int p1), .val (.ref b1), .val (.int (7 : Int32)), .val (.ref wCW2), .val (.int (0 : Int32)), .val (.int (0 : Int32)), .unset] [(.int (0 : Int32))])) _
    refine XS.istore X30.here hx rfl (hb hby at_123) rfl (l' := #[.val (.int p1), .val (.ref b1), .val (.int (7 : Int32)), .val (.ref wCW2), .val (.int (0 : Int32)), .val (.int (0 : Int32)), .val (.int (0 : Int32))]) rfl ?_
    show Steps p.tables e below (T30.setTop (mkF m 125 #[.val (.int p1), .val (.ref b1), .val (.int (7 : Int32)), .val (.ref wCW2), .val (.int (0 : Int32)), .val (.int (0 : Int32)), .val (.int (0 : Int32))] [])) _
    refine XS.iload X30.here hx rfl (hb hby at_125) rfl ?_
    show Steps p.tables e below (T30.setTop (mkF m 127 #[.val (.int p1), .val (.ref b1), .val (.int (7 : Int32)), .val (.ref wCW2), .val (.int (0 : Int32)), .val (.int (0 : Int32)), .val (.int (0 : Int32))] [(.int (0 : Int32))])) _
    refine XS.iload X30.here hx rfl (hb hby at_127) rfl ?_
    show Steps p.tables e below (T30.setTop (mkF m 129 #[.val (.int p1), .val (.ref b1), .val (.int (7 : Int32)), .val (.ref wCW2), .val (.int (0 : Int32)), .val (.int (0 : Int32)), .val (.int (0 : Int32))] [(.int (0 : Int32)), (.int (0 : Int32))])) _
    refine XS.icmpNo X30.here hx rfl (hb hby at_129) rfl (by decide) ?_
    show Steps p.tables e below (T30.setTop (mkF m 132 #[.val (.int p1), .val (.ref b1), .val (.int (7 : Int32)), .val (.ref wCW2), .val (.int (0 : Int32)), .val (.int (0 : Int32)), .val (.int (0 : Int32))] [])) _
    refine XS.iload X30.here hx rfl (hb hby at_132) rfl ?_
    show Steps p.tables e below (T30.setTop (mkF m 134 #[.val (.int p1), .val (.ref b1), .val (.int (7 : Int32)), .val (.ref wCW2), .val (.int (0 : Int32)), .val (.int (0 : Int32)), .val (.int (0 : Int32))] [(.int (0 : Int32))])) _
    refine XS.iload X30.here hx rfl (hb hby at_134) rfl ?_
    show Steps p.tables e below (T30.setTop (mkF m 136 #[.val (.int p1), .val (.ref b1), .val (.int (7 : Int32)), .val (.ref wCW2), .val (.int (0 : Int32)), .val (.int (0 : Int32)), .val (.int (0 : Int32))] [(.int (0 : Int32)), (.int (0 : Int32))])) _
    refine XS.icmpNo X30.here hx rfl (hb hby at_136) rfl (by decide) ?_
    show Steps p.tables e below (T30.setTop (mkF m 139 #[.val (.int p1), .val (.ref b1), .val (.int (7 : Int32)), .val (.ref wCW2), .val (.int (0 : Int32)), .val (.int (0 : Int32)), .val (.int (0 : Int32))] [])) _
    refine XS.iconst X30.here hx rfl (hb hby at_139) ?_
    show Steps p.tables e below (T30.setTop (mkF m 140 #[.val (.int p1), .val (.ref b1), .val (.int (7 : Int32)), .val (.ref wCW2), .val (.int (0 : Int32)), .val (.int (0 : Int32)), .val (.int (0 : Int32))] [(.int (1 : Int32))])) _
    refine XS.goto X30.here hx rfl (pc0 := 140) (pc' := 144) rfl (hb hby at_140) (by decide) (by decide) ?_
    show Steps p.tables e below (T30.setTop (mkF m 144 #[.val (.int p1), .val (.ref b1), .val (.int (7 : Int32)), .val (.ref wCW2), .val (.int (0 : Int32)), .val (.int (0 : Int32)), .val (.int (0 : Int32))] [(.int (1 : Int32))])) _
    exact retN X30 hx (t := .boolean) Bd.returns (by simp) (hb hby at_144) hr
  · exact ⟨rfl, N30⟩
set_option maxRecDepth 65536 in
set_option maxHeartbeats 40000000 in
theorem own_ordinal_29 (l : Launch) (Z : State) (a0 : Array Value) (hw : ∀ d ∈ tables_1, d.before a0 Z = true) (ws : List Jvm.Cond) (wW1 : Addr) (wW2 : Addr) (wW3 : Addr) (wW4 : Addr) (wW5 : Addr) (wW6 : Addr) (wCW1 : Addr) (wCW2 : Addr) (wCW3 : Addr) (wCW4 : Addr) (wCW5 : Addr) (wCW6 : Addr) (G : OwnG Z wW1 wW2 wW3 wW4 wW5 wW6 wCW1 wCW2 wCW3 wCW4 wCW5 wCW6) (h0 : Heap) (n0 : Nat) (O0 : Old Z n0 h0) :
    MetFree l (⟨"java/lang/Enum", "ordinal", "()I"⟩ : MethodName) (head1 (Jvm.Cond.code (⟨"java/lang/Enum", "ordinal", "()I"⟩ : MethodName) jdk_37_method_2_code 1 (some .int) :: ws) ({ frames := 0, cells := 0, slots := 0, locals := 0 } : Room)) (fun a U => a = #[(.ref wCW3)] ∧ Z.Warmed39 U.vm ∧ U.heap = h0) (fun _ _ _ _ _ => True) (fun _ U o U' => ∃ v L, o = .returned v ∧ OwnQ (some (.int (8 : Int32))) h0 n0 v U'.heap L ∧ FrameEnd U o U' L ({ frames := 0, cells := 0, slots := 0, locals := 0 } : Room).cells ({ frames := 0, cells := 0, slots := 0, locals := 0 } : Room).slots) := by
  refine MetFree.of_bodySF (plainFor_of_name own_pn_3) hisR ?_
  intro p e s m args below meth c s₁ Bd hml0 hP hK
  obtain ⟨rfl, hZ, hh⟩ := hP
  have hx := Bd.exec
  have hby := Bd.bytes
  have hml : c.maxLocals = 1 := hml0
  have hown : s.vm.findClass "java/lang/Enum" = some m.cls := findClass_of_methodNamed Bd.named
  have hnm := (name_of_methodNamed Bd.named Bd.method).1
  have X0 : Stand p l e ({ frames := 0, cells := 0, slots := 0, locals := 0 } : Room) s m #[(.ref wCW3)] below meth c s₁ [] 0 0 := Stand.of_body Bd
  have e0 : s₁.heap = h0 := by rw [← hh, Bd.state]; rfl
  have N0 := Fr.nil n0
  have pre0 : ∀ t, Steps p.tables e below (s₁.setTop (mkF m 0 #[.val (.ref wCW3)] [])) t → Steps p.tables e below (s₁.setTop (entryFrame m #[(.ref wCW3)] 1)) t := fun t k => castTop (own_ef_3_R m wCW3) k
  obtain ⟨T1, X1, e1, st1⟩ := getF X0 hx hZ hown (host := "") (Or.inl (hw _ (List.mem_of_getElem? (i := 47) rfl))) Via.refl e0 (G.2.2.2.2.2.2.2.2.2.2.2.2.2.2.2.2.2.2.2.2.2.2.2.2.2.2.2.2.2.1.ext O0.2) (g := (mkF m 1 #[.val (.ref wCW3)] [(.ref wCW3)])) rfl rfl (hb hby own_d3_1)
  obtain ⟨fs, hr, hrun, hended, hW, hsame⟩ := X1.leave (v := some (.int (8 : Int32))) (fun h => by rw [Bd.returns] at h; cases h)
  refine ⟨_, _, pre0 _ ?_, hrun, hended, _, _, rfl, ?_, ⟨_, rfl⟩, hW, hsame.mono (by decide) (by decide)⟩
  · show Steps p.tables e below (s₁.setTop (mkF m 0 #[.val (.ref wCW3)] [])) _
    refine XS.aloadN X0.here hx rfl (hb hby own_d3_0) rfl rfl ?_
    show Steps p.tables e below (s₁.setTop (mkF m 1 #[.val (.ref wCW3)] [(.ref wCW3)])) _
    refine st1 _ ?_
    show Steps p.tables e below (T1.setTop (mkF m 4 #[.val (.ref wCW3)] [(.int (8 : Int32))])) _
    exact retI X1 hx Bd.returns (hb hby own_d3_4) hr
  · show OwnQ _ h0 n0 _ T1.heap _
    exact ⟨rfl, N0, e1⟩
set_option maxRecDepth 65536 in
set_option maxHeartbeats 40000000 in
theorem own_atInstant_28 (l : Launch) (Z : State) (a0 : Array Value) (hw : ∀ d ∈ tables_1, d.before a0 Z = true) (ws : List Jvm.Cond) (wW1 : Addr) (wW2 : Addr) (wW3 : Addr) (wW4 : Addr) (wW5 : Addr) (wW6 : Addr) (wCW1 : Addr) (wCW2 : Addr) (wCW3 : Addr) (wCW4 : Addr) (wCW5 : Addr) (wCW6 : Addr) (G : OwnG Z wW1 wW2 wW3 wW4 wW5 wW6 wCW1 wCW2 wCW3 wCW4 wCW5 wCW6) (h0 : Heap) (n0 : Nat) (O0 : Old Z n0 h0) :
    MetFree l (⟨"com/example/credlib/credlib/engine/Rule", "atInstant", "()Lcom/example/credlib/credlib/engine/Rule;"⟩ : MethodName) (head1 (Jvm.Cond.code (⟨"com/example/credlib/credlib/engine/Rule", "atInstant", "()Lcom/example/credlib/credlib/engine/Rule;"⟩ : MethodName) prog_18_method_5_code 1 (some (.object "com/example/credlib/credlib/engine/Rule")) :: ws) ({ frames := 1, cells := 0, slots := 0, locals := 12 } : Room)) (fun a U => a = #[(.ref wCW3)] ∧ Z.Warmed39 U.vm ∧ U.heap = h0) (fun _ _ _ _ _ => True) (fun _ U o U' => ∃ v L, o = .returned v ∧ OwnQ (some (.ref wCW3)) h0 n0 v U'.heap L ∧ FrameEnd U o U' L ({ frames := 1, cells := 0, slots := 0, locals := 12 } : Room).cells ({ frames := 1, cells := 0, slots := 0, locals := 12 } : Room).slots) := by
  refine MetFree.of_bodySF (plainFor_of_name own_pn_1) hisR ?_
  intro p e s m args below meth c s₁ Bd hml0 hP hK
  obtain ⟨rfl, hZ, hh⟩ := hP
  have hx := Bd.exec
  have hby := Bd.bytes
  have hml : c.maxLocals = 1 := hml0
  have hown : s.vm.findClass "com/example/credlib/credlib/engine/Rule" = some m.cls := findClass_of_methodNamed Bd.named
  have hnm := (name_of_methodNamed Bd.named Bd.method).1
  have X0 : Stand p l e ({ frames := 1, cells := 0, slots := 0, locals := 12 } : Room) s m #[(.ref wCW3)] below meth c s₁ [] 0 0 := Stand.of_body Bd
  have e0 : s₁.heap = h0 := by rw [← hh, Bd.state]; rfl
  have N0 := Fr.nil n0
  have pre0 : ∀ t, Steps p.tables e below (s₁.setTop (mkF m 0 #[.val (.ref wCW3)] [])) t → Steps p.tables e below (s₁.setTop (entryFrame m #[(.ref wCW3)] 1)) t := fun t k => castTop (own_ef_2_R m wCW3) k
  obtain ⟨cq1, kq1, q1a, q1b, q1c⟩ := isOf hZ e0 (G.2.2.2.2.2.2.2.2.2.2.2.2.2.2.2.2.2.1.ext O0.2)
  obtain ⟨_, _, ⟨T1, L1, k1, n1⟩, -, X1, ⟨Lc1, hQ1, l1, y1, z1⟩, st1⟩ := X0.virtualBackUp hx (x := (⟨"com/example/credlib/credlib/engine/Rule", "ordinal", "()I"⟩ : MethodName)) (y := (⟨"java/lang/Enum", "ordinal", "()I"⟩ : MethodName)) (owner := "java/lang/Enum") hown (mvT hZ (hw _ (List.mem_of_getElem? (i := 40) rfl))) (mvT hZ (hw _ (List.mem_of_getElem? (i := 41) rfl))) (mvT hZ (hw _ (List.mem_of_getElem? (i := 42) rfl))) (by decide) (mvT hZ (hw _ (List.mem_of_getElem? (i := 44) rfl))) (mvT hZ (hw _ (List.mem_of_getElem? (i := 43) rfl))) (backOf (W := 0) (own_ordinal_29 l Z a0 hw [] wW1 wW2 wW3 wW4 wW5 wW6 wCW1 wCW2 wCW3 wCW4 wCW5 wCW6 G h0 n0 O0) hZ (hw _ (List.mem_of_getElem? (i := 46) rfl)) (hw _ (List.mem_of_getElem? (i := 45) rfl)) (by decide) (by decide)) q1a q1c (g := (mkF m 1 #[.val (.ref wCW3)] [(.ref wCW3)])) rfl (by rw [hml]; rfl) (Steps.refl _) (argsL := []) (rest := []) (lenOf own_pd_1 rfl) rfl (by show 2 * 0 + _ ≤ _; exact Nat.le_of_eq rfl) (hb hby own_d2_1) (fun _ _ => ⟨rfl, e0, (by decide : 0 + 0 ≤ _), (by decide : 0 + 0 ≤ _)⟩)
  dsimp only [Pt.U, Pt.locs, Pt.cells, Pt.slots] at X1 l1 y1 z1 st1 hQ1
  subst l1 y1 z1
  obtain ⟨rfl, N1q, e1⟩ := hQ1
  have N1 := Fr.app N0 N1q
  obtain ⟨fs, hr, hrun, hended, hW, hsame⟩ := X1.leave (v := some (.ref wCW3)) (fun h => by rw [Bd.returns] at h; cases h)
  refine ⟨_, _, pre0 _ ?_, hrun, hended, _, _, rfl, ?_, ⟨_, rfl⟩, hW, hsame.mono (by decide) (by decide)⟩
  · show Steps p.tables e below (s₁.setTop (mkF m 0 #[.val (.ref wCW3)] [])) _
    refine XS.aloadN X0.here hx rfl (hb hby own_d2_0) rfl rfl ?_
    show Steps p.tables e below (s₁.setTop (mkF m 1 #[.val (.ref wCW3)] [(.ref wCW3)])) _
    refine st1.trans ?_
    show Steps p.tables e below (T1.setTop (mkF m 4 #[.val (.ref wCW3)] [(.int (8 : Int32))])) _
    refine XS.tswOut X1.here hx rfl (pc0 := 4) (pc' := 80) rfl (hb hby own_d2_4) rfl (by decide) (by decide) (by decide) ?_
    show Steps p.tables e below (T1.setTop (mkF m 80 #[.val (.ref wCW3)] [])) _
    refine XS.aloadN X1.here hx rfl (hb hby own_d2_80) rfl rfl ?_
    show Steps p.tables e below (T1.setTop (mkF m 81 #[.val (.ref wCW3)] [(.ref wCW3)])) _
    jvm_step X1.here [X1.here.top, hx, (hb hby own_d2_81), X1.method', Bd.returns, Value.isRef, FieldType.isReference]
    first | (intro acts; rw [hr _ acts rfl rfl rfl]) | rw [hr _ _ rfl rfl rfl]
    exact Steps.refl _
  · show OwnQ _ h0 n0 _ T1.heap _
    exact ⟨rfl, N1, e1⟩
set_option maxRecDepth 65536 in
set_option maxHeartbeats 40000000 in
theorem own_law_8 (l : Launch) (Z : State) (a0 : Array Value) (hw : ∀ d ∈ tables_1, d.before a0 Z = true) (ws : List Jvm.Cond) (wW1 : Addr) (wW2 : Addr) (wW3 : Addr) (wW4 : Addr) (wW5 : Addr) (wW6 : Addr) (wCW1 : Addr) (wCW2 : Addr) (wCW3 : Addr) (wCW4 : Addr) (wCW5 : Addr) (wCW6 : Addr) (G : OwnG Z wW1 wW2 wW3 wW4 wW5 wW6 wCW1 wCW2 wCW3 wCW4 wCW5 wCW6) (h0 : Heap) (n0 : Nat) (O0 : Old Z n0 h0) (p1 : Int32) (hi : ((p1 &&& (2147483647 : Int32)) % (12 : Int32)) = (8 : Int32)) :
    MetFree l x (head1 (Jvm.Cond.code x code maxLocals ret :: ws) room_1) (fun a U => a = #[(.int p1)] ∧ Z.Warmed39 U.vm ∧ U.heap = h0) (fun _ _ _ _ _ => True) (fun _ U o U' => ∃ v L, o = .returned v ∧ (v = some (.int 1) ∧ Fr n0 L) ∧ FrameEnd U o U' L room_1.cells room_1.slots) := by
  refine MetFree.of_bodySF (plainFor_of_name own_pn_0) hisR ?_
  intro p e s m args below meth c s₁ Bd hml0 hP hK
  obtain ⟨rfl, hZ, hh⟩ := hP
  have hx := Bd.exec
  have hby := Bd.bytes
  have hml : c.maxLocals = 7 := hml0
  have hown : s.vm.findClass "com/example/credlib/credlib/engine/RuleStatesCredentialPinLaw" = some m.cls := findClass_of_methodNamed Bd.named
  have hnm := (name_of_methodNamed Bd.named Bd.method).1
  have X0 : Stand p l e room_1 s m #[(.int p1)] below meth c s₁ [] 0 0 := Stand.of_body Bd
  have e0 : s₁.heap = h0 := by rw [← hh, Bd.state]; rfl
  have N0 := Fr.nil n0
  have pre0 : ∀ t, Steps p.tables e below (s₁.setTop (mkF m 0 #[.val (.int p1), .unset, .unset, .unset, .unset, .unset, .unset] [])) t → Steps p.tables e below (s₁.setTop (entryFrame m #[(.int p1)] maxLocals)) t := fun t k => castTop (own_ef_0_I m p1) k
  obtain ⟨T1, h1, k1, X1, e1, E1, A1, Ov1, st1⟩ := newR X0 hx hZ hown (hw _ (List.mem_of_getElem? (i := 0) rfl)) (hw _ (List.mem_of_getElem? (i := 1) rfl)) e0 (g := (mkF m 2 #[.val (.int p1), .unset, .unset, .unset, .unset, .unset, .unset] [(.int (12 : Int32))])) rfl (hb hby at_2) rfl (by decide) (cap := 12) (by decide) (by decide) (by decide) (by decide)
  obtain ⟨b1, g1⟩ : ∃ z, z = h0.size := ⟨_, rfl⟩
  rw [← g1] at A1 st1
  have ge_b1 : n0 ≤ b1 := own_new O0 g1
  have sz_b1 : h0.size ≤ b1 := Nat.le_trans (Keep.refl h0 []).1 (Nat.le_of_eq g1.symm)
  have O1 := O0.ext E1
  have K1 := (Keep.refl h0 []).ext E1
  have V1 : Arv Z h1 b1 k1 (.object "com/example/credlib/credlib/engine/Rule") (12 : Int32) [.null, .null, .null, .null, .null, .null, .null, .null, .null, .null, .null, .null] .null := (Arv.new A1 (by decide)).pad (pad_rep [] .null 12)
  obtain ⟨T2, X2, e2, st2⟩ := getS2 X1 hx hZ hown (host := "") (Or.inl (hw _ (List.mem_of_getElem? (i := 2) rfl))) Via.refl e1 (G.1.ext O1.2) (g := (mkF m 7 #[.val (.int p1), .unset, .unset, .unset, .unset, .unset, .unset] [(.int (0 : Int32)), (.ref b1), (.ref b1)])) rfl (hb hby at_7)
  obtain ⟨cl3, Ar3, qk3, Sz3, Nn3, Hs3, Gs3⟩ := id (V1)
  have hin3 : ¬ ((0 : Int32) < 0 ∨ cl3.slots.size ≤ ((0 : Int32)).toNatClampNeg) := inb_of Sz3 ⟨by decide, by decide⟩
  obtain ⟨T3, h3, X3, e3, W3, st3⟩ := stR X2 hx hZ e2 Ar3 (j := (0 : Int32)) hin3 rfl (Sto.ofV Ar3 qk3 Ov1 (Ins.self (G.2.1.ext O1.2))) (g := (mkF m 10 #[.val (.int p1), .unset, .unset, .unset, .unset, .unset, .unset] [(.ref wW1), (.int (0 : Int32)), (.ref b1), (.ref b1)])) rfl rfl (hb hby at_10)
  have V3 := Arv.set Ar3 qk3 Sz3 Nn3 Hs3 Gs3 rfl W3 0 rfl (Nat.le_of_ble_eq_true rfl)
  have O3 := O1.wr W3 ge_b1
  have K3 := K1.wr W3 (Or.inr sz_b1)
  have N3 := Fr.snoc X3 N0 ge_b1
  obtain ⟨T4, X4, e4, st4⟩ := getS2 X3 hx hZ hown (host := "") (Or.inl (hw _ (List.mem_of_getElem? (i := 6) rfl))) Via.refl e3 (G.2.2.1.ext O3.2) (g := (mkF m 13 #[.val (.int p1), .unset, .unset, .unset, .unset, .unset, .unset] [(.int (1 : Int32)), (.ref b1), (.ref b1)])) rfl (hb hby at_13)
  obtain ⟨cl5, Ar5, qk5, Sz5, Nn5, Hs5, Gs5⟩ := id (V3)
  have hin5 : ¬ ((1 : Int32) < 0 ∨ cl5.slots.size ≤ ((1 : Int32)).toNatClampNeg) := inb_of Sz5 ⟨by decide, by decide⟩
  obtain ⟨T5, h5, X5, e5, W5, st5⟩ := stR X4 hx hZ e4 Ar5 (j := (1 : Int32)) hin5 rfl (Sto.ofV Ar5 qk5 Ov1 (Ins.self (G.2.2.2.1.ext O3.2))) (g := (mkF m 16 #[.val (.int p1), .unset, .unset, .unset, .unset, .unset, .unset] [(.ref wW2), (.int (1 : Int32)), (.ref b1), (.ref b1)])) rfl rfl (hb hby at_16)
  have V5 := Arv.set Ar5 qk5 Sz5 Nn5 Hs5 Gs5 rfl W5 1 rfl (Nat.le_of_ble_eq_true rfl)
  have O5 := O3.wr W5 ge_b1
  have K5 := K3.wr W5 (Or.inr sz_b1)
  have N5 := Fr.snoc X5 N3 ge_b1
  obtain ⟨T6, X6, e6, st6⟩ := getS2 X5 hx hZ hown (host := "") (Or.inl (hw _ (List.mem_of_getElem? (i := 8) rfl))) Via.refl e5 (G.2.2.2.2.1.ext O5.2) (g := (mkF m 19 #[.val (.int p1), .unset, .unset, .unset, .unset, .unset, .unset] [(.int (2 : Int32)), (.ref b1), (.ref b1)])) rfl (hb hby at_19)
  obtain ⟨cl7, Ar7, qk7, Sz7, Nn7, Hs7, Gs7⟩ := id (V5)
  have hin7 : ¬ ((2 : Int32) < 0 ∨ cl7.slots.size ≤ ((2 : Int32)).toNatClampNeg) := inb_of Sz7 ⟨by decide, by decide⟩
  obtain ⟨T7, h7, X7, e7, W7, st7⟩ := stR X6 hx hZ e6 Ar7 (j := (2 : Int32)) hin7 rfl (Sto.ofV Ar7 qk7 Ov1 (Ins.self (G.2.2.2.2.2.1.ext O5.2))) (g := (mkF m 22 #[.val (.int p1), .unset, .unset, .unset, .unset, .unset, .unset] [(.ref wW3), (.int (2 : Int32)), (.ref b1), (.ref b1)])) rfl rfl (hb hby at_22)
  have V7 := Arv.set Ar7 qk7 Sz7 Nn7 Hs7 Gs7 rfl W7 2 rfl (Nat.le_of_ble_eq_true rfl)
  have O7 := O5.wr W7 ge_b1
  have K7 := K5.wr W7 (Or.inr sz_b1)
  have N7 := Fr.snoc X7 N5 ge_b1
  obtain ⟨T8, X8, e8, st8⟩ := getS2 X7 hx hZ hown (host := "") (Or.inl (hw _ (List.mem_of_getElem? (i := 10) rfl))) Via.refl e7 (G.2.2.2.2.2.2.1.ext O7.2) (g := (mkF m 25 #[.val (.int p1), .unset, .unset, .unset, .unset, .unset, .unset] [(.int (3 : Int32)), (.ref b1), (.ref b1)])) rfl (hb hby at_25)
  obtain ⟨cl9, Ar9, qk9, Sz9, Nn9, Hs9, Gs9⟩ := id (V7)
  have hin9 : ¬ ((3 : Int32) < 0 ∨ cl9.slots.size ≤ ((3 : Int32)).toNatClampNeg) := inb_of Sz9 ⟨by decide, by decide⟩
  obtain ⟨T9, h9, X9, e9, W9, st9⟩ := stR X8 hx hZ e8 Ar9 (j := (3 : Int32)) hin9 rfl (Sto.ofV Ar9 qk9 Ov1 (Ins.self (G.2.2.2.2.2.2.2.1.ext O7.2))) (g := (mkF m 28 #[.val (.int p1), .unset, .unset, .unset, .unset, .unset, .unset] [(.ref wW4), (.int (3 : Int32)), (.ref b1), (.ref b1)])) rfl rfl (hb hby at_28)
  have V9 := Arv.set Ar9 qk9 Sz9 Nn9 Hs9 Gs9 rfl W9 3 rfl (Nat.le_of_ble_eq_true rfl)
  have O9 := O7.wr W9 ge_b1
  have K9 := K7.wr W9 (Or.inr sz_b1)
  have N9 := Fr.snoc X9 N7 ge_b1
  obtain ⟨T10, X10, e10, st10⟩ := getS2 X9 hx hZ hown (host := "") (Or.inl (hw _ (List.mem_of_getElem? (i := 12) rfl))) Via.refl e9 (G.2.2.2.2.2.2.2.2.1.ext O9.2) (g := (mkF m 31 #[.val (.int p1), .unset, .unset, .unset, .unset, .unset, .unset] [(.int (4 : Int32)), (.ref b1), (.ref b1)])) rfl (hb hby at_31)
  obtain ⟨cl11, Ar11, qk11, Sz11, Nn11, Hs11, Gs11⟩ := id (V9)
  have hin11 : ¬ ((4 : Int32) < 0 ∨ cl11.slots.size ≤ ((4 : Int32)).toNatClampNeg) := inb_of Sz11 ⟨by decide, by decide⟩
  obtain ⟨T11, h11, X11, e11, W11, st11⟩ := stR X10 hx hZ e10 Ar11 (j := (4 : Int32)) hin11 rfl (Sto.ofV Ar11 qk11 Ov1 (Ins.self (G.2.2.2.2.2.2.2.2.2.1.ext O9.2))) (g := (mkF m 34 #[.val (.int p1), .unset, .unset, .unset, .unset, .unset, .unset] [(.ref wW5), (.int (4 : Int32)), (.ref b1), (.ref b1)])) rfl rfl (hb hby at_34)
  have V11 := Arv.set Ar11 qk11 Sz11 Nn11 Hs11 Gs11 rfl W11 4 rfl (Nat.le_of_ble_eq_true rfl)
  have O11 := O9.wr W11 ge_b1
  have K11 := K9.wr W11 (Or.inr sz_b1)
  have N11 := Fr.snoc X11 N9 ge_b1
  obtain ⟨T12, X12, e12, st12⟩ := getS2 X11 hx hZ hown (host := "") (Or.inl (hw _ (List.mem_of_getElem? (i := 14) rfl))) Via.refl e11 (G.2.2.2.2.2.2.2.2.2.2.1.ext O11.2) (g := (mkF m 37 #[.val (.int p1), .unset, .unset, .unset, .unset, .unset, .unset] [(.int (5 : Int32)), (.ref b1), (.ref b1)])) rfl (hb hby at_37)
  obtain ⟨cl13, Ar13, qk13, Sz13, Nn13, Hs13, Gs13⟩ := id (V11)
  have hin13 : ¬ ((5 : Int32) < 0 ∨ cl13.slots.size ≤ ((5 : Int32)).toNatClampNeg) := inb_of Sz13 ⟨by decide, by decide⟩
  obtain ⟨T13, h13, X13, e13, W13, st13⟩ := stR X12 hx hZ e12 Ar13 (j := (5 : Int32)) hin13 rfl (Sto.ofV Ar13 qk13 Ov1 (Ins.self (G.2.2.2.2.2.2.2.2.2.2.2.1.ext O11.2))) (g := (mkF m 40 #[.val (.int p1), .unset, .unset, .unset, .unset, .unset, .unset] [(.ref wW6), (.int (5 : Int32)), (.ref b1), (.ref b1)])) rfl rfl (hb hby at_40)
  have V13 := Arv.set Ar13 qk13 Sz13 Nn13 Hs13 Gs13 rfl W13 5 rfl (Nat.le_of_ble_eq_true rfl)
  have O13 := O11.wr W13 ge_b1
  have K13 := K11.wr W13 (Or.inr sz_b1)
  have N13 := Fr.snoc X13 N11 ge_b1
  obtain ⟨T14, X14, e14, st14⟩ := getS2 X13 hx hZ hown (host := "") (Or.inl (hw _ (List.mem_of_getElem? (i := 16) rfl))) Via.refl e13 (G.2.2.2.2.2.2.2.2.2.2.2.2.1.ext O13.2) (g := (mkF m 44 #[.val (.int p1), .unset, .unset, .unset, .unset, .unset, .unset] [(.int (6 : Int32)), (.ref b1), (.ref b1)])) rfl (hb hby at_44)
  obtain ⟨cl15, Ar15, qk15, Sz15, Nn15, Hs15, Gs15⟩ := id (V13)
  have hin15 : ¬ ((6 : Int32) < 0 ∨ cl15.slots.size ≤ ((6 : Int32)).toNatClampNeg) := inb_of Sz15 ⟨by decide, by decide⟩
  obtain ⟨T15, h15, X15, e15, W15, st15⟩ := stR X14 hx hZ e14 Ar15 (j := (6 : Int32)) hin15 rfl (Sto.ofV Ar15 qk15 Ov1 (Ins.self (G.2.2.2.2.2.2.2.2.2.2.2.2.2.1.ext O13.2))) (g := (mkF m 47 #[.val (.int p1), .unset, .unset, .unset, .unset, .unset, .unset] [(.ref wCW1), (.int (6 : Int32)), (.ref b1), (.ref b1)])) rfl rfl (hb hby at_47)
  have V15 := Arv.set Ar15 qk15 Sz15 Nn15 Hs15 Gs15 rfl W15 6 rfl (Nat.le_of_ble_eq_true rfl)
  have O15 := O13.wr W15 ge_b1
  have K15 := K13.wr W15 (Or.inr sz_b1)
  have N15 := Fr.snoc X15 N13 ge_b1
  obtain ⟨T16, X16, e16, st16⟩ := getS2 X15 hx hZ hown (host := "") (Or.inl (hw _ (List.mem_of_getElem? (i := 18) rfl))) Via.refl e15 (G.2.2.2.2.2.2.2.2.2.2.2.2.2.2.1.ext O15.2) (g := (mkF m 51 #[.val (.int p1), .unset, .unset, .unset, .unset, .unset, .unset] [(.int (7 : Int32)), (.ref b1), (.ref b1)])) rfl (hb hby at_51)
  obtain ⟨cl17, Ar17, qk17, Sz17, Nn17, Hs17, Gs17⟩ := id (V15)
  have hin17 : ¬ ((7 : Int32) < 0 ∨ cl17.slots.size ≤ ((7 : Int32)).toNatClampNeg) := inb_of Sz17 ⟨by decide, by decide⟩
  obtain ⟨T17, h17, X17, e17, W17, st17⟩ := stR X16 hx hZ e16 Ar17 (j := (7 : Int32)) hin17 rfl (Sto.ofV Ar17 qk17 Ov1 (Ins.self (G.2.2.2.2.2.2.2.2.2.2.2.2.2.2.2.1.ext O15.2))) (g := (mkF m 54 #[.val (.int p1), .unset, .unset, .unset, .unset, .unset, .unset] [(.ref wCW2), (.int (7 : Int32)), (.ref b1), (.ref b1)])) rfl rfl (hb hby at_54)
  have V17 := Arv.set Ar17 qk17 Sz17 Nn17 Hs17 Gs17 rfl W17 7 rfl (Nat.le_of_ble_eq_true rfl)
  have O17 := O15.wr W17 ge_b1
  have K17 := K15.wr W17 (Or.inr sz_b1)
  have N17 := Fr.snoc X17 N15 ge_b1
  obtain ⟨T18, X18, e18, st18⟩ := getS2 X17 hx hZ hown (host := "") (Or.inl (hw _ (List.mem_of_getElem? (i := 20) rfl))) Via.refl e17 (G.2.2.2.2.2.2.2.2.2.2.2.2.2.2.2.2.1.ext O17.2) (g := (mkF m 58 #[.val (.int p1), .unset, .unset, .unset, .unset, .unset, .unset] [(.int (8 : Int32)), (.ref b1), (.ref b1)])) rfl (hb hby at_58)
  obtain ⟨cl19, Ar19, qk19, Sz19, Nn19, Hs19, Gs19⟩ := id (V17)
  have hin19 : ¬ ((8 : Int32) < 0 ∨ cl19.slots.size ≤ ((8 : Int32)).toNatClampNeg) := inb_of Sz19 ⟨by decide, by decide⟩
  obtain ⟨T19, h19, X19, e19, W19, st19⟩ := stR X18 hx hZ e18 Ar19 (j := (8 : Int32)) hin19 rfl (Sto.ofV Ar19 qk19 Ov1 (Ins.self (G.2.2.2.2.2.2.2.2.2.2.2.2.2.2.2.2.2.1.ext O17.2))) (g := (mkF m 61 #[.val (.int p1), .unset, .unset, .unset, .unset, .unset, .unset] [(.ref wCW3), (.int (8 : Int32)), (.ref b1), (.ref b1)])) rfl rfl (hb hby at_61)
  have V19 := Arv.set Ar19 qk19 Sz19 Nn19 Hs19 Gs19 rfl W19 8 rfl (Nat.le_of_ble_eq_true rfl)
  have O19 := O17.wr W19 ge_b1
  have K19 := K17.wr W19 (Or.inr sz_b1)
  have N19 := Fr.snoc X19 N17 ge_b1
  obtain ⟨T20, X20, e20, st20⟩ := getS2 X19 hx hZ hown (host := "") (Or.inl (hw _ (List.mem_of_getElem? (i := 22) rfl))) Via.refl e19 (G.2.2.2.2.2.2.2.2.2.2.2.2.2.2.2.2.2.2.1.ext O19.2) (g := (mkF m 65 #[.val (.int p1), .unset, .unset, .unset, .unset, .unset, .unset] [(.int (9 : Int32)), (.ref b1), (.ref b1)])) rfl (hb hby at_65)
  obtain ⟨cl21, Ar21, qk21, Sz21, Nn21, Hs21, Gs21⟩ := id (V19)
  have hin21 : ¬ ((9 : Int32) < 0 ∨ cl21.slots.size ≤ ((9 : Int32)).toNatClampNeg) := inb_of Sz21 ⟨by decide, by decide⟩
  obtain ⟨T21, h21, X21, e21, W21, st21⟩ := stR X20 hx hZ e20 Ar21 (j := (9 : Int32)) hin21 rfl (Sto.ofV Ar21 qk21 Ov1 (Ins.self (G.2.2.2.2.2.2.2.2.2.2.2.2.2.2.2.2.2.2.2.1.ext O19.2))) (g := (mkF m 68 #[.val (.int p1), .unset, .unset, .unset, .unset, .unset, .unset] [(.ref wCW4), (.int (9 : Int32)), (.ref b1), (.ref b1)])) rfl rfl (hb hby at_68)
  have V21 := Arv.set Ar21 qk21 Sz21 Nn21 Hs21 Gs21 rfl W21 9 rfl (Nat.le_of_ble_eq_true rfl)
  have O21 := O19.wr W21 ge_b1
  have K21 := K19.wr W21 (Or.inr sz_b1)
  have N21 := Fr.snoc X21 N19 ge_b1
  obtain ⟨T22, X22, e22, st22⟩ := getS2 X21 hx hZ hown (host := "") (Or.inl (hw _ (List.mem_of_getElem? (i := 24) rfl))) Via.refl e21 (G.2.2.2.2.2.2.2.2.2.2.2.2.2.2.2.2.2.2.2.2.1.ext O21.2) (g := (mkF m 72 #[.val (.int p1), .unset, .unset, .unset, .unset, .unset, .unset] [(.int (10 : Int32)), (.ref b1), (.ref b1)])) rfl (hb hby at_72)
  obtain ⟨cl23, Ar23, qk23, Sz23, Nn23, Hs23, Gs23⟩ := id (V21)
  have hin23 : ¬ ((10 : Int32) < 0 ∨ cl23.slots.size ≤ ((10 : Int32)).toNatClampNeg) := inb_of Sz23 ⟨by decide, by decide⟩
  obtain ⟨T23, h23, X23, e23, W23, st23⟩ := stR X22 hx hZ e22 Ar23 (j := (10 : Int32)) hin23 rfl (Sto.ofV Ar23 qk23 Ov1 (Ins.self (G.2.2.2.2.2.2.2.2.2.2.2.2.2.2.2.2.2.2.2.2.2.1.ext O21.2))) (g := (mkF m 75 #[.val (.int p1), .unset, .unset, .unset, .unset, .unset, .unset] [(.ref wCW5), (.int (10 : Int32)), (.ref b1), (.ref b1)])) rfl rfl (hb hby at_75)
  have V23 := Arv.set Ar23 qk23 Sz23 Nn23 Hs23 Gs23 rfl W23 10 rfl (Nat.le_of_ble_eq_true rfl)
  have O23 := O21.wr W23 ge_b1
  have K23 := K21.wr W23 (Or.inr sz_b1)
  have N23 := Fr.snoc X23 N21 ge_b1
  obtain ⟨T24, X24, e24, st24⟩ := getS2 X23 hx hZ hown (host := "") (Or.inl (hw _ (List.mem_of_getElem? (i := 26) rfl))) Via.refl e23 (G.2.2.2.2.2.2.2.2.2.2.2.2.2.2.2.2.2.2.2.2.2.2.1.ext O23.2) (g := (mkF m 79 #[.val (.int p1), .unset, .unset, .unset, .unset, .unset, .unset] [(.int (11 : Int32)), (.ref b1), (.ref b1)])) rfl (hb hby at_79)
  obtain ⟨cl25, Ar25, qk25, Sz25, Nn25, Hs25, Gs25⟩ := id (V23)
  have hin25 : ¬ ((11 : Int32) < 0 ∨ cl25.slots.size ≤ ((11 : Int32)).toNatClampNeg) := inb_of Sz25 ⟨by decide, by decide⟩
  obtain ⟨T25, h25, X25, e25, W25, st25⟩ := stR X24 hx hZ e24 Ar25 (j := (11 : Int32)) hin25 rfl (Sto.ofV Ar25 qk25 Ov1 (Ins.self (G.2.2.2.2.2.2.2.2.2.2.2.2.2.2.2.2.2.2.2.2.2.2.2.1.ext O23.2))) (g := (mkF m 82 #[.val (.int p1), .unset, .unset, .unset, .unset, .unset, .unset] [(.ref wCW6), (.int (11 : Int32)), (.ref b1), (.ref b1)])) rfl rfl (hb hby at_82)
  have V25 := Arv.set Ar25 qk25 Sz25 Nn25 Hs25 Gs25 rfl W25 11 rfl (Nat.le_of_ble_eq_true rfl)
  have O25 := O23.wr W25 ge_b1
  have K25 := K23.wr W25 (Or.inr sz_b1)
  have N25 := Fr.snoc X25 N23 ge_b1
  obtain ⟨cl26, Ar26, qk26, Sz26, Nn26, Hs26, Gs26⟩ := id (V25)
  have hin27 : ¬ ((8 : Int32) < 0 ∨ cl26.slots.size ≤ ((8 : Int32)).toNatClampNeg) := inb_of Sz26 ⟨by decide, by decide⟩
  have hat27 : cl26.slots[((8 : Int32)).toNatClampNeg]? = some (.ref wCW3) := Hs26.at hin27 rfl
  obtain ⟨cq28, kq28, q28a, q28b, q28c⟩ := isOf hZ e25 (G.2.2.2.2.2.2.2.2.2.2.2.2.2.2.2.2.2.1.ext O25.2)
  obtain ⟨_, _, ⟨T28, L28, k28, n28⟩, -, X28, ⟨Lc28, hQ28, l28, y28, z28⟩, st28⟩ := X25.virtualBack hx (y := (⟨"com/example/credlib/credlib/engine/Rule", "statesCredential", "()Z"⟩ : MethodName)) (z := (⟨"com/example/credlib/credlib/engine/Rule", "statesCredential", "()Z"⟩ : MethodName)) hown (mvT hZ (hw _ (List.mem_of_getElem? (i := 29) rfl))) (mvT hZ (hw _ (List.mem_of_getElem? (i := 30) rfl))) (notFace_of_selects (args := #[]) (mvT hZ (hw _ (List.mem_of_getElem? (i := 32) rfl)))) (mvT hZ (hw _ (List.mem_of_getElem? (i := 32) rfl))) (mvT hZ (hw _ (List.mem_of_getElem? (i := 31) rfl))) (by decide) (backOf (W := 0) (own_statesCredential_11 l Z a0 hw [] wW1 wW2 wW3 wW4 wW5 wW6 wCW1 wCW2 wCW3 wCW4 wCW5 wCW6 G h25 n0 O25) hZ (hw _ (List.mem_of_getElem? (i := 33) rfl)) (hw _ (List.mem_of_getElem? (i := 3) rfl)) (by decide) (by decide)) q28a q28c (g := (mkF m 111 #[.val (.int p1), .val (.ref b1), .val (.int (8 : Int32)), .val (.ref wCW3), .val (.int (0 : Int32)), .unset, .unset] [(.ref wCW3)])) rfl (by rw [hml]; rfl) (Steps.refl _) (argsL := []) (rest := []) (lenOf own_pd_0 rfl) rfl (by show 2 * 0 + _ ≤ _; exact Nat.le_of_eq rfl) (hb hby at_111) (fun _ _ => ⟨rfl, e25, (by decide : 1 + 0 ≤ _), (by decide : 12 + 0 ≤ _)⟩)
  dsimp only [Pt.U, Pt.locs, Pt.cells, Pt.slots] at X28 l28 y28 z28 st28 hQ28
  subst l28 y28 z28
  obtain ⟨rfl, N28q, e28⟩ := hQ28
  have N28 := Fr.app N25 N28q
  obtain ⟨cq29, kq29, q29a, q29b, q29c⟩ := isOf hZ e28 (G.2.2.2.2.2.2.2.2.2.2.2.2.2.2.2.2.2.1.ext O25.2)
  obtain ⟨_, _, ⟨T29, L29, k29, n29⟩, -, X29, ⟨Lc29, hQ29, l29, y29, z29⟩, st29⟩ := X28.virtualBack hx (y := (⟨"com/example/credlib/credlib/engine/Rule", "atInstant", "()Lcom/example/credlib/credlib/engine/Rule;"⟩ : MethodName)) (z := (⟨"com/example/credlib/credlib/engine/Rule", "atInstant", "()Lcom/example/credlib/credlib/engine/Rule;"⟩ : MethodName)) hown (mvT hZ (hw _ (List.mem_of_getElem? (i := 35) rfl))) (mvT hZ (hw _ (List.mem_of_getElem? (i := 36) rfl))) (notFace_of_selects (args := #[]) (mvT hZ (hw _ (List.mem_of_getElem? (i := 38) rfl)))) (mvT hZ (hw _ (List.mem_of_getElem? (i := 38) rfl))) (mvT hZ (hw _ (List.mem_of_getElem? (i := 37) rfl))) (by decide) (backOf (W := 0) (own_atInstant_28 l Z a0 hw [] wW1 wW2 wW3 wW4 wW5 wW6 wCW1 wCW2 wCW3 wCW4 wCW5 wCW6 G h25 n0 O25) hZ (hw _ (List.mem_of_getElem? (i := 39) rfl)) (hw _ (List.mem_of_getElem? (i := 3) rfl)) (by decide) (by decide)) q29a q29c (g := (mkF m 117 #[.val (.int p1), .val (.ref b1), .val (.int (8 : Int32)), .val (.ref wCW3), .val (.int (0 : Int32)), .val (.int (0 : Int32)), .unset] [(.ref wCW3)])) rfl (by rw [hml]; rfl) (Steps.refl _) (argsL := []) (rest := []) (lenOf own_pd_2 rfl) rfl (by show 2 * 0 + _ ≤ _; exact Nat.le_of_eq rfl) (hb hby at_117) (fun _ _ => ⟨rfl, e28, (by decide : 1 + 0 ≤ _), (by decide : 12 + 0 ≤ _)⟩)
  dsimp only [Pt.U, Pt.locs, Pt.cells, Pt.slots] at X29 l29 y29 z29 st29 hQ29
  subst l29 y29 z29
  obtain ⟨rfl, N29q, e29⟩ := hQ29
  have N29 := Fr.app N28 N29q
  obtain ⟨cq30, kq30, q30a, q30b, q30c⟩ := isOf hZ e29 (G.2.2.2.2.2.2.2.2.2.2.2.2.2.2.2.2.2.1.ext O25.2)
  obtain ⟨_, _, ⟨T30, L30, k30, n30⟩, -, X30, ⟨Lc30, hQ30, l30, y30, z30⟩, st30⟩ := X29.virtualBack hx (y := (⟨"com/example/credlib/credlib/engine/Rule", "statesCredential", "()Z"⟩ : MethodName)) (z := (⟨"com/example/credlib/credlib/engine/Rule", "statesCredential", "()Z"⟩ : MethodName)) hown (mvT hZ (hw _ (List.mem_of_getElem? (i := 29) rfl))) (mvT hZ (hw _ (List.mem_of_getElem? (i := 30) rfl))) (notFace_of_selects (args := #[]) (mvT hZ (hw _ (List.mem_of_getElem? (i := 32) rfl)))) (mvT hZ (hw _ (List.mem_of_getElem? (i := 32) rfl))) (mvT hZ (hw _ (List.mem_of_getElem? (i := 31) rfl))) (by decide) (backOf (W := 0) (own_statesCredential_11 l Z a0 hw [] wW1 wW2 wW3 wW4 wW5 wW6 wCW1 wCW2 wCW3 wCW4 wCW5 wCW6 G h25 n0 O25) hZ (hw _ (List.mem_of_getElem? (i := 33) rfl)) (hw _ (List.mem_of_getElem? (i := 3) rfl)) (by decide) (by decide)) q30a q30c (g := (mkF m 120 #[.val (.int p1), .val (.ref b1), .val (.int (8 : Int32)), .val (.ref wCW3), .val (.int (0 : Int32)), .val (.int (0 : Int32)), .unset] [(.ref wCW3)])) rfl (by rw [hml]; rfl) (Steps.refl _) (argsL := []) (rest := []) (lenOf own_pd_0 rfl) rfl (by show 2 * 0 + _ ≤ _; exact Nat.le_of_eq rfl) (hb hby at_120) (fun _ _ => ⟨rfl, e29, (by decide : 1 + 0 ≤ _), (by decide : 12 + 0 ≤ _)⟩)
  dsimp only [Pt.U, Pt.locs, Pt.cells, Pt.slots] at X30 l30 y30 z30 st30 hQ30
  subst l30 y30 z30
  obtain ⟨rfl, N30q, e30⟩ := hQ30
  have N30 := Fr.app N29 N30q
  obtain ⟨fs, hr, hrun, hended, hW, hsame⟩ := X30.leave (v := some (.int (1 : Int32))) (fun h => by rw [Bd.returns] at h; cases h)
  refine ⟨_, _, pre0 _ ?_, hrun, hended, _, _, rfl, ?_, ⟨_, rfl⟩, hW, hsame.mono (by decide) (by decide)⟩
  · show Steps p.tables e below (s₁.setTop (mkF m 0 #[.val (.int p1), .unset, .unset, .unset, .unset, .unset, .unset] [])) _
    refine XS.bipush X0.here hx rfl (hb hby at_0) ?_
    show Steps p.tables e below (s₁.setTop (mkF m 2 #[.val (.int p1), .unset, .unset, .unset, .unset, .unset, .unset] [(.int (12 : Int32))])) _
    refine st1 _ ?_
    show Steps p.tables e below (T1.setTop (mkF m 5 #[.val (.int p1), .unset, .unset, .unset, .unset, .unset, .unset] [(.ref b1)])) _
    refine XS.dup X1.here hx rfl (hb hby at_5) rfl rfl ?_
    show Steps p.tables e below (T1.setTop (mkF m 6 #[.val (.int p1), .unset, .unset, .unset, .unset, .unset, .unset] [(.ref b1), (.ref b1)])) _
    refine XS.iconst X1.here hx rfl (hb hby at_6) ?_
    show Steps p.tables e below (T1.setTop (mkF m 7 #[.val (.int p1), .unset, .unset, .unset, .unset, .unset, .unset] [(.int (0 : Int32)), (.ref b1), (.ref b1)])) _
    refine st2 _ ?_
    show Steps p.tables e below (T2.setTop (mkF m 10 #[.val (.int p1), .unset, .unset, .unset, .unset, .unset, .unset] [(.ref wW1), (.int (0 : Int32)), (.ref b1), (.ref b1)])) _
    refine st3 _ ?_
    show Steps p.tables e below (T3.setTop (mkF m 11 #[.val (.int p1), .unset, .unset, .unset, .unset, .unset, .unset] [(.ref b1)])) _
    refine XS.dup X3.here hx rfl (hb hby at_11) rfl rfl ?_
    show Steps p.tables e below (T3.setTop (mkF m 12 #[.val (.int p1), .unset, .unset, .unset, .unset, .unset, .unset] [(.ref b1), (.ref b1)])) _
    refine XS.iconst X3.here hx rfl (hb hby at_12) ?_
    show Steps p.tables e below (T3.setTop (mkF m 13 #[.val (.int p1), .unset, .unset, .unset, .unset, .unset, .unset] [(.int (1 : Int32)), (.ref b1), (.ref b1)])) _
    refine st4 _ ?_
    show Steps p.tables e below (T4.setTop (mkF m 16 #[.val (.int p1), .unset, .unset, .unset, .unset, .unset, .unset] [(.ref wW2), (.int (1 : Int32)), (.ref b1), (.ref b1)])) _
    refine st5 _ ?_
    show Steps p.tables e below (T5.setTop (mkF m 17 #[.val (.int p1), .unset, .unset, .unset, .unset, .unset, .unset] [(.ref b1)])) _
    refine XS.dup X5.here hx rfl (hb hby at_17) rfl rfl ?_
    show Steps p.tables e below (T5.setTop (mkF m 18 #[.val (.int p1), .unset, .unset, .unset, .unset, .unset, .unset] [(.ref b1), (.ref b1)])) _
    refine XS.iconst X5.here hx rfl (hb hby at_18) ?_
    show Steps p.tables e below (T5.setTop (mkF m 19 #[.val (.int p1), .unset, .unset, .unset, .unset, .unset, .unset] [(.int (2 : Int32)), (.ref b1), (.ref b1)])) _
    refine st6 _ ?_
    show Steps p.tables e below (T6.setTop (mkF m 22 #[.val (.int p1), .unset, .unset, .unset, .unset, .unset, .unset] [(.ref wW3), (.int (2 : Int32)), (.ref b1), (.ref b1)])) _
    refine st7 _ ?_
    show Steps p.tables e below (T7.setTop (mkF m 23 #[.val (.int p1), .unset, .unset, .unset, .unset, .unset, .unset] [(.ref b1)])) _
    refine XS.dup X7.here hx rfl (hb hby at_23) rfl rfl ?_
    show Steps p.tables e below (T7.setTop (mkF m 24 #[.val (.int p1), .unset, .unset, .unset, .unset, .unset, .unset] [(.ref b1), (.ref b1)])) _
    refine XS.iconst X7.here hx rfl (hb hby at_24) ?_
    show Steps p.tables e below (T7.setTop (mkF m 25 #[.val (.int p1), .unset, .unset, .unset, .unset, .unset, .unset] [(.int (3 : Int32)), (.ref b1), (.ref b1)])) _
    refine st8 _ ?_
    show Steps p.tables e below (T8.setTop (mkF m 28 #[.val (.int p1), .unset, .unset, .unset, .unset, .unset, .unset] [(.ref wW4), (.int (3 : Int32)), (.ref b1), (.ref b1)])) _
    refine st9 _ ?_
    show Steps p.tables e below (T9.setTop (mkF m 29 #[.val (.int p1), .unset, .unset, .unset, .unset, .unset, .unset] [(.ref b1)])) _
    refine XS.dup X9.here hx rfl (hb hby at_29) rfl rfl ?_
    show Steps p.tables e below (T9.setTop (mkF m 30 #[.val (.int p1), .unset, .unset, .unset, .unset, .unset, .unset] [(.ref b1), (.ref b1)])) _
    refine XS.iconst X9.here hx rfl (hb hby at_30) ?_
    show Steps p.tables e below (T9.setTop (mkF m 31 #[.val (.int p1), .unset, .unset, .unset, .unset, .unset, .unset] [(.int (4 : Int32)), (.ref b1), (.ref b1)])) _
    refine st10 _ ?_
    show Steps p.tables e below (T10.setTop (mkF m 34 #[.val (.int p1), .unset, .unset, .unset, .unset, .unset, .unset] [(.ref wW5), (.int (4 : Int32)), (.ref b1), (.ref b1)])) _
    refine st11 _ ?_
    show Steps p.tables e below (T11.setTop (mkF m 35 #[.val (.int p1), .unset, .unset, .unset, .unset, .unset, .unset] [(.ref b1)])) _
    refine XS.dup X11.here hx rfl (hb hby at_35) rfl rfl ?_
    show Steps p.tables e below (T11.setTop (mkF m 36 #[.val (.int p1), .unset, .unset, .unset, .unset, .unset, .unset] [(.ref b1), (.ref b1)])) _
    refine XS.iconst X11.here hx rfl (hb hby at_36) ?_
    show Steps p.tables e below (T11.setTop (mkF m 37 #[.val (.int p1), .unset, .unset, .unset, .unset, .unset, .unset] [(.int (5 : Int32)), (.ref b1), (.ref b1)])) _
    refine st12 _ ?_
    show Steps p.tables e below (T12.setTop (mkF m 40 #[.val (.int p1), .unset, .unset, .unset, .unset, .unset, .unset] [(.ref wW6), (.int (5 : Int32)), (.ref b1), (.ref b1)])) _
    refine st13 _ ?_
    show Steps p.tables e below (T13.setTop (mkF m 41 #[.val (.int p1), .unset, .unset, .unset, .unset, .unset, .unset] [(.ref b1)])) _
    refine XS.dup X13.here hx rfl (hb hby at_41) rfl rfl ?_
    show Steps p.tables e below (T13.setTop (mkF m 42 #[.val (.int p1), .unset, .unset, .unset, .unset, .unset, .unset] [(.ref b1), (.ref b1)])) _
    refine XS.bipush X13.here hx rfl (hb hby at_42) ?_
    show Steps p.tables e below (T13.setTop (mkF m 44 #[.val (.int p1), .unset, .unset, .unset, .unset, .unset, .unset] [(.int (6 : Int32)), (.ref b1), (.ref b1)])) _
    refine st14 _ ?_
    show Steps p.tables e below (T14.setTop (mkF m 47 #[.val (.int p1), .unset, .unset, .unset, .unset, .unset, .unset] [(.ref wCW1), (.int (6 : Int32)), (.ref b1), (.ref b1)])) _
    refine st15 _ ?_
    show Steps p.tables e below (T15.setTop (mkF m 48 #[.val (.int p1), .unset, .unset, .unset, .unset, .unset, .unset] [(.ref b1)])) _
    refine XS.dup X15.here hx rfl (hb hby at_48) rfl rfl ?_
    show Steps p.tables e below (T15.setTop (mkF m 49 #[.val (.int p1), .unset, .unset, .unset, .unset, .unset, .unset] [(.ref b1), (.ref b1)])) _
    refine XS.bipush X15.here hx rfl (hb hby at_49) ?_
    show Steps p.tables e below (T15.setTop (mkF m 51 #[.val (.int p1), .unset, .unset, .unset, .unset, .unset, .unset] [(.int (7 : Int32)), (.ref b1), (.ref b1)])) _
    refine st16 _ ?_
    show Steps p.tables e below (T16.setTop (mkF m 54 #[.val (.int p1), .unset, .unset, .unset, .unset, .unset, .unset] [(.ref wCW2), (.int (7 : Int32)), (.ref b1), (.ref b1)])) _
    refine st17 _ ?_
    show Steps p.tables e below (T17.setTop (mkF m 55 #[.val (.int p1), .unset, .unset, .unset, .unset, .unset, .unset] [(.ref b1)])) _
    refine XS.dup X17.here hx rfl (hb hby at_55) rfl rfl ?_
    show Steps p.tables e below (T17.setTop (mkF m 56 #[.val (.int p1), .unset, .unset, .unset, .unset, .unset, .unset] [(.ref b1), (.ref b1)])) _
    refine XS.bipush X17.here hx rfl (hb hby at_56) ?_
    show Steps p.tables e below (T17.setTop (mkF m 58 #[.val (.int p1), .unset, .unset, .unset, .unset, .unset, .unset] [(.int (8 : Int32)), (.ref b1), (.ref b1)])) _
    refine st18 _ ?_
    show Steps p.tables e below (T18.setTop (mkF m 61 #[.val (.int p1), .unset, .unset, .unset, .unset, .unset, .unset] [(.ref wCW3), (.int (8 : Int32)), (.ref b1), (.ref b1)])) _
    refine st19 _ ?_
    show Steps p.tables e below (T19.setTop (mkF m 62 #[.val (.int p1), .unset, .unset, .unset, .unset, .unset, .unset] [(.ref b1)])) _
    refine XS.dup X19.here hx rfl (hb hby at_62) rfl rfl ?_
    show Steps p.tables e below (T19.setTop (mkF m 63 #[.val (.int p1), .unset, .unset, .unset, .unset, .unset, .unset] [(.ref b1), (.ref b1)])) _
    refine XS.bipush X19.here hx rfl (hb hby at_63) ?_
    show Steps p.tables e below (T19.setTop (mkF m 65 #[.val (.int p1), .unset, .unset, .unset, .unset, .unset, .unset] [(.int (9 : Int32)), (.ref b1), (.ref b1)])) _
    refine st20 _ ?_
    show Steps p.tables e below (T20.setTop (mkF m 68 #[.val (.int p1), .unset, .unset, .unset, .unset, .unset, .unset] [(.ref wCW4), (.int (9 : Int32)), (.ref b1), (.ref b1)])) _
    refine st21 _ ?_
    show Steps p.tables e below (T21.setTop (mkF m 69 #[.val (.int p1), .unset, .unset, .unset, .unset, .unset, .unset] [(.ref b1)])) _
    refine XS.dup X21.here hx rfl (hb hby at_69) rfl rfl ?_
    show Steps p.tables e below (T21.setTop (mkF m 70 #[.val (.int p1), .unset, .unset, .unset, .unset, .unset, .unset] [(.ref b1), (.ref b1)])) _
    refine XS.bipush X21.here hx rfl (hb hby at_70) ?_
    show Steps p.tables e below (T21.setTop (mkF m 72 #[.val (.int p1), .unset, .unset, .unset, .unset, .unset, .unset] [(.int (10 : Int32)), (.ref b1), (.ref b1)])) _
    refine st22 _ ?_
    show Steps p.tables e below (T22.setTop (mkF m 75 #[.val (.int p1), .unset, .unset, .unset, .unset, .unset, .unset] [(.ref wCW5), (.int (10 : Int32)), (.ref b1), (.ref b1)])) _
    refine st23 _ ?_
    show Steps p.tables e below (T23.setTop (mkF m 76 #[.val (.int p1), .unset, .unset, .unset, .unset, .unset, .unset] [(.ref b1)])) _
    refine XS.dup X23.here hx rfl (hb hby at_76) rfl rfl ?_
    show Steps p.tables e below (T23.setTop (mkF m 77 #[.val (.int p1), .unset, .unset, .unset, .unset, .unset, .unset] [(.ref b1), (.ref b1)])) _
    refine XS.bipush X23.here hx rfl (hb hby at_77) ?_
    show Steps p.tables e below (T23.setTop (mkF m 79 #[.val (.int p1), .unset, .unset, .unset, .unset, .unset, .unset] [(.int (11 : Int32)), (.ref b1), (.ref b1)])) _
    refine st24 _ ?_
    show Steps p.tables e below (T24.setTop (mkF m 82 #[.val (.int p1), .unset, .unset, .unset, .unset, .unset, .unset] [(.ref wCW6), (.int (11 : Int32)), (.ref b1), (.ref b1)])) _
    refine st25 _ ?_
    show Steps p.tables e below (T25.setTop (mkF m 83 #[.val (.int p1), .unset, .unset, .unset, .unset, .unset, .unset] [(.ref b1)])) _
    refine XS.astoreN X25.here hx rfl (hb hby at_83) rfl rfl (l' := #[.val (.int p1), .val (.ref b1), .unset, .unset, .unset, .unset, .unset]) rfl ?_
    show Steps p.tables e below (T25.setTop (mkF m 84 #[.val (.int p1), .val (.ref b1), .unset, .unset, .unset, .unset, .unset] [])) _
    refine XS.iloadN X25.here hx rfl (hb hby at_84) rfl ?_
    show Steps p.tables e below (T25.setTop (mkF m 85 #[.val (.int p1), .val (.ref b1), .unset, .unset, .unset, .unset, .unset] [(.int p1)])) _
    refine Jvm.Stand.ldcI X25 hx hown (mvT hZ (hw _ (List.mem_of_getElem? (i := 28) rfl))) rfl (hb hby at_85) ?_
    show Steps p.tables e below (T25.setTop (mkF m 87 #[.val (.int p1), .val (.ref b1), .unset, .unset, .unset, .unset, .unset] [(.int (2147483647 : Int32)), (.int p1)])) _
    refine XS.iand X25.here hx rfl (hb hby at_87) rfl ?_
    show Steps p.tables e below (T25.setTop (mkF m 88 #[.val (.int p1), .val (.ref b1), .unset, .unset, .unset, .unset, .unset] [(.int (p1 &&& (2147483647 : Int32)))])) _
    refine XS.bipush X25.here hx rfl (hb hby at_88) ?_
    show Steps p.tables e below (T25.setTop (mkF m 90 #[.val (.int p1), .val (.ref b1), .unset, .unset, .unset, .unset, .unset] [(.int (12 : Int32)), (.int (p1 &&& (2147483647 : Int32)))])) _
    refine iremM X25 hx rfl (hb hby at_90) rfl (by decide) ?_
    show Steps p.tables e below (T25.setTop (mkF m 91 #[.val (.int p1), .val (.ref b1), .unset, .unset, .unset, .unset, .unset] [(.int ((p1 &&& (2147483647 : Int32)) % (12 : Int32)))])) _
    refine castTop (g' := (mkF m 91 #[.val (.int p1), .val (.ref b1), .unset, .unset, .unset, .unset, .unset] [(.int (8 : Int32))])) (by rw [hi]) ?_
    show Steps p.tables e below (T25.setTop (mkF m 91 #[.val (.int p1), .val (.ref b1), .unset, .unset, .unset, .unset, .unset] [(.int (8 : Int32))])) _
    refine XS.istoreN X25.here hx rfl (hb hby at_91) rfl (l' := #[.val (.int p1), .val (.ref b1), .val (.int (8 : Int32)), .unset, .unset, .unset, .unset]) rfl ?_
    show Steps p.tables e below (T25.setTop (mkF m 92 #[.val (.int p1), .val (.ref b1), .val (.int (8 : Int32)), .unset, .unset, .unset, .unset] [])) _
    refine XS.aloadN X25.here hx rfl (hb hby at_92) rfl rfl ?_
    show Steps p.tables e below (T25.setTop (mkF m 93 #[.val (.int p1), .val (.ref b1), .val (.int (8 : Int32)), .unset, .unset, .unset, .unset] [(.ref b1)])) _
    refine XS.iloadN X25.here hx rfl (hb hby at_93) rfl ?_
    show Steps p.tables e below (T25.setTop (mkF m 94 #[.val (.int p1), .val (.ref b1), .val (.int (8 : Int32)), .unset, .unset, .unset, .unset] [(.int (8 : Int32)), (.ref b1)])) _
    refine X25.aaload hx (j := (8 : Int32)) (v := (.ref wCW3)) (by rw [e25]; exact Ar26.1) (State.isArrayOf_alike hZ.alike Ar26.2.1) rfl Ar26.2.2 hin27 hat27 (g := (mkF m 94 #[.val (.int p1), .val (.ref b1), .val (.int (8 : Int32)), .unset, .unset, .unset, .unset] [(.int (8 : Int32)), (.ref b1)])) rfl rfl (hb hby at_94) _ ?_
    show Steps p.tables e below (T25.setTop (mkF m 95 #[.val (.int p1), .val (.ref b1), .val (.int (8 : Int32)), .unset, .unset, .unset, .unset] [(.ref wCW3)])) _
    refine XS.astoreN X25.here hx rfl (hb hby at_95) rfl rfl (l' := #[.val (.int p1), .val (.ref b1), .val (.int (8 : Int32)), .val (.ref wCW3), .unset, .unset, .unset]) rfl ?_
    show Steps p.tables e below (T25.setTop (mkF m 96 #[.val (.int p1), .val (.ref b1), .val (.int (8 : Int32)), .val (.ref wCW3), .unset, .unset, .unset] [])) _
    refine XS.iloadN X25.here hx rfl (hb hby at_96) rfl ?_
    show Steps p.tables e below (T25.setTop (mkF m 97 #[.val (.int p1), .val (.ref b1), .val (.int (8 : Int32)), .val (.ref wCW3), .unset, .unset, .unset] [(.int (8 : Int32))])) _
    refine XS.bipush X25.here hx rfl (hb hby at_97) ?_
    show Steps p.tables e below (T25.setTop (mkF m 99 #[.val (.int p1), .val (.ref b1), .val (.int (8 : Int32)), .val (.ref wCW3), .unset, .unset, .unset] [(.int (6 : Int32)), (.int (8 : Int32))])) _
    refine iremM X25 hx rfl (hb hby at_99) rfl (by decide) ?_
    show Steps p.tables e below (T25.setTop (mkF m 100 #[.val (.int p1), .val (.ref b1), .val (.int (8 : Int32)), .val (.ref wCW3), .unset, .unset, .unset] [(.int ((8 : Int32) % (6 : Int32)))])) _
    refine castTop (g' := (mkF m 100 #[.val (.int p1), .val (.ref b1), .val (.int (8 : Int32)), .val (.ref wCW3), .unset, .unset, .unset] [(.int (2 : Int32))])) (by rw [show ((8 : Int32) % (6 : Int32)) = (2 : Int32) from by decide]) ?_
    show Steps p.tables e below (T25.setTop (mkF m 100 #[.val (.int p1), .val (.ref b1), .val (.int (8 : Int32)), .val (.ref wCW3), .unset, .unset, .unset] [(.int (2 : Int32))])) _
    refine XS.ifYes X25.here hx rfl (pc0 := 100) (pc' := 107) rfl (hb hby at_100) rfl (by decide) (by decide) (by decide) ?_
    show Steps p.tables e below (T25.setTop (mkF m 107 #[.val (.int p1), .val (.ref b1), .val (.int (8 : Int32)), .val (.ref wCW3), .unset, .unset, .unset] [])) _
    refine XS.iconst X25.here hx rfl (hb hby at_107) ?_
    show Steps p.tables e below (T25.setTop (mkF m 108 #[.val (.int p1), .val (.ref b1), .val (.int (8 : Int32)), .val (.ref wCW3), .unset, .unset, .unset] [(.int (0 : Int32))])) _
    refine XS.istore X25.here hx rfl (hb hby at_108) rfl (l' := #[.val (.int p1), .val (.ref b1), .val (.int (8 : Int32)), .val (.ref wCW3), .val (.int (0 : Int32)), .unset, .unset]) rfl ?_
    show Steps p.tables e below (T25.setTop (mkF m 110 #[.val (.int p1), .val (.ref b1), .val (.int (8 : Int32)), .val (.ref wCW3), .val (.int (0 : Int32)), .unset, .unset] [])) _
    refine XS.aloadN X25.here hx rfl (hb hby at_110) rfl rfl ?_
    show Steps p.tables e below (T25.setTop (mkF m 111 #[.val (.int p1), .val (.ref b1), .val (.int (8 : Int32)), .val (.ref wCW3), .val (.int (0 : Int32)), .unset, .unset] [(.ref wCW3)])) _
    refine st28.trans ?_
    show Steps p.tables e below (T28.setTop (mkF m 114 #[.val (.int p1), .val (.ref b1), .val (.int (8 : Int32)), .val (.ref wCW3), .val (.int (0 : Int32)), .unset, .unset] [(.int (0 : Int32))])) _
    refine XS.istore X28.here hx rfl (hb hby at_114) rfl (l' := #[.val (.int p1), .val (.ref b1), .val (.int (8 : Int32)), .val (.ref wCW3), .val (.int (0 : Int32)), .val (.int (0 : Int32)), .unset]) rfl ?_
    show Steps p.tables e below (T28.setTop (mkF m 116 #[.val (.int p1), .val (.ref b1), .val (.int (8 : Int32)), .val (.ref wCW3), .val (.int (0 : Int32)), .val (.int (0 : Int32)), .unset] [])) _
    refine XS.aloadN X28.here hx rfl (hb hby at_116) rfl rfl ?_
    show Steps p.tables e below (T28.setTop (mkF m 117 #[.val (.int p1), .val (.ref b1), .val (.int (8 : Int32)), .val (.ref wCW3), .val (.int (0 : Int32)), .val (.int (0 : Int32)), .unset] [(.ref wCW3)])) _
    refine st29.trans ?_
    show Steps p.tables e below (T29.setTop (mkF m 120 #[.val (.int p1), .val (.ref b1), .val (.int (8 : Int32)), .val (.ref wCW3), .val (.int (0 : Int32)), .val (.int (0 : Int32)), .unset] [(.ref wCW3)])) _
    refine st30.trans ?_
    show Steps p.tables e below (T30.setTop (mkF m 123 #[.val (.int p1), .val (.ref b1), .val (.int (8 : Int32)), .val (.ref wCW3), .val (.int (0 : Int32)), .val (.int (0 : Int32)), .unset] [(.int (0 : Int32))])) _
    refine XS.istore X30.here hx rfl (hb hby at_123) rfl (l' := #[.val (.int p1), .val (.ref b1), .val (.int (8 : Int32)), .val (.ref wCW3), .val (.int (0 : Int32)), .val (.int (0 : Int32)), .val (.int (0 : Int32))]) rfl ?_
    show Steps p.tables e below (T30.setTop (mkF m 125 #[.val (.int p1), .val (.ref b1), .val (.int (8 : Int32)), .val (.ref wCW3), .val (.int (0 : Int32)), .val (.int (0 : Int32)), .val (.int (0 : Int32))] [])) _
    refine XS.iload X30.here hx rfl (hb hby at_125) rfl ?_
    show Steps p.tables e below (T30.setTop (mkF m 127 #[.val (.int p1), .val (.ref b1), .val (.int (8 : Int32)), .val (.ref wCW3), .val (.int (0 : Int32)), .val (.int (0 : Int32)), .val (.int (0 : Int32))] [(.int (0 : Int32))])) _
    refine XS.iload X30.here hx rfl (hb hby at_127) rfl ?_
    show Steps p.tables e below (T30.setTop (mkF m 129 #[.val (.int p1), .val (.ref b1), .val (.int (8 : Int32)), .val (.ref wCW3), .val (.int (0 : Int32)), .val (.int (0 : Int32)), .val (.int (0 : Int32))] [(.int (0 : Int32)), (.int (0 : Int32))])) _
    refine XS.icmpNo X30.here hx rfl (hb hby at_129) rfl (by decide) ?_
    show Steps p.tables e below (T30.setTop (mkF m 132 #[.val (.int p1), .val (.ref b1), .val (.int (8 : Int32)), .val (.ref wCW3), .val (.int (0 : Int32)), .val (.int (0 : Int32)), .val (.int (0 : Int32))] [])) _
    refine XS.iload X30.here hx rfl (hb hby at_132) rfl ?_
    show Steps p.tables e below (T30.setTop (mkF m 134 #[.val (.int p1), .val (.ref b1), .val (.int (8 : Int32)), .val (.ref wCW3), .val (.int (0 : Int32)), .val (.int (0 : Int32)), .val (.int (0 : Int32))] [(.int (0 : Int32))])) _
    refine XS.iload X30.here hx rfl (hb hby at_134) rfl ?_
    show Steps p.tables e below (T30.setTop (mkF m 136 #[.val (.int p1), .val (.ref b1), .val (.int (8 : Int32)), .val (.ref wCW3), .val (.int (0 : Int32)), .val (.int (0 : Int32)), .val (.int (0 : Int32))] [(.int (0 : Int32)), (.int (0 : Int32))])) _
    refine XS.icmpNo X30.here hx rfl (hb hby at_136) rfl (by decide) ?_
    show Steps p.tables e below (T30.setTop (mkF m 139 #[.val (.int p1), .val (.ref b1), .val (.int (8 : Int32)), .val (.ref wCW3), .val (.int (0 : Int32)), .val (.int (0 : Int32)), .val (.int (0 : Int32))] [])) _
    refine XS.iconst X30.here hx rfl (hb hby at_139) ?_
    show Steps p.tables e below (T30.setTop (mkF m 140 #[.val (.int p1), .val (.ref b1), .val (.int (8 : Int32)), .val (.ref wCW3), .val (.int (0 : Int32)), .val (.int (0 : Int32)), .val (.int (0 : Int32))] [(.int (1 : Int32))])) _
    refine XS.goto X30.here hx rfl (pc0 := 140) (pc' := 144) rfl (hb hby at_140) (by decide) (by decide) ?_
    show Steps p.tables e below (T30.setTop (mkF m 144 #[.val (.int p1), .val (.ref b1), .val (.int (8 : Int32)), .val (.ref wCW3), .val (.int (0 : Int32)), .val (.int (0 : Int32)), .val (.int (0 : Int32))] [(.int (1 : Int32))])) _
    exact retN X30 hx (t := .boolean) Bd.returns (by simp) (hb hby at_144) hr
  · exact ⟨rfl, N30⟩
set_option maxRecDepth 65536 in
set_option maxHeartbeats 40000000 in
theorem own_ordinal_31 (l : Launch) (Z : State) (a0 : Array Value) (hw : ∀ d ∈ tables_1, d.before a0 Z = true) (ws : List Jvm.Cond) (wW1 : Addr) (wW2 : Addr) (wW3 : Addr) (wW4 : Addr) (wW5 : Addr) (wW6 : Addr) (wCW1 : Addr) (wCW2 : Addr) (wCW3 : Addr) (wCW4 : Addr) (wCW5 : Addr) (wCW6 : Addr) (G : OwnG Z wW1 wW2 wW3 wW4 wW5 wW6 wCW1 wCW2 wCW3 wCW4 wCW5 wCW6) (h0 : Heap) (n0 : Nat) (O0 : Old Z n0 h0) :
    MetFree l (⟨"java/lang/Enum", "ordinal", "()I"⟩ : MethodName) (head1 (Jvm.Cond.code (⟨"java/lang/Enum", "ordinal", "()I"⟩ : MethodName) jdk_37_method_2_code 1 (some .int) :: ws) ({ frames := 0, cells := 0, slots := 0, locals := 0 } : Room)) (fun a U => a = #[(.ref wCW4)] ∧ Z.Warmed39 U.vm ∧ U.heap = h0) (fun _ _ _ _ _ => True) (fun _ U o U' => ∃ v L, o = .returned v ∧ OwnQ (some (.int (9 : Int32))) h0 n0 v U'.heap L ∧ FrameEnd U o U' L ({ frames := 0, cells := 0, slots := 0, locals := 0 } : Room).cells ({ frames := 0, cells := 0, slots := 0, locals := 0 } : Room).slots) := by
  refine MetFree.of_bodySF (plainFor_of_name own_pn_3) hisR ?_
  intro p e s m args below meth c s₁ Bd hml0 hP hK
  obtain ⟨rfl, hZ, hh⟩ := hP
  have hx := Bd.exec
  have hby := Bd.bytes
  have hml : c.maxLocals = 1 := hml0
  have hown : s.vm.findClass "java/lang/Enum" = some m.cls := findClass_of_methodNamed Bd.named
  have hnm := (name_of_methodNamed Bd.named Bd.method).1
  have X0 : Stand p l e ({ frames := 0, cells := 0, slots := 0, locals := 0 } : Room) s m #[(.ref wCW4)] below meth c s₁ [] 0 0 := Stand.of_body Bd
  have e0 : s₁.heap = h0 := by rw [← hh, Bd.state]; rfl
  have N0 := Fr.nil n0
  have pre0 : ∀ t, Steps p.tables e below (s₁.setTop (mkF m 0 #[.val (.ref wCW4)] [])) t → Steps p.tables e below (s₁.setTop (entryFrame m #[(.ref wCW4)] 1)) t := fun t k => castTop (own_ef_3_R m wCW4) k
  obtain ⟨T1, X1, e1, st1⟩ := getF X0 hx hZ hown (host := "") (Or.inl (hw _ (List.mem_of_getElem? (i := 47) rfl))) Via.refl e0 (G.2.2.2.2.2.2.2.2.2.2.2.2.2.2.2.2.2.2.2.2.2.2.2.2.2.2.2.1.ext O0.2) (g := (mkF m 1 #[.val (.ref wCW4)] [(.ref wCW4)])) rfl rfl (hb hby own_d3_1)
  obtain ⟨fs, hr, hrun, hended, hW, hsame⟩ := X1.leave (v := some (.int (9 : Int32))) (fun h => by rw [Bd.returns] at h; cases h)
  refine ⟨_, _, pre0 _ ?_, hrun, hended, _, _, rfl, ?_, ⟨_, rfl⟩, hW, hsame.mono (by decide) (by decide)⟩
  · show Steps p.tables e below (s₁.setTop (mkF m 0 #[.val (.ref wCW4)] [])) _
    refine XS.aloadN X0.here hx rfl (hb hby own_d3_0) rfl rfl ?_
    show Steps p.tables e below (s₁.setTop (mkF m 1 #[.val (.ref wCW4)] [(.ref wCW4)])) _
    refine st1 _ ?_
    show Steps p.tables e below (T1.setTop (mkF m 4 #[.val (.ref wCW4)] [(.int (9 : Int32))])) _
    exact retI X1 hx Bd.returns (hb hby own_d3_4) hr
  · show OwnQ _ h0 n0 _ T1.heap _
    exact ⟨rfl, N0, e1⟩
set_option maxRecDepth 65536 in
set_option maxHeartbeats 40000000 in
theorem own_atInstant_30 (l : Launch) (Z : State) (a0 : Array Value) (hw : ∀ d ∈ tables_1, d.before a0 Z = true) (ws : List Jvm.Cond) (wW1 : Addr) (wW2 : Addr) (wW3 : Addr) (wW4 : Addr) (wW5 : Addr) (wW6 : Addr) (wCW1 : Addr) (wCW2 : Addr) (wCW3 : Addr) (wCW4 : Addr) (wCW5 : Addr) (wCW6 : Addr) (G : OwnG Z wW1 wW2 wW3 wW4 wW5 wW6 wCW1 wCW2 wCW3 wCW4 wCW5 wCW6) (h0 : Heap) (n0 : Nat) (O0 : Old Z n0 h0) :
    MetFree l (⟨"com/example/credlib/credlib/engine/Rule", "atInstant", "()Lcom/example/credlib/credlib/engine/Rule;"⟩ : MethodName) (head1 (Jvm.Cond.code (⟨"com/example/credlib/credlib/engine/Rule", "atInstant", "()Lcom/example/credlib/credlib/engine/Rule;"⟩ : MethodName) prog_18_method_5_code 1 (some (.object "com/example/credlib/credlib/engine/Rule")) :: ws) ({ frames := 1, cells := 0, slots := 0, locals := 12 } : Room)) (fun a U => a = #[(.ref wCW4)] ∧ Z.Warmed39 U.vm ∧ U.heap = h0) (fun _ _ _ _ _ => True) (fun _ U o U' => ∃ v L, o = .returned v ∧ OwnQ (some (.ref wCW4)) h0 n0 v U'.heap L ∧ FrameEnd U o U' L ({ frames := 1, cells := 0, slots := 0, locals := 12 } : Room).cells ({ frames := 1, cells := 0, slots := 0, locals := 12 } : Room).slots) := by
  refine MetFree.of_bodySF (plainFor_of_name own_pn_1) hisR ?_
  intro p e s m args below meth c s₁ Bd hml0 hP hK
  obtain ⟨rfl, hZ, hh⟩ := hP
  have hx := Bd.exec
  have hby := Bd.bytes
  have hml : c.maxLocals = 1 := hml0
  have hown : s.vm.findClass "com/example/credlib/credlib/engine/Rule" = some m.cls := findClass_of_methodNamed Bd.named
  have hnm := (name_of_methodNamed Bd.named Bd.method).1
  have X0 : Stand p l e ({ frames := 1, cells := 0, slots := 0, locals := 12 } : Room) s m #[(.ref wCW4)] below meth c s₁ [] 0 0 := Stand.of_body Bd
  have e0 : s₁.heap = h0 := by rw [← hh, Bd.state]; rfl
  have N0 := Fr.nil n0
  have pre0 : ∀ t, Steps p.tables e below (s₁.setTop (mkF m 0 #[.val (.ref wCW4)] [])) t → Steps p.tables e below (s₁.setTop (entryFrame m #[(.ref wCW4)] 1)) t := fun t k => castTop (own_ef_2_R m wCW4) k
  obtain ⟨cq1, kq1, q1a, q1b, q1c⟩ := isOf hZ e0 (G.2.2.2.2.2.2.2.2.2.2.2.2.2.2.2.2.2.2.2.1.ext O0.2)
  obtain ⟨_, _, ⟨T1, L1, k1, n1⟩, -, X1, ⟨Lc1, hQ1, l1, y1, z1⟩, st1⟩ := X0.virtualBackUp hx (x := (⟨"com/example/credlib/credlib/engine/Rule", "ordinal", "()I"⟩ : MethodName)) (y := (⟨"java/lang/Enum", "ordinal", "()I"⟩ : MethodName)) (owner := "java/lang/Enum") hown (mvT hZ (hw _ (List.mem_of_getElem? (i := 40) rfl))) (mvT hZ (hw _ (List.mem_of_getElem? (i := 41) rfl))) (mvT hZ (hw _ (List.mem_of_getElem? (i := 42) rfl))) (by decide) (mvT hZ (hw _ (List.mem_of_getElem? (i := 44) rfl))) (mvT hZ (hw _ (List.mem_of_getElem? (i := 43) rfl))) (backOf (W := 0) (own_ordinal_31 l Z a0 hw [] wW1 wW2 wW3 wW4 wW5 wW6 wCW1 wCW2 wCW3 wCW4 wCW5 wCW6 G h0 n0 O0) hZ (hw _ (List.mem_of_getElem? (i := 46) rfl)) (hw _ (List.mem_of_getElem? (i := 45) rfl)) (by decide) (by decide)) q1a q1c (g := (mkF m 1 #[.val (.ref wCW4)] [(.ref wCW4)])) rfl (by rw [hml]; rfl) (Steps.refl _) (argsL := []) (rest := []) (lenOf own_pd_1 rfl) rfl (by show 2 * 0 + _ ≤ _; exact Nat.le_of_eq rfl) (hb hby own_d2_1) (fun _ _ => ⟨rfl, e0, (by decide : 0 + 0 ≤ _), (by decide : 0 + 0 ≤ _)⟩)
  dsimp only [Pt.U, Pt.locs, Pt.cells, Pt.slots] at X1 l1 y1 z1 st1 hQ1
  subst l1 y1 z1
  obtain ⟨rfl, N1q, e1⟩ := hQ1
  have N1 := Fr.app N0 N1q
  obtain ⟨fs, hr, hrun, hended, hW, hsame⟩ := X1.leave (v := some (.ref wCW4)) (fun h => by rw [Bd.returns] at h; cases h)
  refine ⟨_, _, pre0 _ ?_, hrun, hended, _, _, rfl, ?_, ⟨_, rfl⟩, hW, hsame.mono (by decide) (by decide)⟩
  · show Steps p.tables e below (s₁.setTop (mkF m 0 #[.val (.ref wCW4)] [])) _
    refine XS.aloadN X0.here hx rfl (hb hby own_d2_0) rfl rfl ?_
    show Steps p.tables e below (s₁.setTop (mkF m 1 #[.val (.ref wCW4)] [(.ref wCW4)])) _
    refine st1.trans ?_
    show Steps p.tables e below (T1.setTop (mkF m 4 #[.val (.ref wCW4)] [(.int (9 : Int32))])) _
    refine XS.tswOut X1.here hx rfl (pc0 := 4) (pc' := 80) rfl (hb hby own_d2_4) rfl (by decide) (by decide) (by decide) ?_
    show Steps p.tables e below (T1.setTop (mkF m 80 #[.val (.ref wCW4)] [])) _
    refine XS.aloadN X1.here hx rfl (hb hby own_d2_80) rfl rfl ?_
    show Steps p.tables e below (T1.setTop (mkF m 81 #[.val (.ref wCW4)] [(.ref wCW4)])) _
    jvm_step X1.here [X1.here.top, hx, (hb hby own_d2_81), X1.method', Bd.returns, Value.isRef, FieldType.isReference]
    first | (intro acts; rw [hr _ acts rfl rfl rfl]) | rw [hr _ _ rfl rfl rfl]
    exact Steps.refl _
  · show OwnQ _ h0 n0 _ T1.heap _
    exact ⟨rfl, N1, e1⟩
set_option maxRecDepth 65536 in
set_option maxHeartbeats 40000000 in
theorem own_law_9 (l : Launch) (Z : State) (a0 : Array Value) (hw : ∀ d ∈ tables_1, d.before a0 Z = true) (ws : List Jvm.Cond) (wW1 : Addr) (wW2 : Addr) (wW3 : Addr) (wW4 : Addr) (wW5 : Addr) (wW6 : Addr) (wCW1 : Addr) (wCW2 : Addr) (wCW3 : Addr) (wCW4 : Addr) (wCW5 : Addr) (wCW6 : Addr) (G : OwnG Z wW1 wW2 wW3 wW4 wW5 wW6 wCW1 wCW2 wCW3 wCW4 wCW5 wCW6) (h0 : Heap) (n0 : Nat) (O0 : Old Z n0 h0) (p1 : Int32) (hi : ((p1 &&& (2147483647 : Int32)) % (12 : Int32)) = (9 : Int32)) :
    MetFree l x (head1 (Jvm.Cond.code x code maxLocals ret :: ws) room_1) (fun a U => a = #[(.int p1)] ∧ Z.Warmed39 U.vm ∧ U.heap = h0) (fun _ _ _ _ _ => True) (fun _ U o U' => ∃ v L, o = .returned v ∧ (v = some (.int 1) ∧ Fr n0 L) ∧ FrameEnd U o U' L room_1.cells room_1.slots) := by
  refine MetFree.of_bodySF (plainFor_of_name own_pn_0) hisR ?_
  intro p e s m args below meth c s₁ Bd hml0 hP hK
  obtain ⟨rfl, hZ, hh⟩ := hP
  have hx := Bd.exec
  have hby := Bd.bytes
  have hml : c.maxLocals = 7 := hml0
  have hown : s.vm.findClass "com/example/credlib/credlib/engine/RuleStatesCredentialPinLaw" = some m.cls := findClass_of_methodNamed Bd.named
  have hnm := (name_of_methodNamed Bd.named Bd.method).1
  have X0 : Stand p l e room_1 s m #[(.int p1)] below meth c s₁ [] 0 0 := Stand.of_body Bd
  have e0 : s₁.heap = h0 := by rw [← hh, Bd.state]; rfl
  have N0 := Fr.nil n0
  have pre0 : ∀ t, Steps p.tables e below (s₁.setTop (mkF m 0 #[.val (.int p1), .unset, .unset, .unset, .unset, .unset, .unset] [])) t → Steps p.tables e below (s₁.setTop (entryFrame m #[(.int p1)] maxLocals)) t := fun t k => castTop (own_ef_0_I m p1) k
  obtain ⟨T1, h1, k1, X1, e1, E1, A1, Ov1, st1⟩ := newR X0 hx hZ hown (hw _ (List.mem_of_getElem? (i := 0) rfl)) (hw _ (List.mem_of_getElem? (i := 1) rfl)) e0 (g := (mkF m 2 #[.val (.int p1), .unset, .unset, .unset, .unset, .unset, .unset] [(.int (12 : Int32))])) rfl (hb hby at_2) rfl (by decide) (cap := 12) (by decide) (by decide) (by decide) (by decide)
  obtain ⟨b1, g1⟩ : ∃ z, z = h0.size := ⟨_, rfl⟩
  rw [← g1] at A1 st1
  have ge_b1 : n0 ≤ b1 := own_new O0 g1
  have sz_b1 : h0.size ≤ b1 := Nat.le_trans (Keep.refl h0 []).1 (Nat.le_of_eq g1.symm)
  have O1 := O0.ext E1
  have K1 := (Keep.refl h0 []).ext E1
  have V1 : Arv Z h1 b1 k1 (.object "com/example/credlib/credlib/engine/Rule") (12 : Int32) [.null, .null, .null, .null, .null, .null, .null, .null, .null, .null, .null, .null] .null := (Arv.new A1 (by decide)).pad (pad_rep [] .null 12)
  obtain ⟨T2, X2, e2, st2⟩ := getS2 X1 hx hZ hown (host := "") (Or.inl (hw _ (List.mem_of_getElem? (i := 2) rfl))) Via.refl e1 (G.1.ext O1.2) (g := (mkF m 7 #[.val (.int p1), .unset, .unset, .unset, .unset, .unset, .unset] [(.int (0 : Int32)), (.ref b1), (.ref b1)])) rfl (hb hby at_7)
  obtain ⟨cl3, Ar3, qk3, Sz3, Nn3, Hs3, Gs3⟩ := id (V1)
  have hin3 : ¬ ((0 : Int32) < 0 ∨ cl3.slots.size ≤ ((0 : Int32)).toNatClampNeg) := inb_of Sz3 ⟨by decide, by decide⟩
  obtain ⟨T3, h3, X3, e3, W3, st3⟩ := stR X2 hx hZ e2 Ar3 (j := (0 : Int32)) hin3 rfl (Sto.ofV Ar3 qk3 Ov1 (Ins.self (G.2.1.ext O1.2))) (g := (mkF m 10 #[.val (.int p1), .unset, .unset, .unset, .unset, .unset, .unset] [(.ref wW1), (.int (0 : Int32)), (.ref b1), (.ref b1)])) rfl rfl (hb hby at_10)
  have V3 := Arv.set Ar3 qk3 Sz3 Nn3 Hs3 Gs3 rfl W3 0 rfl (Nat.le_of_ble_eq_true rfl)
  have O3 := O1.wr W3 ge_b1
  have K3 := K1.wr W3 (Or.inr sz_b1)
  have N3 := Fr.snoc X3 N0 ge_b1
  obtain ⟨T4, X4, e4, st4⟩ := getS2 X3 hx hZ hown (host := "") (Or.inl (hw _ (List.mem_of_getElem? (i := 6) rfl))) Via.refl e3 (G.2.2.1.ext O3.2) (g := (mkF m 13 #[.val (.int p1), .unset, .unset, .unset, .unset, .unset, .unset] [(.int (1 : Int32)), (.ref b1), (.ref b1)])) rfl (hb hby at_13)
  obtain ⟨cl5, Ar5, qk5, Sz5, Nn5, Hs5, Gs5⟩ := id (V3)
  have hin5 : ¬ ((1 : Int32) < 0 ∨ cl5.slots.size ≤ ((1 : Int32)).toNatClampNeg) := inb_of Sz5 ⟨by decide, by decide⟩
  obtain ⟨T5, h5, X5, e5, W5, st5⟩ := stR X4 hx hZ e4 Ar5 (j := (1 : Int32)) hin5 rfl (Sto.ofV Ar5 qk5 Ov1 (Ins.self (G.2.2.2.1.ext O3.2))) (g := (mkF m 16 #[.val (.int p1), .unset, .unset, .unset, .unset, .unset, .unset] [(.ref wW2), (.int (1 : Int32)), (.ref b1), (.ref b1)])) rfl rfl (hb hby at_16)
  have V5 := Arv.set Ar5 qk5 Sz5 Nn5 Hs5 Gs5 rfl W5 1 rfl (Nat.le_of_ble_eq_true rfl)
  have O5 := O3.wr W5 ge_b1
  have K5 := K3.wr W5 (Or.inr sz_b1)
  have N5 := Fr.snoc X5 N3 ge_b1
  obtain ⟨T6, X6, e6, st6⟩ := getS2 X5 hx hZ hown (host := "") (Or.inl (hw _ (List.mem_of_getElem? (i := 8) rfl))) Via.refl e5 (G.2.2.2.2.1.ext O5.2) (g := (mkF m 19 #[.val (.int p1), .unset, .unset, .unset, .unset, .unset, .unset] [(.int (2 : Int32)), (.ref b1), (.ref b1)])) rfl (hb hby at_19)
  obtain ⟨cl7, Ar7, qk7, Sz7, Nn7, Hs7, Gs7⟩ := id (V5)
  have hin7 : ¬ ((2 : Int32) < 0 ∨ cl7.slots.size ≤ ((2 : Int32)).toNatClampNeg) := inb_of Sz7 ⟨by decide, by decide⟩
  obtain ⟨T7, h7, X7, e7, W7, st7⟩ := stR X6 hx hZ e6 Ar7 (j := (2 : Int32)) hin7 rfl (Sto.ofV Ar7 qk7 Ov1 (Ins.self (G.2.2.2.2.2.1.ext O5.2))) (g := (mkF m 22 #[.val (.int p1), .unset, .unset, .unset, .unset, .unset, .unset] [(.ref wW3), (.int (2 : Int32)), (.ref b1), (.ref b1)])) rfl rfl (hb hby at_22)
  have V7 := Arv.set Ar7 qk7 Sz7 Nn7 Hs7 Gs7 rfl W7 2 rfl (Nat.le_of_ble_eq_true rfl)
  have O7 := O5.wr W7 ge_b1
  have K7 := K5.wr W7 (Or.inr sz_b1)
  have N7 := Fr.snoc X7 N5 ge_b1
  obtain ⟨T8, X8, e8, st8⟩ := getS2 X7 hx hZ hown (host := "") (Or.inl (hw _ (List.mem_of_getElem? (i := 10) rfl))) Via.refl e7 (G.2.2.2.2.2.2.1.ext O7.2) (g := (mkF m 25 #[.val (.int p1), .unset, .unset, .unset, .unset, .unset, .unset] [(.int (3 : Int32)), (.ref b1), (.ref b1)])) rfl (hb hby at_25)
  obtain ⟨cl9, Ar9, qk9, Sz9, Nn9, Hs9, Gs9⟩ := id (V7)
  have hin9 : ¬ ((3 : Int32) < 0 ∨ cl9.slots.size ≤ ((3 : Int32)).toNatClampNeg) := inb_of Sz9 ⟨by decide, by decide⟩
  obtain ⟨T9, h9, X9, e9, W9, st9⟩ := stR X8 hx hZ e8 Ar9 (j := (3 : Int32)) hin9 rfl (Sto.ofV Ar9 qk9 Ov1 (Ins.self (G.2.2.2.2.2.2.2.1.ext O7.2))) (g := (mkF m 28 #[.val (.int p1), .unset, .unset, .unset, .unset, .unset, .unset] [(.ref wW4), (.int (3 : Int32)), (.ref b1), (.ref b1)])) rfl rfl (hb hby at_28)
  have V9 := Arv.set Ar9 qk9 Sz9 Nn9 Hs9 Gs9 rfl W9 3 rfl (Nat.le_of_ble_eq_true rfl)
  have O9 := O7.wr W9 ge_b1
  have K9 := K7.wr W9 (Or.inr sz_b1)
  have N9 := Fr.snoc X9 N7 ge_b1
  obtain ⟨T10, X10, e10, st10⟩ := getS2 X9 hx hZ hown (host := "") (Or.inl (hw _ (List.mem_of_getElem? (i := 12) rfl))) Via.refl e9 (G.2.2.2.2.2.2.2.2.1.ext O9.2) (g := (mkF m 31 #[.val (.int p1), .unset, .unset, .unset, .unset, .unset, .unset] [(.int (4 : Int32)), (.ref b1), (.ref b1)])) rfl (hb hby at_31)
  obtain ⟨cl11, Ar11, qk11, Sz11, Nn11, Hs11, Gs11⟩ := id (V9)
  have hin11 : ¬ ((4 : Int32) < 0 ∨ cl11.slots.size ≤ ((4 : Int32)).toNatClampNeg) := inb_of Sz11 ⟨by decide, by decide⟩
  obtain ⟨T11, h11, X11, e11, W11, st11⟩ := stR X10 hx hZ e10 Ar11 (j := (4 : Int32)) hin11 rfl (Sto.ofV Ar11 qk11 Ov1 (Ins.self (G.2.2.2.2.2.2.2.2.2.1.ext O9.2))) (g := (mkF m 34 #[.val (.int p1), .unset, .unset, .unset, .unset, .unset, .unset] [(.ref wW5), (.int (4 : Int32)), (.ref b1), (.ref b1)])) rfl rfl (hb hby at_34)
  have V11 := Arv.set Ar11 qk11 Sz11 Nn11 Hs11 Gs11 rfl W11 4 rfl (Nat.le_of_ble_eq_true rfl)
  have O11 := O9.wr W11 ge_b1
  have K11 := K9.wr W11 (Or.inr sz_b1)
  have N11 := Fr.snoc X11 N9 ge_b1
  obtain ⟨T12, X12, e12, st12⟩ := getS2 X11 hx hZ hown (host := "") (Or.inl (hw _ (List.mem_of_getElem? (i := 14) rfl))) Via.refl e11 (G.2.2.2.2.2.2.2.2.2.2.1.ext O11.2) (g := (mkF m 37 #[.val (.int p1), .unset, .unset, .unset, .unset, .unset, .unset] [(.int (5 : Int32)), (.ref b1), (.ref b1)])) rfl (hb hby at_37)
  obtain ⟨cl13, Ar13, qk13, Sz13, Nn13, Hs13, Gs13⟩ := id (V11)
  have hin13 : ¬ ((5 : Int32) < 0 ∨ cl13.slots.size ≤ ((5 : Int32)).toNatClampNeg) := inb_of Sz13 ⟨by decide, by decide⟩
  obtain ⟨T13, h13, X13, e13, W13, st13⟩ := stR X12 hx hZ e12 Ar13 (j := (5 : Int32)) hin13 rfl (Sto.ofV Ar13 qk13 Ov1 (Ins.self (G.2.2.2.2.2.2.2.2.2.2.2.1.ext O11.2))) (g := (mkF m 40 #[.val (.int p1), .unset, .unset, .unset, .unset, .unset, .unset] [(.ref wW6), (.int (5 : Int32)), (.ref b1), (.ref b1)])) rfl rfl (hb hby at_40)
  have V13 := Arv.set Ar13 qk13 Sz13 Nn13 Hs13 Gs13 rfl W13 5 rfl (Nat.le_of_ble_eq_true rfl)
  have O13 := O11.wr W13 ge_b1
  have K13 := K11.wr W13 (Or.inr sz_b1)
  have N13 := Fr.snoc X13 N11 ge_b1
  obtain ⟨T14, X14, e14, st14⟩ := getS2 X13 hx hZ hown (host := "") (Or.inl (hw _ (List.mem_of_getElem? (i := 16) rfl))) Via.refl e13 (G.2.2.2.2.2.2.2.2.2.2.2.2.1.ext O13.2) (g := (mkF m 44 #[.val (.int p1), .unset, .unset, .unset, .unset, .unset, .unset] [(.int (6 : Int32)), (.ref b1), (.ref b1)])) rfl (hb hby at_44)
  obtain ⟨cl15, Ar15, qk15, Sz15, Nn15, Hs15, Gs15⟩ := id (V13)
  have hin15 : ¬ ((6 : Int32) < 0 ∨ cl15.slots.size ≤ ((6 : Int32)).toNatClampNeg) := inb_of Sz15 ⟨by decide, by decide⟩
  obtain ⟨T15, h15, X15, e15, W15, st15⟩ := stR X14 hx hZ e14 Ar15 (j := (6 : Int32)) hin15 rfl (Sto.ofV Ar15 qk15 Ov1 (Ins.self (G.2.2.2.2.2.2.2.2.2.2.2.2.2.1.ext O13.2))) (g := (mkF m 47 #[.val (.int p1), .unset, .unset, .unset, .unset, .unset, .unset] [(.ref wCW1), (.int (6 : Int32)), (.ref b1), (.ref b1)])) rfl rfl (hb hby at_47)
  have V15 := Arv.set Ar15 qk15 Sz15 Nn15 Hs15 Gs15 rfl W15 6 rfl (Nat.le_of_ble_eq_true rfl)
  have O15 := O13.wr W15 ge_b1
  have K15 := K13.wr W15 (Or.inr sz_b1)
  have N15 := Fr.snoc X15 N13 ge_b1
  obtain ⟨T16, X16, e16, st16⟩ := getS2 X15 hx hZ hown (host := "") (Or.inl (hw _ (List.mem_of_getElem? (i := 18) rfl))) Via.refl e15 (G.2.2.2.2.2.2.2.2.2.2.2.2.2.2.1.ext O15.2) (g := (mkF m 51 #[.val (.int p1), .unset, .unset, .unset, .unset, .unset, .unset] [(.int (7 : Int32)), (.ref b1), (.ref b1)])) rfl (hb hby at_51)
  obtain ⟨cl17, Ar17, qk17, Sz17, Nn17, Hs17, Gs17⟩ := id (V15)
  have hin17 : ¬ ((7 : Int32) < 0 ∨ cl17.slots.size ≤ ((7 : Int32)).toNatClampNeg) := inb_of Sz17 ⟨by decide, by decide⟩
  obtain ⟨T17, h17, X17, e17, W17, st17⟩ := stR X16 hx hZ e16 Ar17 (j := (7 : Int32)) hin17 rfl (Sto.ofV Ar17 qk17 Ov1 (Ins.self (G.2.2.2.2.2.2.2.2.2.2.2.2.2.2.2.1.ext O15.2))) (g := (mkF m 54 #[.val (.int p1), .unset, .unset, .unset, .unset, .unset, .unset] [(.ref wCW2), (.int (7 : Int32)), (.ref b1), (.ref b1)])) rfl rfl (hb hby at_54)
  have V17 := Arv.set Ar17 qk17 Sz17 Nn17 Hs17 Gs17 rfl W17 7 rfl (Nat.le_of_ble_eq_true rfl)
  have O17 := O15.wr W17 ge_b1
  have K17 := K15.wr W17 (Or.inr sz_b1)
  have N17 := Fr.snoc X17 N15 ge_b1
  obtain ⟨T18, X18, e18, st18⟩ := getS2 X17 hx hZ hown (host := "") (Or.inl (hw _ (List.mem_of_getElem? (i := 20) rfl))) Via.refl e17 (G.2.2.2.2.2.2.2.2.2.2.2.2.2.2.2.2.1.ext O17.2) (g := (mkF m 58 #[.val (.int p1), .unset, .unset, .unset, .unset, .unset, .unset] [(.int (8 : Int32)), (.ref b1), (.ref b1)])) rfl (hb hby at_58)
  obtain ⟨cl19, Ar19, qk19, Sz19, Nn19, Hs19, Gs19⟩ := id (V17)
  have hin19 : ¬ ((8 : Int32) < 0 ∨ cl19.slots.size ≤ ((8 : Int32)).toNatClampNeg) := inb_of Sz19 ⟨by decide, by decide⟩
  obtain ⟨T19, h19, X19, e19, W19, st19⟩ := stR X18 hx hZ e18 Ar19 (j := (8 : Int32)) hin19 rfl (Sto.ofV Ar19 qk19 Ov1 (Ins.self (G.2.2.2.2.2.2.2.2.2.2.2.2.2.2.2.2.2.1.ext O17.2))) (g := (mkF m 61 #[.val (.int p1), .unset, .unset, .unset, .unset, .unset, .unset] [(.ref wCW3), (.int (8 : Int32)), (.ref b1), (.ref b1)])) rfl rfl (hb hby at_61)
  have V19 := Arv.set Ar19 qk19 Sz19 Nn19 Hs19 Gs19 rfl W19 8 rfl (Nat.le_of_ble_eq_true rfl)
  have O19 := O17.wr W19 ge_b1
  have K19 := K17.wr W19 (Or.inr sz_b1)
  have N19 := Fr.snoc X19 N17 ge_b1
  obtain ⟨T20, X20, e20, st20⟩ := getS2 X19 hx hZ hown (host := "") (Or.inl (hw _ (List.mem_of_getElem? (i := 22) rfl))) Via.refl e19 (G.2.2.2.2.2.2.2.2.2.2.2.2.2.2.2.2.2.2.1.ext O19.2) (g := (mkF m 65 #[.val (.int p1), .unset, .unset, .unset, .unset, .unset, .unset] [(.int (9 : Int32)), (.ref b1), (.ref b1)])) rfl (hb hby at_65)
  obtain ⟨cl21, Ar21, qk21, Sz21, Nn21, Hs21, Gs21⟩ := id (V19)
  have hin21 : ¬ ((9 : Int32) < 0 ∨ cl21.slots.size ≤ ((9 : Int32)).toNatClampNeg) := inb_of Sz21 ⟨by decide, by decide⟩
  obtain ⟨T21, h21, X21, e21, W21, st21⟩ := stR X20 hx hZ e20 Ar21 (j := (9 : Int32)) hin21 rfl (Sto.ofV Ar21 qk21 Ov1 (Ins.self (G.2.2.2.2.2.2.2.2.2.2.2.2.2.2.2.2.2.2.2.1.ext O19.2))) (g := (mkF m 68 #[.val (.int p1), .unset, .unset, .unset, .unset, .unset, .unset] [(.ref wCW4), (.int (9 : Int32)), (.ref b1), (.ref b1)])) rfl rfl (hb hby at_68)
  have V21 := Arv.set Ar21 qk21 Sz21 Nn21 Hs21 Gs21 rfl W21 9 rfl (Nat.le_of_ble_eq_true rfl)
  have O21 := O19.wr W21 ge_b1
  have K21 := K19.wr W21 (Or.inr sz_b1)
  have N21 := Fr.snoc X21 N19 ge_b1
  obtain ⟨T22, X22, e22, st22⟩ := getS2 X21 hx hZ hown (host := "") (Or.inl (hw _ (List.mem_of_getElem? (i := 24) rfl))) Via.refl e21 (G.2.2.2.2.2.2.2.2.2.2.2.2.2.2.2.2.2.2.2.2.1.ext O21.2) (g := (mkF m 72 #[.val (.int p1), .unset, .unset, .unset, .unset, .unset, .unset] [(.int (10 : Int32)), (.ref b1), (.ref b1)])) rfl (hb hby at_72)
  obtain ⟨cl23, Ar23, qk23, Sz23, Nn23, Hs23, Gs23⟩ := id (V21)
  have hin23 : ¬ ((10 : Int32) < 0 ∨ cl23.slots.size ≤ ((10 : Int32)).toNatClampNeg) := inb_of Sz23 ⟨by decide, by decide⟩
  obtain ⟨T23, h23, X23, e23, W23, st23⟩ := stR X22 hx hZ e22 Ar23 (j := (10 : Int32)) hin23 rfl (Sto.ofV Ar23 qk23 Ov1 (Ins.self (G.2.2.2.2.2.2.2.2.2.2.2.2.2.2.2.2.2.2.2.2.2.1.ext O21.2))) (g := (mkF m 75 #[.val (.int p1), .unset, .unset, .unset, .unset, .unset, .unset] [(.ref wCW5), (.int (10 : Int32)), (.ref b1), (.ref b1)])) rfl rfl (hb hby at_75)
  have V23 := Arv.set Ar23 qk23 Sz23 Nn23 Hs23 Gs23 rfl W23 10 rfl (Nat.le_of_ble_eq_true rfl)
  have O23 := O21.wr W23 ge_b1
  have K23 := K21.wr W23 (Or.inr sz_b1)
  have N23 := Fr.snoc X23 N21 ge_b1
  obtain ⟨T24, X24, e24, st24⟩ := getS2 X23 hx hZ hown (host := "") (Or.inl (hw _ (List.mem_of_getElem? (i := 26) rfl))) Via.refl e23 (G.2.2.2.2.2.2.2.2.2.2.2.2.2.2.2.2.2.2.2.2.2.2.1.ext O23.2) (g := (mkF m 79 #[.val (.int p1), .unset, .unset, .unset, .unset, .unset, .unset] [(.int (11 : Int32)), (.ref b1), (.ref b1)])) rfl (hb hby at_79)
  obtain ⟨cl25, Ar25, qk25, Sz25, Nn25, Hs25, Gs25⟩ := id (V23)
  have hin25 : ¬ ((11 : Int32) < 0 ∨ cl25.slots.size ≤ ((11 : Int32)).toNatClampNeg) := inb_of Sz25 ⟨by decide, by decide⟩
  obtain ⟨T25, h25, X25, e25, W25, st25⟩ := stR X24 hx hZ e24 Ar25 (j := (11 : Int32)) hin25 rfl (Sto.ofV Ar25 qk25 Ov1 (Ins.self (G.2.2.2.2.2.2.2.2.2.2.2.2.2.2.2.2.2.2.2.2.2.2.2.1.ext O23.2))) (g := (mkF m 82 #[.val (.int p1), .unset, .unset, .unset, .unset, .unset, .unset] [(.ref wCW6), (.int (11 : Int32)), (.ref b1), (.ref b1)])) rfl rfl (hb hby at_82)
  have V25 := Arv.set Ar25 qk25 Sz25 Nn25 Hs25 Gs25 rfl W25 11 rfl (Nat.le_of_ble_eq_true rfl)
  have O25 := O23.wr W25 ge_b1
  have K25 := K23.wr W25 (Or.inr sz_b1)
  have N25 := Fr.snoc X25 N23 ge_b1
  obtain ⟨cl26, Ar26, qk26, Sz26, Nn26, Hs26, Gs26⟩ := id (V25)
  have hin27 : ¬ ((9 : Int32) < 0 ∨ cl26.slots.size ≤ ((9 : Int32)).toNatClampNeg) := inb_of Sz26 ⟨by decide, by decide⟩
  have hat27 : cl26.slots[((9 : Int32)).toNatClampNeg]? = some (.ref wCW4) := Hs26.at hin27 rfl
  obtain ⟨cq28, kq28, q28a, q28b, q28c⟩ := isOf hZ e25 (G.2.2.2.2.2.2.2.2.2.2.2.2.2.2.2.2.2.2.2.1.ext O25.2)
  obtain ⟨_, _, ⟨T28, L28, k28, n28⟩, -, X28, ⟨Lc28, hQ28, l28, y28, z28⟩, st28⟩ := X25.virtualBack hx (y := (⟨"com/example/credlib/credlib/engine/Rule", "statesCredential", "()Z"⟩ : MethodName)) (z := (⟨"com/example/credlib/credlib/engine/Rule", "statesCredential", "()Z"⟩ : MethodName)) hown (mvT hZ (hw _ (List.mem_of_getElem? (i := 29) rfl))) (mvT hZ (hw _ (List.mem_of_getElem? (i := 30) rfl))) (notFace_of_selects (args := #[]) (mvT hZ (hw _ (List.mem_of_getElem? (i := 32) rfl)))) (mvT hZ (hw _ (List.mem_of_getElem? (i := 32) rfl))) (mvT hZ (hw _ (List.mem_of_getElem? (i := 31) rfl))) (by decide) (backOf (W := 0) (own_statesCredential_15 l Z a0 hw [] wW1 wW2 wW3 wW4 wW5 wW6 wCW1 wCW2 wCW3 wCW4 wCW5 wCW6 G h25 n0 O25) hZ (hw _ (List.mem_of_getElem? (i := 33) rfl)) (hw _ (List.mem_of_getElem? (i := 3) rfl)) (by decide) (by decide)) q28a q28c (g := (mkF m 111 #[.val (.int p1), .val (.ref b1), .val (.int (9 : Int32)), .val (.ref wCW4), .val (.int (0 : Int32)), .unset, .unset] [(.ref wCW4)])) rfl (by rw [hml]; rfl) (Steps.refl _) (argsL := []) (rest := []) (lenOf own_pd_0 rfl) rfl (by show 2 * 0 + _ ≤ _; exact Nat.le_of_eq rfl) (hb hby at_111) (fun _ _ => ⟨rfl, e25, (by decide : 1 + 0 ≤ _), (by decide : 12 + 0 ≤ _)⟩)
  dsimp only [Pt.U, Pt.locs, Pt.cells, Pt.slots] at X28 l28 y28 z28 st28 hQ28
  subst l28 y28 z28
  obtain ⟨rfl, N28q, e28⟩ := hQ28
  have N28 := Fr.app N25 N28q
  obtain ⟨cq29, kq29, q29a, q29b, q29c⟩ := isOf hZ e28 (G.2.2.2.2.2.2.2.2.2.2.2.2.2.2.2.2.2.2.2.1.ext O25.2)
  obtain ⟨_, _, ⟨T29, L29, k29, n29⟩, -, X29, ⟨Lc29, hQ29, l29, y29, z29⟩, st29⟩ := X28.virtualBack hx (y := (⟨"com/example/credlib/credlib/engine/Rule", "atInstant", "()Lcom/example/credlib/credlib/engine/Rule;"⟩ : MethodName)) (z := (⟨"com/example/credlib/credlib/engine/Rule", "atInstant", "()Lcom/example/credlib/credlib/engine/Rule;"⟩ : MethodName)) hown (mvT hZ (hw _ (List.mem_of_getElem? (i := 35) rfl))) (mvT hZ (hw _ (List.mem_of_getElem? (i := 36) rfl))) (notFace_of_selects (args := #[]) (mvT hZ (hw _ (List.mem_of_getElem? (i := 38) rfl)))) (mvT hZ (hw _ (List.mem_of_getElem? (i := 38) rfl))) (mvT hZ (hw _ (List.mem_of_getElem? (i := 37) rfl))) (by decide) (backOf (W := 0) (own_atInstant_30 l Z a0 hw [] wW1 wW2 wW3 wW4 wW5 wW6 wCW1 wCW2 wCW3 wCW4 wCW5 wCW6 G h25 n0 O25) hZ (hw _ (List.mem_of_getElem? (i := 39) rfl)) (hw _ (List.mem_of_getElem? (i := 3) rfl)) (by decide) (by decide)) q29a q29c (g := (mkF m 117 #[.val (.int p1), .val (.ref b1), .val (.int (9 : Int32)), .val (.ref wCW4), .val (.int (0 : Int32)), .val (.int (0 : Int32)), .unset] [(.ref wCW4)])) rfl (by rw [hml]; rfl) (Steps.refl _) (argsL := []) (rest := []) (lenOf own_pd_2 rfl) rfl (by show 2 * 0 + _ ≤ _; exact Nat.le_of_eq rfl) (hb hby at_117) (fun _ _ => ⟨rfl, e28, (by decide : 1 + 0 ≤ _), (by decide : 12 + 0 ≤ _)⟩)
  dsimp only [Pt.U, Pt.locs, Pt.cells, Pt.slots] at X29 l29 y29 z29 st29 hQ29
  subst l29 y29 z29
  obtain ⟨rfl, N29q, e29⟩ := hQ29
  have N29 := Fr.app N28 N29q
  obtain ⟨cq30, kq30, q30a, q30b, q30c⟩ := isOf hZ e29 (G.2.2.2.2.2.2.2.2.2.2.2.2.2.2.2.2.2.2.2.1.ext O25.2)
  obtain ⟨_, _, ⟨T30, L30, k30, n30⟩, -, X30, ⟨Lc30, hQ30, l30, y30, z30⟩, st30⟩ := X29.virtualBack hx (y := (⟨"com/example/credlib/credlib/engine/Rule", "statesCredential", "()Z"⟩ : MethodName)) (z := (⟨"com/example/credlib/credlib/engine/Rule", "statesCredential", "()Z"⟩ : MethodName)) hown (mvT hZ (hw _ (List.mem_of_getElem? (i := 29) rfl))) (mvT hZ (hw _ (List.mem_of_getElem? (i := 30) rfl))) (notFace_of_selects (args := #[]) (mvT hZ (hw _ (List.mem_of_getElem? (i := 32) rfl)))) (mvT hZ (hw _ (List.mem_of_getElem? (i := 32) rfl))) (mvT hZ (hw _ (List.mem_of_getElem? (i := 31) rfl))) (by decide) (backOf (W := 0) (own_statesCredential_15 l Z a0 hw [] wW1 wW2 wW3 wW4 wW5 wW6 wCW1 wCW2 wCW3 wCW4 wCW5 wCW6 G h25 n0 O25) hZ (hw _ (List.mem_of_getElem? (i := 33) rfl)) (hw _ (List.mem_of_getElem? (i := 3) rfl)) (by decide) (by decide)) q30a q30c (g := (mkF m 120 #[.val (.int p1), .val (.ref b1), .val (.int (9 : Int32)), .val (.ref wCW4), .val (.int (0 : Int32)), .val (.int (0 : Int32)), .unset] [(.ref wCW4)])) rfl (by rw [hml]; rfl) (Steps.refl _) (argsL := []) (rest := []) (lenOf own_pd_0 rfl) rfl (by show 2 * 0 + _ ≤ _; exact Nat.le_of_eq rfl) (hb hby at_120) (fun _ _ => ⟨rfl, e29, (by decide : 1 + 0 ≤ _), (by decide : 12 + 0 ≤ _)⟩)
  dsimp only [Pt.U, Pt.locs, Pt.cells, Pt.slots] at X30 l30 y30 z30 st30 hQ30
  subst l30 y30 z30
  obtain ⟨rfl, N30q, e30⟩ := hQ30
  have N30 := Fr.app N29 N30q
  obtain ⟨fs, hr, hrun, hended, hW, hsame⟩ := X30.leave (v := some (.int (1 : Int32))) (fun h => by rw [Bd.returns] at h; cases h)
  refine ⟨_, _, pre0 _ ?_, hrun, hended, _, _, rfl, ?_, ⟨_, rfl⟩, hW, hsame.mono (by decide) (by decide)⟩
  · show Steps p.tables e below (s₁.setTop (mkF m 0 #[.val (.int p1), .unset, .unset, .unset, .unset, .unset, .unset] [])) _
    refine XS.bipush X0.here hx rfl (hb hby at_0) ?_
    show Steps p.tables e below (s₁.setTop (mkF m 2 #[.val (.int p1), .unset, .unset, .unset, .unset, .unset, .unset] [(.int (12 : Int32))])) _
    refine st1 _ ?_
    show Steps p.tables e below (T1.setTop (mkF m 5 #[.val (.int p1), .unset, .unset, .unset, .unset, .unset, .unset] [(.ref b1)])) _
    refine XS.dup X1.here hx rfl (hb hby at_5) rfl rfl ?_
    show Steps p.tables e below (T1.setTop (mkF m 6 #[.val (.int p1), .unset, .unset, .unset, .unset, .unset, .unset] [(.ref b1), (.ref b1)])) _
    refine XS.iconst X1.here hx rfl (hb hby at_6) ?_
    show Steps p.tables e below (T1.setTop (mkF m 7 #[.val (.int p1), .unset, .unset, .unset, .unset, .unset, .unset] [(.int (0 : Int32)), (.ref b1), (.ref b1)])) _
    refine st2 _ ?_
    show Steps p.tables e below (T2.setTop (mkF m 10 #[.val (.int p1), .unset, .unset, .unset, .unset, .unset, .unset] [(.ref wW1), (.int (0 : Int32)), (.ref b1), (.ref b1)])) _
    refine st3 _ ?_
    show Steps p.tables e below (T3.setTop (mkF m 11 #[.val (.int p1), .unset, .unset, .unset, .unset, .unset, .unset] [(.ref b1)])) _
    refine XS.dup X3.here hx rfl (hb hby at_11) rfl rfl ?_
    show Steps p.tables e below (T3.setTop (mkF m 12 #[.val (.int p1), .unset, .unset, .unset, .unset, .unset, .unset] [(.ref b1), (.ref b1)])) _
    refine XS.iconst X3.here hx rfl (hb hby at_12) ?_
    show Steps p.tables e below (T3.setTop (mkF m 13 #[.val (.int p1), .unset, .unset, .unset, .unset, .unset, .unset] [(.int (1 : Int32)), (.ref b1), (.ref b1)])) _
    refine st4 _ ?_
    show Steps p.tables e below (T4.setTop (mkF m 16 #[.val (.int p1), .unset, .unset, .unset, .unset, .unset, .unset] [(.ref wW2), (.int (1 : Int32)), (.ref b1), (.ref b1)])) _
    refine st5 _ ?_
    show Steps p.tables e below (T5.setTop (mkF m 17 #[.val (.int p1), .unset, .unset, .unset, .unset, .unset, .unset] [(.ref b1)])) _
    refine XS.dup X5.here hx rfl (hb hby at_17) rfl rfl ?_
    show Steps p.tables e below (T5.setTop (mkF m 18 #[.val (.int p1), .unset, .unset, .unset, .unset, .unset, .unset] [(.ref b1), (.ref b1)])) _
    refine XS.iconst X5.here hx rfl (hb hby at_18) ?_
    show Steps p.tables e below (T5.setTop (mkF m 19 #[.val (.int p1), .unset, .unset, .unset, .unset, .unset, .unset] [(.int (2 : Int32)), (.ref b1), (.ref b1)])) _
    refine st6 _ ?_
    show Steps p.tables e below (T6.setTop (mkF m 22 #[.val (.int p1), .unset, .unset, .unset, .unset, .unset, .unset] [(.ref wW3), (.int (2 : Int32)), (.ref b1), (.ref b1)])) _
    refine st7 _ ?_
    show Steps p.tables e below (T7.setTop (mkF m 23 #[.val (.int p1), .unset, .unset, .unset, .unset, .unset, .unset] [(.ref b1)])) _
    refine XS.dup X7.here hx rfl (hb hby at_23) rfl rfl ?_
    show Steps p.tables e below (T7.setTop (mkF m 24 #[.val (.int p1), .unset, .unset, .unset, .unset, .unset, .unset] [(.ref b1), (.ref b1)])) _
    refine XS.iconst X7.here hx rfl (hb hby at_24) ?_
    show Steps p.tables e below (T7.setTop (mkF m 25 #[.val (.int p1), .unset, .unset, .unset, .unset, .unset, .unset] [(.int (3 : Int32)), (.ref b1), (.ref b1)])) _
    refine st8 _ ?_
    show Steps p.tables e below (T8.setTop (mkF m 28 #[.val (.int p1), .unset, .unset, .unset, .unset, .unset, .unset] [(.ref wW4), (.int (3 : Int32)), (.ref b1), (.ref b1)])) _
    refine st9 _ ?_
    show Steps p.tables e below (T9.setTop (mkF m 29 #[.val (.int p1), .unset, .unset, .unset, .unset, .unset, .unset] [(.ref b1)])) _
    refine XS.dup X9.here hx rfl (hb hby at_29) rfl rfl ?_
    show Steps p.tables e below (T9.setTop (mkF m 30 #[.val (.int p1), .unset, .unset, .unset, .unset, .unset, .unset] [(.ref b1), (.ref b1)])) _
    refine XS.iconst X9.here hx rfl (hb hby at_30) ?_
    show Steps p.tables e below (T9.setTop (mkF m 31 #[.val (.int p1), .unset, .unset, .unset, .unset, .unset, .unset] [(.int (4 : Int32)), (.ref b1), (.ref b1)])) _
    refine st10 _ ?_
    show Steps p.tables e below (T10.setTop (mkF m 34 #[.val (.int p1), .unset, .unset, .unset, .unset, .unset, .unset] [(.ref wW5), (.int (4 : Int32)), (.ref b1), (.ref b1)])) _
    refine st11 _ ?_
    show Steps p.tables e below (T11.setTop (mkF m 35 #[.val (.int p1), .unset, .unset, .unset, .unset, .unset, .unset] [(.ref b1)])) _
    refine XS.dup X11.here hx rfl (hb hby at_35) rfl rfl ?_
    show Steps p.tables e below (T11.setTop (mkF m 36 #[.val (.int p1), .unset, .unset, .unset, .unset, .unset, .unset] [(.ref b1), (.ref b1)])) _
    refine XS.iconst X11.here hx rfl (hb hby at_36) ?_
    show Steps p.tables e below (T11.setTop (mkF m 37 #[.val (.int p1), .unset, .unset, .unset, .unset, .unset, .unset] [(.int (5 : Int32)), (.ref b1), (.ref b1)])) _
    refine st12 _ ?_
    show Steps p.tables e below (T12.setTop (mkF m 40 #[.val (.int p1), .unset, .unset, .unset, .unset, .unset, .unset] [(.ref wW6), (.int (5 : Int32)), (.ref b1), (.ref b1)])) _
    refine st13 _ ?_
    show Steps p.tables e below (T13.setTop (mkF m 41 #[.val (.int p1), .unset, .unset, .unset, .unset, .unset, .unset] [(.ref b1)])) _
    refine XS.dup X13.here hx rfl (hb hby at_41) rfl rfl ?_
    show Steps p.tables e below (T13.setTop (mkF m 42 #[.val (.int p1), .unset, .unset, .unset, .unset, .unset, .unset] [(.ref b1), (.ref b1)])) _
    refine XS.bipush X13.here hx rfl (hb hby at_42) ?_
    show Steps p.tables e below (T13.setTop (mkF m 44 #[.val (.int p1), .unset, .unset, .unset, .unset, .unset, .unset] [(.int (6 : Int32)), (.ref b1), (.ref b1)])) _
    refine st14 _ ?_
    show Steps p.tables e below (T14.setTop (mkF m 47 #[.val (.int p1), .unset, .unset, .unset, .unset, .unset, .unset] [(.ref wCW1), (.int (6 : Int32)), (.ref b1), (.ref b1)])) _
    refine st15 _ ?_
    show Steps p.tables e below (T15.setTop (mkF m 48 #[.val (.int p1), .unset, .unset, .unset, .unset, .unset, .unset] [(.ref b1)])) _
    refine XS.dup X15.here hx rfl (hb hby at_48) rfl rfl ?_
    show Steps p.tables e below (T15.setTop (mkF m 49 #[.val (.int p1), .unset, .unset, .unset, .unset, .unset, .unset] [(.ref b1), (.ref b1)])) _
    refine XS.bipush X15.here hx rfl (hb hby at_49) ?_
    show Steps p.tables e below (T15.setTop (mkF m 51 #[.val (.int p1), .unset, .unset, .unset, .unset, .unset, .unset] [(.int (7 : Int32)), (.ref b1), (.ref b1)])) _
    refine st16 _ ?_
    show Steps p.tables e below (T16.setTop (mkF m 54 #[.val (.int p1), .unset, .unset, .unset, .unset, .unset, .unset] [(.ref wCW2), (.int (7 : Int32)), (.ref b1), (.ref b1)])) _
    refine st17 _ ?_
    show Steps p.tables e below (T17.setTop (mkF m 55 #[.val (.int p1), .unset, .unset, .unset, .unset, .unset, .unset] [(.ref b1)])) _
    refine XS.dup X17.here hx rfl (hb hby at_55) rfl rfl ?_
    show Steps p.tables e below (T17.setTop (mkF m 56 #[.val (.int p1), .unset, .unset, .unset, .unset, .unset, .unset] [(.ref b1), (.ref b1)])) _
    refine XS.bipush X17.here hx rfl (hb hby at_56) ?_
    show Steps p.tables e below (T17.setTop (mkF m 58 #[.val (.int p1), .unset, .unset, .unset, .unset, .unset, .unset] [(.int (8 : Int32)), (.ref b1), (.ref b1)])) _
    refine st18 _ ?_
    show Steps p.tables e below (T18.setTop (mkF m 61 #[.val (.int p1), .unset, .unset, .unset, .unset, .unset, .unset] [(.ref wCW3), (.int (8 : Int32)), (.ref b1), (.ref b1)])) _
    refine st19 _ ?_
    show Steps p.tables e below (T19.setTop (mkF m 62 #[.val (.int p1), .unset, .unset, .unset, .unset, .unset, .unset] [(.ref b1)])) _
    refine XS.dup X19.here hx rfl (hb hby at_62) rfl rfl ?_
    show Steps p.tables e below (T19.setTop (mkF m 63 #[.val (.int p1), .unset, .unset, .unset, .unset, .unset, .unset] [(.ref b1), (.ref b1)])) _
    refine XS.bipush X19.here hx rfl (hb hby at_63) ?_
    show Steps p.tables e below (T19.setTop (mkF m 65 #[.val (.int p1), .unset, .unset, .unset, .unset, .unset, .unset] [(.int (9 : Int32)), (.ref b1), (.ref b1)])) _
    refine st20 _ ?_
    show Steps p.tables e below (T20.setTop (mkF m 68 #[.val (.int p1), .unset, .unset, .unset, .unset, .unset, .unset] [(.ref wCW4), (.int (9 : Int32)), (.ref b1), (.ref b1)])) _
    refine st21 _ ?_
    show Steps p.tables e below (T21.setTop (mkF m 69 #[.val (.int p1), .unset, .unset, .unset, .unset, .unset, .unset] [(.ref b1)])) _
    refine XS.dup X21.here hx rfl (hb hby at_69) rfl rfl ?_
    show Steps p.tables e below (T21.setTop (mkF m 70 #[.val (.int p1), .unset, .unset, .unset, .unset, .unset, .unset] [(.ref b1), (.ref b1)])) _
    refine XS.bipush X21.here hx rfl (hb hby at_70) ?_
    show Steps p.tables e below (T21.setTop (mkF m 72 #[.val (.int p1), .unset, .unset, .unset, .unset, .unset, .unset] [(.int (10 : Int32)), (.ref b1), (.ref b1)])) _
    refine st22 _ ?_
    show Steps p.tables e below (T22.setTop (mkF m 75 #[.val (.int p1), .unset, .unset, .unset, .unset, .unset, .unset] [(.ref wCW5), (.int (10 : Int32)), (.ref b1), (.ref b1)])) _
    refine st23 _ ?_
    show Steps p.tables e below (T23.setTop (mkF m 76 #[.val (.int p1), .unset, .unset, .unset, .unset, .unset, .unset] [(.ref b1)])) _
    refine XS.dup X23.here hx rfl (hb hby at_76) rfl rfl ?_
    show Steps p.tables e below (T23.setTop (mkF m 77 #[.val (.int p1), .unset, .unset, .unset, .unset, .unset, .unset] [(.ref b1), (.ref b1)])) _
    refine XS.bipush X23.here hx rfl (hb hby at_77) ?_
    show Steps p.tables e below (T23.setTop (mkF m 79 #[.val (.int p1), .unset, .unset, .unset, .unset, .unset, .unset] [(.int (11 : Int32)), (.ref b1), (.ref b1)])) _
    refine st24 _ ?_
    show Steps p.tables e below (T24.setTop (mkF m 82 #[.val (.int p1), .unset, .unset, .unset, .unset, .unset, .unset] [(.ref wCW6), (.int (11 : Int32)), (.ref b1), (.ref b1)])) _
    refine st25 _ ?_
    show Steps p.tables e below (T25.setTop (mkF m 83 #[.val (.int p1), .unset, .unset, .unset, .unset, .unset, .unset] [(.ref b1)])) _
    refine XS.astoreN X25.here hx rfl (hb hby at_83) rfl rfl (l' := #[.val (.int p1), .val (.ref b1), .unset, .unset, .unset, .unset, .unset]) rfl ?_
    show Steps p.tables e below (T25.setTop (mkF m 84 #[.val (.int p1), .val (.ref b1), .unset, .unset, .unset, .unset, .unset] [])) _
    refine XS.iloadN X25.here hx rfl (hb hby at_84) rfl ?_
    show Steps p.tables e below (T25.setTop (mkF m 85 #[.val (.int p1), .val (.ref b1), .unset, .unset, .unset, .unset, .unset] [(.int p1)])) _
    refine Jvm.Stand.ldcI X25 hx hown (mvT hZ (hw _ (List.mem_of_getElem? (i := 28) rfl))) rfl (hb hby at_85) ?_
    show Steps p.tables e below (T25.setTop (mkF m 87 #[.val (.int p1), .val (.ref b1), .unset, .unset, .unset, .unset, .unset] [(.int (2147483647 : Int32)), (.int p1)])) _
    refine XS.iand X25.here hx rfl (hb hby at_87) rfl ?_
    show Steps p.tables e below (T25.setTop (mkF m 88 #[.val (.int p1), .val (.ref b1), .unset, .unset, .unset, .unset, .unset] [(.int (p1 &&& (2147483647 : Int32)))])) _
    refine XS.bipush X25.here hx rfl (hb hby at_88) ?_
    show Steps p.tables e below (T25.setTop (mkF m 90 #[.val (.int p1), .val (.ref b1), .unset, .unset, .unset, .unset, .unset] [(.int (12 : Int32)), (.int (p1 &&& (2147483647 : Int32)))])) _
    refine iremM X25 hx rfl (hb hby at_90) rfl (by decide) ?_
    show Steps p.tables e below (T25.setTop (mkF m 91 #[.val (.int p1), .val (.ref b1), .unset, .unset, .unset, .unset, .unset] [(.int ((p1 &&& (2147483647 : Int32)) % (12 : Int32)))])) _
    refine castTop (g' := (mkF m 91 #[.val (.int p1), .val (.ref b1), .unset, .unset, .unset, .unset, .unset] [(.int (9 : Int32))])) (by rw [hi]) ?_
    show Steps p.tables e below (T25.setTop (mkF m 91 #[.val (.int p1), .val (.ref b1), .unset, .unset, .unset, .unset, .unset] [(.int (9 : Int32))])) _
    refine XS.istoreN X25.here hx rfl (hb hby at_91) rfl (l' := #[.val (.int p1), .val (.ref b1), .val (.int (9 : Int32)), .unset, .unset, .unset, .unset]) rfl ?_
    show Steps p.tables e below (T25.setTop (mkF m 92 #[.val (.int p1), .val (.ref b1), .val (.int (9 : Int32)), .unset, .unset, .unset, .unset] [])) _
    refine XS.aloadN X25.here hx rfl (hb hby at_92) rfl rfl ?_
    show Steps p.tables e below (T25.setTop (mkF m 93 #[.val (.int p1), .val (.ref b1), .val (.int (9 : Int32)), .unset, .unset, .unset, .unset] [(.ref b1)])) _
    refine XS.iloadN X25.here hx rfl (hb hby at_93) rfl ?_
    show Steps p.tables e below (T25.setTop (mkF m 94 #[.val (.int p1), .val (.ref b1), .val (.int (9 : Int32)), .unset, .unset, .unset, .unset] [(.int (9 : Int32)), (.ref b1)])) _
    refine X25.aaload hx (j := (9 : Int32)) (v := (.ref wCW4)) (by rw [e25]; exact Ar26.1) (State.isArrayOf_alike hZ.alike Ar26.2.1) rfl Ar26.2.2 hin27 hat27 (g := (mkF m 94 #[.val (.int p1), .val (.ref b1), .val (.int (9 : Int32)), .unset, .unset, .unset, .unset] [(.int (9 : Int32)), (.ref b1)])) rfl rfl (hb hby at_94) _ ?_
    show Steps p.tables e below (T25.setTop (mkF m 95 #[.val (.int p1), .val (.ref b1), .val (.int (9 : Int32)), .unset, .unset, .unset, .unset] [(.ref wCW4)])) _
    refine XS.astoreN X25.here hx rfl (hb hby at_95) rfl rfl (l' := #[.val (.int p1), .val (.ref b1), .val (.int (9 : Int32)), .val (.ref wCW4), .unset, .unset, .unset]) rfl ?_
    show Steps p.tables e below (T25.setTop (mkF m 96 #[.val (.int p1), .val (.ref b1), .val (.int (9 : Int32)), .val (.ref wCW4), .unset, .unset, .unset] [])) _
    refine XS.iloadN X25.here hx rfl (hb hby at_96) rfl ?_
    show Steps p.tables e below (T25.setTop (mkF m 97 #[.val (.int p1), .val (.ref b1), .val (.int (9 : Int32)), .val (.ref wCW4), .unset, .unset, .unset] [(.int (9 : Int32))])) _
    refine XS.bipush X25.here hx rfl (hb hby at_97) ?_
    show Steps p.tables e below (T25.setTop (mkF m 99 #[.val (.int p1), .val (.ref b1), .val (.int (9 : Int32)), .val (.ref wCW4), .unset, .unset, .unset] [(.int (6 : Int32)), (.int (9 : Int32))])) _
    refine iremM X25 hx rfl (hb hby at_99) rfl (by decide) ?_
    show Steps p.tables e below (T25.setTop (mkF m 100 #[.val (.int p1), .val (.ref b1), .val (.int (9 : Int32)), .val (.ref wCW4), .unset, .unset, .unset] [(.int ((9 : Int32) % (6 : Int32)))])) _
    refine castTop (g' := (mkF m 100 #[.val (.int p1), .val (.ref b1), .val (.int (9 : Int32)), .val (.ref wCW4), .unset, .unset, .unset] [(.int (3 : Int32))])) (by rw [show ((9 : Int32) % (6 : Int32)) = (3 : Int32) from by decide]) ?_
    show Steps p.tables e below (T25.setTop (mkF m 100 #[.val (.int p1), .val (.ref b1), .val (.int (9 : Int32)), .val (.ref wCW4), .unset, .unset, .unset] [(.int (3 : Int32))])) _
    refine XS.ifYes X25.here hx rfl (pc0 := 100) (pc' := 107) rfl (hb hby at_100) rfl (by decide) (by decide) (by decide) ?_
    show Steps p.tables e below (T25.setTop (mkF m 107 #[.val (.int p1), .val (.ref b1), .val (.int (9 : Int32)), .val (.ref wCW4), .unset, .unset, .unset] [])) _
    refine XS.iconst X25.here hx rfl (hb hby at_107) ?_
    show Steps p.tables e below (T25.setTop (mkF m 108 #[.val (.int p1), .val (.ref b1), .val (.int (9 : Int32)), .val (.ref wCW4), .unset, .unset, .unset] [(.int (0 : Int32))])) _
    refine XS.istore X25.here hx rfl (hb hby at_108) rfl (l' := #[.val (.int p1), .val (.ref b1), .val (.int (9 : Int32)), .val (.ref wCW4), .val (.int (0 : Int32)), .unset, .unset]) rfl ?_
    show Steps p.tables e below (T25.setTop (mkF m 110 #[.val (.int p1), .val (.ref b1), .val (.int (9 : Int32)), .val (.ref wCW4), .val (.int (0 : Int32)), .unset, .unset] [])) _
    refine XS.aloadN X25.here hx rfl (hb hby at_110) rfl rfl ?_
    show Steps p.tables e below (T25.setTop (mkF m 111 #[.val (.int p1), .val (.ref b1), .val (.int (9 : Int32)), .val (.ref wCW4), .val (.int (0 : Int32)), .unset, .unset] [(.ref wCW4)])) _
    refine st28.trans ?_
    show Steps p.tables e below (T28.setTop (mkF m 114 #[.val (.int p1), .val (.ref b1), .val (.int (9 : Int32)), .val (.ref wCW4), .val (.int (0 : Int32)), .unset, .unset] [(.int (0 : Int32))])) _
    refine XS.istore X28.here hx rfl (hb hby at_114) rfl (l' := #[.val (.int p1), .val (.ref b1), .val (.int (9 : Int32)), .val (.ref wCW4), .val (.int (0 : Int32)), .val (.int (0 : Int32)), .unset]) rfl ?_
    show Steps p.tables e below (T28.setTop (mkF m 116 #[.val (.int p1), .val (.ref b1), .val (.int (9 : Int32)), .val (.ref wCW4), .val (.int (0 : Int32)), .val (.int (0 : Int32)), .unset] [])) _
    refine XS.aloadN X28.here hx rfl (hb hby at_116) rfl rfl ?_
    show Steps p.tables e below (T28.setTop (mkF m 117 #[.val (.int p1), .val (.ref b1), .val (.int (9 : Int32)), .val (.ref wCW4), .val (.int (0 : Int32)), .val (.int (0 : Int32)), .unset] [(.ref wCW4)])) _
    refine st29.trans ?_
    show Steps p.tables e below (T29.setTop (mkF m 120 #[.val (.int p1), .val (.ref b1), .val (.int (9 : Int32)), .val (.ref wCW4), .val (.int (0 : Int32)), .val (.int (0 : Int32)), .unset] [(.ref wCW4)])) _
    refine st30.trans ?_
    show Steps p.tables e below (T30.setTop (mkF m 123 #[.val (.int p1), .val (.ref b1), .val (.int (9 : Int32)), .val (.ref wCW4), .val (.int (0 : Int32)), .val (.int (0 : Int32)), .unset] [(.int (0 : Int32))])) _
    refine XS.istore X30.here hx rfl (hb hby at_123) rfl (l' := #[.val (.int p1), .val (.ref b1), .val (.int (9 : Int32)), .val (.ref wCW4), .val (.int (0 : Int32)), .val (.int (0 : Int32)), .val (.int (0 : Int32))]) rfl ?_
    show Steps p.tables e below (T30.setTop (mkF m 125 #[.val (.int p1), .val (.ref b1), .val (.int (9 : Int32)), .val (.ref wCW4), .val (.int (0 : Int32)), .val (.int (0 : Int32)), .val (.int (0 : Int32))] [])) _
    refine XS.iload X30.here hx rfl (hb hby at_125) rfl ?_
    show Steps p.tables e below (T30.setTop (mkF m 127 #[.val (.int p1), .val (.ref b1), .val (.int (9 : Int32)), .val (.ref wCW4), .val (.int (0 : Int32)), .val (.int (0 : Int32)), .val (.int (0 : Int32))] [(.int (0 : Int32))])) _
    refine XS.iload X30.here hx rfl (hb hby at_127) rfl ?_
    show Steps p.tables e below (T30.setTop (mkF m 129 #[.val (.int p1), .val (.ref b1), .val (.int (9 : Int32)), .val (.ref wCW4), .val (.int (0 : Int32)), .val (.int (0 : Int32)), .val (.int (0 : Int32))] [(.int (0 : Int32)), (.int (0 : Int32))])) _
    refine XS.icmpNo X30.here hx rfl (hb hby at_129) rfl (by decide) ?_
    show Steps p.tables e below (T30.setTop (mkF m 132 #[.val (.int p1), .val (.ref b1), .val (.int (9 : Int32)), .val (.ref wCW4), .val (.int (0 : Int32)), .val (.int (0 : Int32)), .val (.int (0 : Int32))] [])) _
    refine XS.iload X30.here hx rfl (hb hby at_132) rfl ?_
    show Steps p.tables e below (T30.setTop (mkF m 134 #[.val (.int p1), .val (.ref b1), .val (.int (9 : Int32)), .val (.ref wCW4), .val (.int (0 : Int32)), .val (.int (0 : Int32)), .val (.int (0 : Int32))] [(.int (0 : Int32))])) _
    refine XS.iload X30.here hx rfl (hb hby at_134) rfl ?_
    show Steps p.tables e below (T30.setTop (mkF m 136 #[.val (.int p1), .val (.ref b1), .val (.int (9 : Int32)), .val (.ref wCW4), .val (.int (0 : Int32)), .val (.int (0 : Int32)), .val (.int (0 : Int32))] [(.int (0 : Int32)), (.int (0 : Int32))])) _
    refine XS.icmpNo X30.here hx rfl (hb hby at_136) rfl (by decide) ?_
    show Steps p.tables e below (T30.setTop (mkF m 139 #[.val (.int p1), .val (.ref b1), .val (.int (9 : Int32)), .val (.ref wCW4), .val (.int (0 : Int32)), .val (.int (0 : Int32)), .val (.int (0 : Int32))] [])) _
    refine XS.iconst X30.here hx rfl (hb hby at_139) ?_
    show Steps p.tables e below (T30.setTop (mkF m 140 #[.val (.int p1), .val (.ref b1), .val (.int (9 : Int32)), .val (.ref wCW4), .val (.int (0 : Int32)), .val (.int (0 : Int32)), .val (.int (0 : Int32))] [(.int (1 : Int32))])) _
    refine XS.goto X30.here hx rfl (pc0 := 140) (pc' := 144) rfl (hb hby at_140) (by decide) (by decide) ?_
    show Steps p.tables e below (T30.setTop (mkF m 144 #[.val (.int p1), .val (.ref b1), .val (.int (9 : Int32)), .val (.ref wCW4), .val (.int (0 : Int32)), .val (.int (0 : Int32)), .val (.int (0 : Int32))] [(.int (1 : Int32))])) _
    exact retN X30 hx (t := .boolean) Bd.returns (by simp) (hb hby at_144) hr
  · exact ⟨rfl, N30⟩
set_option maxRecDepth 65536 in
set_option maxHeartbeats 40000000 in
theorem own_ordinal_33 (l : Launch) (Z : State) (a0 : Array Value) (hw : ∀ d ∈ tables_1, d.before a0 Z = true) (ws : List Jvm.Cond) (wW1 : Addr) (wW2 : Addr) (wW3 : Addr) (wW4 : Addr) (wW5 : Addr) (wW6 : Addr) (wCW1 : Addr) (wCW2 : Addr) (wCW3 : Addr) (wCW4 : Addr) (wCW5 : Addr) (wCW6 : Addr) (G : OwnG Z wW1 wW2 wW3 wW4 wW5 wW6 wCW1 wCW2 wCW3 wCW4 wCW5 wCW6) (h0 : Heap) (n0 : Nat) (O0 : Old Z n0 h0) :
    MetFree l (⟨"java/lang/Enum", "ordinal", "()I"⟩ : MethodName) (head1 (Jvm.Cond.code (⟨"java/lang/Enum", "ordinal", "()I"⟩ : MethodName) jdk_37_method_2_code 1 (some .int) :: ws) ({ frames := 0, cells := 0, slots := 0, locals := 0 } : Room)) (fun a U => a = #[(.ref wCW5)] ∧ Z.Warmed39 U.vm ∧ U.heap = h0) (fun _ _ _ _ _ => True) (fun _ U o U' => ∃ v L, o = .returned v ∧ OwnQ (some (.int (10 : Int32))) h0 n0 v U'.heap L ∧ FrameEnd U o U' L ({ frames := 0, cells := 0, slots := 0, locals := 0 } : Room).cells ({ frames := 0, cells := 0, slots := 0, locals := 0 } : Room).slots) := by
  refine MetFree.of_bodySF (plainFor_of_name own_pn_3) hisR ?_
  intro p e s m args below meth c s₁ Bd hml0 hP hK
  obtain ⟨rfl, hZ, hh⟩ := hP
  have hx := Bd.exec
  have hby := Bd.bytes
  have hml : c.maxLocals = 1 := hml0
  have hown : s.vm.findClass "java/lang/Enum" = some m.cls := findClass_of_methodNamed Bd.named
  have hnm := (name_of_methodNamed Bd.named Bd.method).1
  have X0 : Stand p l e ({ frames := 0, cells := 0, slots := 0, locals := 0 } : Room) s m #[(.ref wCW5)] below meth c s₁ [] 0 0 := Stand.of_body Bd
  have e0 : s₁.heap = h0 := by rw [← hh, Bd.state]; rfl
  have N0 := Fr.nil n0
  have pre0 : ∀ t, Steps p.tables e below (s₁.setTop (mkF m 0 #[.val (.ref wCW5)] [])) t → Steps p.tables e below (s₁.setTop (entryFrame m #[(.ref wCW5)] 1)) t := fun t k => castTop (own_ef_3_R m wCW5) k
  obtain ⟨T1, X1, e1, st1⟩ := getF X0 hx hZ hown (host := "") (Or.inl (hw _ (List.mem_of_getElem? (i := 47) rfl))) Via.refl e0 (G.2.2.2.2.2.2.2.2.2.2.2.2.2.2.2.2.2.2.2.2.2.2.2.2.2.2.2.2.2.2.2.2.2.1.ext O0.2) (g := (mkF m 1 #[.val (.ref wCW5)] [(.ref wCW5)])) rfl rfl (hb hby own_d3_1)
  obtain ⟨fs, hr, hrun, hended, hW, hsame⟩ := X1.leave (v := some (.int (10 : Int32))) (fun h => by rw [Bd.returns] at h; cases h)
  refine ⟨_, _, pre0 _ ?_, hrun, hended, _, _, rfl, ?_, ⟨_, rfl⟩, hW, hsame.mono (by decide) (by decide)⟩
  · show Steps p.tables e below (s₁.setTop (mkF m 0 #[.val (.ref wCW5)] [])) _
    refine XS.aloadN X0.here hx rfl (hb hby own_d3_0) rfl rfl ?_
    show Steps p.tables e below (s₁.setTop (mkF m 1 #[.val (.ref wCW5)] [(.ref wCW5)])) _
    refine st1 _ ?_
    show Steps p.tables e below (T1.setTop (mkF m 4 #[.val (.ref wCW5)] [(.int (10 : Int32))])) _
    exact retI X1 hx Bd.returns (hb hby own_d3_4) hr
  · show OwnQ _ h0 n0 _ T1.heap _
    exact ⟨rfl, N0, e1⟩
set_option maxRecDepth 65536 in
set_option maxHeartbeats 40000000 in
theorem own_atInstant_32 (l : Launch) (Z : State) (a0 : Array Value) (hw : ∀ d ∈ tables_1, d.before a0 Z = true) (ws : List Jvm.Cond) (wW1 : Addr) (wW2 : Addr) (wW3 : Addr) (wW4 : Addr) (wW5 : Addr) (wW6 : Addr) (wCW1 : Addr) (wCW2 : Addr) (wCW3 : Addr) (wCW4 : Addr) (wCW5 : Addr) (wCW6 : Addr) (G : OwnG Z wW1 wW2 wW3 wW4 wW5 wW6 wCW1 wCW2 wCW3 wCW4 wCW5 wCW6) (h0 : Heap) (n0 : Nat) (O0 : Old Z n0 h0) :
    MetFree l (⟨"com/example/credlib/credlib/engine/Rule", "atInstant", "()Lcom/example/credlib/credlib/engine/Rule;"⟩ : MethodName) (head1 (Jvm.Cond.code (⟨"com/example/credlib/credlib/engine/Rule", "atInstant", "()Lcom/example/credlib/credlib/engine/Rule;"⟩ : MethodName) prog_18_method_5_code 1 (some (.object "com/example/credlib/credlib/engine/Rule")) :: ws) ({ frames := 1, cells := 0, slots := 0, locals := 12 } : Room)) (fun a U => a = #[(.ref wCW5)] ∧ Z.Warmed39 U.vm ∧ U.heap = h0) (fun _ _ _ _ _ => True) (fun _ U o U' => ∃ v L, o = .returned v ∧ OwnQ (some (.ref wCW5)) h0 n0 v U'.heap L ∧ FrameEnd U o U' L ({ frames := 1, cells := 0, slots := 0, locals := 12 } : Room).cells ({ frames := 1, cells := 0, slots := 0, locals := 12 } : Room).slots) := by
  refine MetFree.of_bodySF (plainFor_of_name own_pn_1) hisR ?_
  intro p e s m args below meth c s₁ Bd hml0 hP hK
  obtain ⟨rfl, hZ, hh⟩ := hP
  have hx := Bd.exec
  have hby := Bd.bytes
  have hml : c.maxLocals = 1 := hml0
  have hown : s.vm.findClass "com/example/credlib/credlib/engine/Rule" = some m.cls := findClass_of_methodNamed Bd.named
  have hnm := (name_of_methodNamed Bd.named Bd.method).1
  have X0 : Stand p l e ({ frames := 1, cells := 0, slots := 0, locals := 12 } : Room) s m #[(.ref wCW5)] below meth c s₁ [] 0 0 := Stand.of_body Bd
  have e0 : s₁.heap = h0 := by rw [← hh, Bd.state]; rfl
  have N0 := Fr.nil n0
  have pre0 : ∀ t, Steps p.tables e below (s₁.setTop (mkF m 0 #[.val (.ref wCW5)] [])) t → Steps p.tables e below (s₁.setTop (entryFrame m #[(.ref wCW5)] 1)) t := fun t k => castTop (own_ef_2_R m wCW5) k
  obtain ⟨cq1, kq1, q1a, q1b, q1c⟩ := isOf hZ e0 (G.2.2.2.2.2.2.2.2.2.2.2.2.2.2.2.2.2.2.2.2.2.1.ext O0.2)
  obtain ⟨_, _, ⟨T1, L1, k1, n1⟩, -, X1, ⟨Lc1, hQ1, l1, y1, z1⟩, st1⟩ := X0.virtualBackUp hx (x := (⟨"com/example/credlib/credlib/engine/Rule", "ordinal", "()I"⟩ : MethodName)) (y := (⟨"java/lang/Enum", "ordinal", "()I"⟩ : MethodName)) (owner := "java/lang/Enum") hown (mvT hZ (hw _ (List.mem_of_getElem? (i := 40) rfl))) (mvT hZ (hw _ (List.mem_of_getElem? (i := 41) rfl))) (mvT hZ (hw _ (List.mem_of_getElem? (i := 42) rfl))) (by decide) (mvT hZ (hw _ (List.mem_of_getElem? (i := 44) rfl))) (mvT hZ (hw _ (List.mem_of_getElem? (i := 43) rfl))) (backOf (W := 0) (own_ordinal_33 l Z a0 hw [] wW1 wW2 wW3 wW4 wW5 wW6 wCW1 wCW2 wCW3 wCW4 wCW5 wCW6 G h0 n0 O0) hZ (hw _ (List.mem_of_getElem? (i := 46) rfl)) (hw _ (List.mem_of_getElem? (i := 45) rfl)) (by decide) (by decide)) q1a q1c (g := (mkF m 1 #[.val (.ref wCW5)] [(.ref wCW5)])) rfl (by rw [hml]; rfl) (Steps.refl _) (argsL := []) (rest := []) (lenOf own_pd_1 rfl) rfl (by show 2 * 0 + _ ≤ _; exact Nat.le_of_eq rfl) (hb hby own_d2_1) (fun _ _ => ⟨rfl, e0, (by decide : 0 + 0 ≤ _), (by decide : 0 + 0 ≤ _)⟩)
  dsimp only [Pt.U, Pt.locs, Pt.cells, Pt.slots] at X1 l1 y1 z1 st1 hQ1
  subst l1 y1 z1
  obtain ⟨rfl, N1q, e1⟩ := hQ1
  have N1 := Fr.app N0 N1q
  obtain ⟨fs, hr, hrun, hended, hW, hsame⟩ := X1.leave (v := some (.ref wCW5)) (fun h => by rw [Bd.returns] at h; cases h)
  refine ⟨_, _, pre0 _ ?_, hrun, hended, _, _, rfl, ?_, ⟨_, rfl⟩, hW, hsame.mono (by decide) (by decide)⟩
  · show Steps p.tables e below (s₁.setTop (mkF m 0 #[.val (.ref wCW5)] [])) _
    refine XS.aloadN X0.here hx rfl (hb hby own_d2_0) rfl rfl ?_
    show Steps p.tables e below (s₁.setTop (mkF m 1 #[.val (.ref wCW5)] [(.ref wCW5)])) _
    refine st1.trans ?_
    show Steps p.tables e below (T1.setTop (mkF m 4 #[.val (.ref wCW5)] [(.int (10 : Int32))])) _
    refine XS.tswOut X1.here hx rfl (pc0 := 4) (pc' := 80) rfl (hb hby own_d2_4) rfl (by decide) (by decide) (by decide) ?_
    show Steps p.tables e below (T1.setTop (mkF m 80 #[.val (.ref wCW5)] [])) _
    refine XS.aloadN X1.here hx rfl (hb hby own_d2_80) rfl rfl ?_
    show Steps p.tables e below (T1.setTop (mkF m 81 #[.val (.ref wCW5)] [(.ref wCW5)])) _
    jvm_step X1.here [X1.here.top, hx, (hb hby own_d2_81), X1.method', Bd.returns, Value.isRef, FieldType.isReference]
    first | (intro acts; rw [hr _ acts rfl rfl rfl]) | rw [hr _ _ rfl rfl rfl]
    exact Steps.refl _
  · show OwnQ _ h0 n0 _ T1.heap _
    exact ⟨rfl, N1, e1⟩
set_option maxRecDepth 65536 in
set_option maxHeartbeats 40000000 in
theorem own_law_10 (l : Launch) (Z : State) (a0 : Array Value) (hw : ∀ d ∈ tables_1, d.before a0 Z = true) (ws : List Jvm.Cond) (wW1 : Addr) (wW2 : Addr) (wW3 : Addr) (wW4 : Addr) (wW5 : Addr) (wW6 : Addr) (wCW1 : Addr) (wCW2 : Addr) (wCW3 : Addr) (wCW4 : Addr) (wCW5 : Addr) (wCW6 : Addr) (G : OwnG Z wW1 wW2 wW3 wW4 wW5 wW6 wCW1 wCW2 wCW3 wCW4 wCW5 wCW6) (h0 : Heap) (n0 : Nat) (O0 : Old Z n0 h0) (p1 : Int32) (hi : ((p1 &&& (2147483647 : Int32)) % (12 : Int32)) = (10 : Int32)) :
    MetFree l x (head1 (Jvm.Cond.code x code maxLocals ret :: ws) room_1) (fun a U => a = #[(.int p1)] ∧ Z.Warmed39 U.vm ∧ U.heap = h0) (fun _ _ _ _ _ => True) (fun _ U o U' => ∃ v L, o = .returned v ∧ (v = some (.int 1) ∧ Fr n0 L) ∧ FrameEnd U o U' L room_1.cells room_1.slots) := by
  refine MetFree.of_bodySF (plainFor_of_name own_pn_0) hisR ?_
  intro p e s m args below meth c s₁ Bd hml0 hP hK
  obtain ⟨rfl, hZ, hh⟩ := hP
  have hx := Bd.exec
  have hby := Bd.bytes
  have hml : c.maxLocals = 7 := hml0
  have hown : s.vm.findClass "com/example/credlib/credlib/engine/RuleStatesCredentialPinLaw" = some m.cls := findClass_of_methodNamed Bd.named
  have hnm := (name_of_methodNamed Bd.named Bd.method).1
  have X0 : Stand p l e room_1 s m #[(.int p1)] below meth c s₁ [] 0 0 := Stand.of_body Bd
  have e0 : s₁.heap = h0 := by rw [← hh, Bd.state]; rfl
  have N0 := Fr.nil n0
  have pre0 : ∀ t, Steps p.tables e below (s₁.setTop (mkF m 0 #[.val (.int p1), .unset, .unset, .unset, .unset, .unset, .unset] [])) t → Steps p.tables e below (s₁.setTop (entryFrame m #[(.int p1)] maxLocals)) t := fun t k => castTop (own_ef_0_I m p1) k
  obtain ⟨T1, h1, k1, X1, e1, E1, A1, Ov1, st1⟩ := newR X0 hx hZ hown (hw _ (List.mem_of_getElem? (i := 0) rfl)) (hw _ (List.mem_of_getElem? (i := 1) rfl)) e0 (g := (mkF m 2 #[.val (.int p1), .unset, .unset, .unset, .unset, .unset, .unset] [(.int (12 : Int32))])) rfl (hb hby at_2) rfl (by decide) (cap := 12) (by decide) (by decide) (by decide) (by decide)
  obtain ⟨b1, g1⟩ : ∃ z, z = h0.size := ⟨_, rfl⟩
  rw [← g1] at A1 st1
  have ge_b1 : n0 ≤ b1 := own_new O0 g1
  have sz_b1 : h0.size ≤ b1 := Nat.le_trans (Keep.refl h0 []).1 (Nat.le_of_eq g1.symm)
  have O1 := O0.ext E1
  have K1 := (Keep.refl h0 []).ext E1
  have V1 : Arv Z h1 b1 k1 (.object "com/example/credlib/credlib/engine/Rule") (12 : Int32) [.null, .null, .null, .null, .null, .null, .null, .null, .null, .null, .null, .null] .null := (Arv.new A1 (by decide)).pad (pad_rep [] .null 12)
  obtain ⟨T2, X2, e2, st2⟩ := getS2 X1 hx hZ hown (host := "") (Or.inl (hw _ (List.mem_of_getElem? (i := 2) rfl))) Via.refl e1 (G.1.ext O1.2) (g := (mkF m 7 #[.val (.int p1), .unset, .unset, .unset, .unset, .unset, .unset] [(.int (0 : Int32)), (.ref b1), (.ref b1)])) rfl (hb hby at_7)
  obtain ⟨cl3, Ar3, qk3, Sz3, Nn3, Hs3, Gs3⟩ := id (V1)
  have hin3 : ¬ ((0 : Int32) < 0 ∨ cl3.slots.size ≤ ((0 : Int32)).toNatClampNeg) := inb_of Sz3 ⟨by decide, by decide⟩
  obtain ⟨T3, h3, X3, e3, W3, st3⟩ := stR X2 hx hZ e2 Ar3 (j := (0 : Int32)) hin3 rfl (Sto.ofV Ar3 qk3 Ov1 (Ins.self (G.2.1.ext O1.2))) (g := (mkF m 10 #[.val (.int p1), .unset, .unset, .unset, .unset, .unset, .unset] [(.ref wW1), (.int (0 : Int32)), (.ref b1), (.ref b1)])) rfl rfl (hb hby at_10)
  have V3 := Arv.set Ar3 qk3 Sz3 Nn3 Hs3 Gs3 rfl W3 0 rfl (Nat.le_of_ble_eq_true rfl)
  have O3 := O1.wr W3 ge_b1
  have K3 := K1.wr W3 (Or.inr sz_b1)
  have N3 := Fr.snoc X3 N0 ge_b1
  obtain ⟨T4, X4, e4, st4⟩ := getS2 X3 hx hZ hown (host := "") (Or.inl (hw _ (List.mem_of_getElem? (i := 6) rfl))) Via.refl e3 (G.2.2.1.ext O3.2) (g := (mkF m 13 #[.val (.int p1), .unset, .unset, .unset, .unset, .unset, .unset] [(.int (1 : Int32)), (.ref b1), (.ref b1)])) rfl (hb hby at_13)
  obtain ⟨cl5, Ar5, qk5, Sz5, Nn5, Hs5, Gs5⟩ := id (V3)
  have hin5 : ¬ ((1 : Int32) < 0 ∨ cl5.slots.size ≤ ((1 : Int32)).toNatClampNeg) := inb_of Sz5 ⟨by decide, by decide⟩
  obtain ⟨T5, h5, X5, e5, W5, st5⟩ := stR X4 hx hZ e4 Ar5 (j := (1 : Int32)) hin5 rfl (Sto.ofV Ar5 qk5 Ov1 (Ins.self (G.2.2.2.1.ext O3.2))) (g := (mkF m 16 #[.val (.int p1), .unset, .unset, .unset, .unset, .unset, .unset] [(.ref wW2), (.int (1 : Int32)), (.ref b1), (.ref b1)])) rfl rfl (hb hby at_16)
  have V5 := Arv.set Ar5 qk5 Sz5 Nn5 Hs5 Gs5 rfl W5 1 rfl (Nat.le_of_ble_eq_true rfl)
  have O5 := O3.wr W5 ge_b1
  have K5 := K3.wr W5 (Or.inr sz_b1)
  have N5 := Fr.snoc X5 N3 ge_b1
  obtain ⟨T6, X6, e6, st6⟩ := getS2 X5 hx hZ hown (host := "") (Or.inl (hw _ (List.mem_of_getElem? (i := 8) rfl))) Via.refl e5 (G.2.2.2.2.1.ext O5.2) (g := (mkF m 19 #[.val (.int p1), .unset, .unset, .unset, .unset, .unset, .unset] [(.int (2 : Int32)), (.ref b1), (.ref b1)])) rfl (hb hby at_19)
  obtain ⟨cl7, Ar7, qk7, Sz7, Nn7, Hs7, Gs7⟩ := id (V5)
  have hin7 : ¬ ((2 : Int32) < 0 ∨ cl7.slots.size ≤ ((2 : Int32)).toNatClampNeg) := inb_of Sz7 ⟨by decide, by decide⟩
  obtain ⟨T7, h7, X7, e7, W7, st7⟩ := stR X6 hx hZ e6 Ar7 (j := (2 : Int32)) hin7 rfl (Sto.ofV Ar7 qk7 Ov1 (Ins.self (G.2.2.2.2.2.1.ext O5.2))) (g := (mkF m 22 #[.val (.int p1), .unset, .unset, .unset, .unset, .unset, .unset] [(.ref wW3), (.int (2 : Int32)), (.ref b1), (.ref b1)])) rfl rfl (hb hby at_22)
  have V7 := Arv.set Ar7 qk7 Sz7 Nn7 Hs7 Gs7 rfl W7 2 rfl (Nat.le_of_ble_eq_true rfl)
  have O7 := O5.wr W7 ge_b1
  have K7 := K5.wr W7 (Or.inr sz_b1)
  have N7 := Fr.snoc X7 N5 ge_b1
  obtain ⟨T8, X8, e8, st8⟩ := getS2 X7 hx hZ hown (host := "") (Or.inl (hw _ (List.mem_of_getElem? (i := 10) rfl))) Via.refl e7 (G.2.2.2.2.2.2.1.ext O7.2) (g := (mkF m 25 #[.val (.int p1), .unset, .unset, .unset, .unset, .unset, .unset] [(.int (3 : Int32)), (.ref b1), (.ref b1)])) rfl (hb hby at_25)
  obtain ⟨cl9, Ar9, qk9, Sz9, Nn9, Hs9, Gs9⟩ := id (V7)
  have hin9 : ¬ ((3 : Int32) < 0 ∨ cl9.slots.size ≤ ((3 : Int32)).toNatClampNeg) := inb_of Sz9 ⟨by decide, by decide⟩
  obtain ⟨T9, h9, X9, e9, W9, st9⟩ := stR X8 hx hZ e8 Ar9 (j := (3 : Int32)) hin9 rfl (Sto.ofV Ar9 qk9 Ov1 (Ins.self (G.2.2.2.2.2.2.2.1.ext O7.2))) (g := (mkF m 28 #[.val (.int p1), .unset, .unset, .unset, .unset, .unset, .unset] [(.ref wW4), (.int (3 : Int32)), (.ref b1), (.ref b1)])) rfl rfl (hb hby at_28)
  have V9 := Arv.set Ar9 qk9 Sz9 Nn9 Hs9 Gs9 rfl W9 3 rfl (Nat.le_of_ble_eq_true rfl)
  have O9 := O7.wr W9 ge_b1
  have K9 := K7.wr W9 (Or.inr sz_b1)
  have N9 := Fr.snoc X9 N7 ge_b1
  obtain ⟨T10, X10, e10, st10⟩ := getS2 X9 hx hZ hown (host := "") (Or.inl (hw _ (List.mem_of_getElem? (i := 12) rfl))) Via.refl e9 (G.2.2.2.2.2.2.2.2.1.ext O9.2) (g := (mkF m 31 #[.val (.int p1), .unset, .unset, .unset, .unset, .unset, .unset] [(.int (4 : Int32)), (.ref b1), (.ref b1)])) rfl (hb hby at_31)
  obtain ⟨cl11, Ar11, qk11, Sz11, Nn11, Hs11, Gs11⟩ := id (V9)
  have hin11 : ¬ ((4 : Int32) < 0 ∨ cl11.slots.size ≤ ((4 : Int32)).toNatClampNeg) := inb_of Sz11 ⟨by decide, by decide⟩
  obtain ⟨T11, h11, X11, e11, W11, st11⟩ := stR X10 hx hZ e10 Ar11 (j := (4 : Int32)) hin11 rfl (Sto.ofV Ar11 qk11 Ov1 (Ins.self (G.2.2.2.2.2.2.2.2.2.1.ext O9.2))) (g := (mkF m 34 #[.val (.int p1), .unset, .unset, .unset, .unset, .unset, .unset] [(.ref wW5), (.int (4 : Int32)), (.ref b1), (.ref b1)])) rfl rfl (hb hby at_34)
  have V11 := Arv.set Ar11 qk11 Sz11 Nn11 Hs11 Gs11 rfl W11 4 rfl (Nat.le_of_ble_eq_true rfl)
  have O11 := O9.wr W11 ge_b1
  have K11 := K9.wr W11 (Or.inr sz_b1)
  have N11 := Fr.snoc X11 N9 ge_b1
  obtain ⟨T12, X12, e12, st12⟩ := getS2 X11 hx hZ hown (host := "") (Or.inl (hw _ (List.mem_of_getElem? (i := 14) rfl))) Via.refl e11 (G.2.2.2.2.2.2.2.2.2.2.1.ext O11.2) (g := (mkF m 37 #[.val (.int p1), .unset, .unset, .unset, .unset, .unset, .unset] [(.int (5 : Int32)), (.ref b1), (.ref b1)])) rfl (hb hby at_37)
  obtain ⟨cl13, Ar13, qk13, Sz13, Nn13, Hs13, Gs13⟩ := id (V11)
  have hin13 : ¬ ((5 : Int32) < 0 ∨ cl13.slots.size ≤ ((5 : Int32)).toNatClampNeg) := inb_of Sz13 ⟨by decide, by decide⟩
  obtain ⟨T13, h13, X13, e13, W13, st13⟩ := stR X12 hx hZ e12 Ar13 (j := (5 : Int32)) hin13 rfl (Sto.ofV Ar13 qk13 Ov1 (Ins.self (G.2.2.2.2.2.2.2.2.2.2.2.1.ext O11.2))) (g := (mkF m 40 #[.val (.int p1), .unset, .unset, .unset, .unset, .unset, .unset] [(.ref wW6), (.int (5 : Int32)), (.ref b1), (.ref b1)])) rfl rfl (hb hby at_40)
  have V13 := Arv.set Ar13 qk13 Sz13 Nn13 Hs13 Gs13 rfl W13 5 rfl (Nat.le_of_ble_eq_true rfl)
  have O13 := O11.wr W13 ge_b1
  have K13 := K11.wr W13 (Or.inr sz_b1)
  have N13 := Fr.snoc X13 N11 ge_b1
  obtain ⟨T14, X14, e14, st14⟩ := getS2 X13 hx hZ hown (host := "") (Or.inl (hw _ (List.mem_of_getElem? (i := 16) rfl))) Via.refl e13 (G.2.2.2.2.2.2.2.2.2.2.2.2.1.ext O13.2) (g := (mkF m 44 #[.val (.int p1), .unset, .unset, .unset, .unset, .unset, .unset] [(.int (6 : Int32)), (.ref b1), (.ref b1)])) rfl (hb hby at_44)
  obtain ⟨cl15, Ar15, qk15, Sz15, Nn15, Hs15, Gs15⟩ := id (V13)
  have hin15 : ¬ ((6 : Int32) < 0 ∨ cl15.slots.size ≤ ((6 : Int32)).toNatClampNeg) := inb_of Sz15 ⟨by decide, by decide⟩
  obtain ⟨T15, h15, X15, e15, W15, st15⟩ := stR X14 hx hZ e14 Ar15 (j := (6 : Int32)) hin15 rfl (Sto.ofV Ar15 qk15 Ov1 (Ins.self (G.2.2.2.2.2.2.2.2.2.2.2.2.2.1.ext O13.2))) (g := (mkF m 47 #[.val (.int p1), .unset, .unset, .unset, .unset, .unset, .unset] [(.ref wCW1), (.int (6 : Int32)), (.ref b1), (.ref b1)])) rfl rfl (hb hby at_47)
  have V15 := Arv.set Ar15 qk15 Sz15 Nn15 Hs15 Gs15 rfl W15 6 rfl (Nat.le_of_ble_eq_true rfl)
  have O15 := O13.wr W15 ge_b1
  have K15 := K13.wr W15 (Or.inr sz_b1)
  have N15 := Fr.snoc X15 N13 ge_b1
  obtain ⟨T16, X16, e16, st16⟩ := getS2 X15 hx hZ hown (host := "") (Or.inl (hw _ (List.mem_of_getElem? (i := 18) rfl))) Via.refl e15 (G.2.2.2.2.2.2.2.2.2.2.2.2.2.2.1.ext O15.2) (g := (mkF m 51 #[.val (.int p1), .unset, .unset, .unset, .unset, .unset, .unset] [(.int (7 : Int32)), (.ref b1), (.ref b1)])) rfl (hb hby at_51)
  obtain ⟨cl17, Ar17, qk17, Sz17, Nn17, Hs17, Gs17⟩ := id (V15)
  have hin17 : ¬ ((7 : Int32) < 0 ∨ cl17.slots.size ≤ ((7 : Int32)).toNatClampNeg) := inb_of Sz17 ⟨by decide, by decide⟩
  obtain ⟨T17, h17, X17, e17, W17, st17⟩ := stR X16 hx hZ e16 Ar17 (j := (7 : Int32)) hin17 rfl (Sto.ofV Ar17 qk17 Ov1 (Ins.self (G.2.2.2.2.2.2.2.2.2.2.2.2.2.2.2.1.ext O15.2))) (g := (mkF m 54 #[.val (.int p1), .unset, .unset, .unset, .unset, .unset, .unset] [(.ref wCW2), (.int (7 : Int32)), (.ref b1), (.ref b1)])) rfl rfl (hb hby at_54)
  have V17 := Arv.set Ar17 qk17 Sz17 Nn17 Hs17 Gs17 rfl W17 7 rfl (Nat.le_of_ble_eq_true rfl)
  have O17 := O15.wr W17 ge_b1
  have K17 := K15.wr W17 (Or.inr sz_b1)
  have N17 := Fr.snoc X17 N15 ge_b1
  obtain ⟨T18, X18, e18, st18⟩ := getS2 X17 hx hZ hown (host := "") (Or.inl (hw _ (List.mem_of_getElem? (i := 20) rfl))) Via.refl e17 (G.2.2.2.2.2.2.2.2.2.2.2.2.2.2.2.2.1.ext O17.2) (g := (mkF m 58 #[.val (.int p1), .unset, .unset, .unset, .unset, .unset, .unset] [(.int (8 : Int32)), (.ref b1), (.ref b1)])) rfl (hb hby at_58)
  obtain ⟨cl19, Ar19, qk19, Sz19, Nn19, Hs19, Gs19⟩ := id (V17)
  have hin19 : ¬ ((8 : Int32) < 0 ∨ cl19.slots.size ≤ ((8 : Int32)).toNatClampNeg) := inb_of Sz19 ⟨by decide, by decide⟩
  obtain ⟨T19, h19, X19, e19, W19, st19⟩ := stR X18 hx hZ e18 Ar19 (j := (8 : Int32)) hin19 rfl (Sto.ofV Ar19 qk19 Ov1 (Ins.self (G.2.2.2.2.2.2.2.2.2.2.2.2.2.2.2.2.2.1.ext O17.2))) (g := (mkF m 61 #[.val (.int p1), .unset, .unset, .unset, .unset, .unset, .unset] [(.ref wCW3), (.int (8 : Int32)), (.ref b1), (.ref b1)])) rfl rfl (hb hby at_61)
  have V19 := Arv.set Ar19 qk19 Sz19 Nn19 Hs19 Gs19 rfl W19 8 rfl (Nat.le_of_ble_eq_true rfl)
  have O19 := O17.wr W19 ge_b1
  have K19 := K17.wr W19 (Or.inr sz_b1)
  have N19 := Fr.snoc X19 N17 ge_b1
  obtain ⟨T20, X20, e20, st20⟩ := getS2 X19 hx hZ hown (host := "") (Or.inl (hw _ (List.mem_of_getElem? (i := 22) rfl))) Via.refl e19 (G.2.2.2.2.2.2.2.2.2.2.2.2.2.2.2.2.2.2.1.ext O19.2) (g := (mkF m 65 #[.val (.int p1), .unset, .unset, .unset, .unset, .unset, .unset] [(.int (9 : Int32)), (.ref b1), (.ref b1)])) rfl (hb hby at_65)
  obtain ⟨cl21, Ar21, qk21, Sz21, Nn21, Hs21, Gs21⟩ := id (V19)
  have hin21 : ¬ ((9 : Int32) < 0 ∨ cl21.slots.size ≤ ((9 : Int32)).toNatClampNeg) := inb_of Sz21 ⟨by decide, by decide⟩
  obtain ⟨T21, h21, X21, e21, W21, st21⟩ := stR X20 hx hZ e20 Ar21 (j := (9 : Int32)) hin21 rfl (Sto.ofV Ar21 qk21 Ov1 (Ins.self (G.2.2.2.2.2.2.2.2.2.2.2.2.2.2.2.2.2.2.2.1.ext O19.2))) (g := (mkF m 68 #[.val (.int p1), .unset, .unset, .unset, .unset, .unset, .unset] [(.ref wCW4), (.int (9 : Int32)), (.ref b1), (.ref b1)])) rfl rfl (hb hby at_68)
  have V21 := Arv.set Ar21 qk21 Sz21 Nn21 Hs21 Gs21 rfl W21 9 rfl (Nat.le_of_ble_eq_true rfl)
  have O21 := O19.wr W21 ge_b1
  have K21 := K19.wr W21 (Or.inr sz_b1)
  have N21 := Fr.snoc X21 N19 ge_b1
  obtain ⟨T22, X22, e22, st22⟩ := getS2 X21 hx hZ hown (host := "") (Or.inl (hw _ (List.mem_of_getElem? (i := 24) rfl))) Via.refl e21 (G.2.2.2.2.2.2.2.2.2.2.2.2.2.2.2.2.2.2.2.2.1.ext O21.2) (g := (mkF m 72 #[.val (.int p1), .unset, .unset, .unset, .unset, .unset, .unset] [(.int (10 : Int32)), (.ref b1), (.ref b1)])) rfl (hb hby at_72)
  obtain ⟨cl23, Ar23, qk23, Sz23, Nn23, Hs23, Gs23⟩ := id (V21)
  have hin23 : ¬ ((10 : Int32) < 0 ∨ cl23.slots.size ≤ ((10 : Int32)).toNatClampNeg) := inb_of Sz23 ⟨by decide, by decide⟩
  obtain ⟨T23, h23, X23, e23, W23, st23⟩ := stR X22 hx hZ e22 Ar23 (j := (10 : Int32)) hin23 rfl (Sto.ofV Ar23 qk23 Ov1 (Ins.self (G.2.2.2.2.2.2.2.2.2.2.2.2.2.2.2.2.2.2.2.2.2.1.ext O21.2))) (g := (mkF m 75 #[.val (.int p1), .unset, .unset, .unset, .unset, .unset, .unset] [(.ref wCW5), (.int (10 : Int32)), (.ref b1), (.ref b1)])) rfl rfl (hb hby at_75)
  have V23 := Arv.set Ar23 qk23 Sz23 Nn23 Hs23 Gs23 rfl W23 10 rfl (Nat.le_of_ble_eq_true rfl)
  have O23 := O21.wr W23 ge_b1
  have K23 := K21.wr W23 (Or.inr sz_b1)
  have N23 := Fr.snoc X23 N21 ge_b1
  obtain ⟨T24, X24, e24, st24⟩ := getS2 X23 hx hZ hown (host := "") (Or.inl (hw _ (List.mem_of_getElem? (i := 26) rfl))) Via.refl e23 (G.2.2.2.2.2.2.2.2.2.2.2.2.2.2.2.2.2.2.2.2.2.2.1.ext O23.2) (g := (mkF m 79 #[.val (.int p1), .unset, .unset, .unset, .unset, .unset, .unset] [(.int (11 : Int32)), (.ref b1), (.ref b1)])) rfl (hb hby at_79)
  obtain ⟨cl25, Ar25, qk25, Sz25, Nn25, Hs25, Gs25⟩ := id (V23)
  have hin25 : ¬ ((11 : Int32) < 0 ∨ cl25.slots.size ≤ ((11 : Int32)).toNatClampNeg) := inb_of Sz25 ⟨by decide, by decide⟩
  obtain ⟨T25, h25, X25, e25, W25, st25⟩ := stR X24 hx hZ e24 Ar25 (j := (11 : Int32)) hin25 rfl (Sto.ofV Ar25 qk25 Ov1 (Ins.self (G.2.2.2.2.2.2.2.2.2.2.2.2.2.2.2.2.2.2.2.2.2.2.2.1.ext O23.2))) (g := (mkF m 82 #[.val (.int p1), .unset, .unset, .unset, .unset, .unset, .unset] [(.ref wCW6), (.int (11 : Int32)), (.ref b1), (.ref b1)])) rfl rfl (hb hby at_82)
  have V25 := Arv.set Ar25 qk25 Sz25 Nn25 Hs25 Gs25 rfl W25 11 rfl (Nat.le_of_ble_eq_true rfl)
  have O25 := O23.wr W25 ge_b1
  have K25 := K23.wr W25 (Or.inr sz_b1)
  have N25 := Fr.snoc X25 N23 ge_b1
  obtain ⟨cl26, Ar26, qk26, Sz26, Nn26, Hs26, Gs26⟩ := id (V25)
  have hin27 : ¬ ((10 : Int32) < 0 ∨ cl26.slots.size ≤ ((10 : Int32)).toNatClampNeg) := inb_of Sz26 ⟨by decide, by decide⟩
  have hat27 : cl26.slots[((10 : Int32)).toNatClampNeg]? = some (.ref wCW5) := Hs26.at hin27 rfl
  obtain ⟨cq28, kq28, q28a, q28b, q28c⟩ := isOf hZ e25 (G.2.2.2.2.2.2.2.2.2.2.2.2.2.2.2.2.2.2.2.2.2.1.ext O25.2)
  obtain ⟨_, _, ⟨T28, L28, k28, n28⟩, -, X28, ⟨Lc28, hQ28, l28, y28, z28⟩, st28⟩ := X25.virtualBack hx (y := (⟨"com/example/credlib/credlib/engine/Rule", "statesCredential", "()Z"⟩ : MethodName)) (z := (⟨"com/example/credlib/credlib/engine/Rule", "statesCredential", "()Z"⟩ : MethodName)) hown (mvT hZ (hw _ (List.mem_of_getElem? (i := 29) rfl))) (mvT hZ (hw _ (List.mem_of_getElem? (i := 30) rfl))) (notFace_of_selects (args := #[]) (mvT hZ (hw _ (List.mem_of_getElem? (i := 32) rfl)))) (mvT hZ (hw _ (List.mem_of_getElem? (i := 32) rfl))) (mvT hZ (hw _ (List.mem_of_getElem? (i := 31) rfl))) (by decide) (backOf (W := 0) (own_statesCredential_19 l Z a0 hw [] wW1 wW2 wW3 wW4 wW5 wW6 wCW1 wCW2 wCW3 wCW4 wCW5 wCW6 G h25 n0 O25) hZ (hw _ (List.mem_of_getElem? (i := 33) rfl)) (hw _ (List.mem_of_getElem? (i := 3) rfl)) (by decide) (by decide)) q28a q28c (g := (mkF m 111 #[.val (.int p1), .val (.ref b1), .val (.int (10 : Int32)), .val (.ref wCW5), .val (.int (0 : Int32)), .unset, .unset] [(.ref wCW5)])) rfl (by rw [hml]; rfl) (Steps.refl _) (argsL := []) (rest := []) (lenOf own_pd_0 rfl) rfl (by show 2 * 0 + _ ≤ _; exact Nat.le_of_eq rfl) (hb hby at_111) (fun _ _ => ⟨rfl, e25, (by decide : 1 + 0 ≤ _), (by decide : 12 + 0 ≤ _)⟩)
  dsimp only [Pt.U, Pt.locs, Pt.cells, Pt.slots] at X28 l28 y28 z28 st28 hQ28
  subst l28 y28 z28
  obtain ⟨rfl, N28q, e28⟩ := hQ28
  have N28 := Fr.app N25 N28q
  obtain ⟨cq29, kq29, q29a, q29b, q29c⟩ := isOf hZ e28 (G.2.2.2.2.2.2.2.2.2.2.2.2.2.2.2.2.2.2.2.2.2.1.ext O25.2)
  obtain ⟨_, _, ⟨T29, L29, k29, n29⟩, -, X29, ⟨Lc29, hQ29, l29, y29, z29⟩, st29⟩ := X28.virtualBack hx (y := (⟨"com/example/credlib/credlib/engine/Rule", "atInstant", "()Lcom/example/credlib/credlib/engine/Rule;"⟩ : MethodName)) (z := (⟨"com/example/credlib/credlib/engine/Rule", "atInstant", "()Lcom/example/credlib/credlib/engine/Rule;"⟩ : MethodName)) hown (mvT hZ (hw _ (List.mem_of_getElem? (i := 35) rfl))) (mvT hZ (hw _ (List.mem_of_getElem? (i := 36) rfl))) (notFace_of_selects (args := #[]) (mvT hZ (hw _ (List.mem_of_getElem? (i := 38) rfl)))) (mvT hZ (hw _ (List.mem_of_getElem? (i := 38) rfl))) (mvT hZ (hw _ (List.mem_of_getElem? (i := 37) rfl))) (by decide) (backOf (W := 0) (own_atInstant_32 l Z a0 hw [] wW1 wW2 wW3 wW4 wW5 wW6 wCW1 wCW2 wCW3 wCW4 wCW5 wCW6 G h25 n0 O25) hZ (hw _ (List.mem_of_getElem? (i := 39) rfl)) (hw _ (List.mem_of_getElem? (i := 3) rfl)) (by decide) (by decide)) q29a q29c (g := (mkF m 117 #[.val (.int p1), .val (.ref b1), .val (.int (10 : Int32)), .val (.ref wCW5), .val (.int (0 : Int32)), .val (.int (0 : Int32)), .unset] [(.ref wCW5)])) rfl (by rw [hml]; rfl) (Steps.refl _) (argsL := []) (rest := []) (lenOf own_pd_2 rfl) rfl (by show 2 * 0 + _ ≤ _; exact Nat.le_of_eq rfl) (hb hby at_117) (fun _ _ => ⟨rfl, e28, (by decide : 1 + 0 ≤ _), (by decide : 12 + 0 ≤ _)⟩)
  dsimp only [Pt.U, Pt.locs, Pt.cells, Pt.slots] at X29 l29 y29 z29 st29 hQ29
  subst l29 y29 z29
  obtain ⟨rfl, N29q, e29⟩ := hQ29
  have N29 := Fr.app N28 N29q
  obtain ⟨cq30, kq30, q30a, q30b, q30c⟩ := isOf hZ e29 (G.2.2.2.2.2.2.2.2.2.2.2.2.2.2.2.2.2.2.2.2.2.1.ext O25.2)
  obtain ⟨_, _, ⟨T30, L30, k30, n30⟩, -, X30, ⟨Lc30, hQ30, l30, y30, z30⟩, st30⟩ := X29.virtualBack hx (y := (⟨"com/example/credlib/credlib/engine/Rule", "statesCredential", "()Z"⟩ : MethodName)) (z := (⟨"com/example/credlib/credlib/engine/Rule", "statesCredential", "()Z"⟩ : MethodName)) hown (mvT hZ (hw _ (List.mem_of_getElem? (i := 29) rfl))) (mvT hZ (hw _ (List.mem_of_getElem? (i := 30) rfl))) (notFace_of_selects (args := #[]) (mvT hZ (hw _ (List.mem_of_getElem? (i := 32) rfl)))) (mvT hZ (hw _ (List.mem_of_getElem? (i := 32) rfl))) (mvT hZ (hw _ (List.mem_of_getElem? (i := 31) rfl))) (by decide) (backOf (W := 0) (own_statesCredential_19 l Z a0 hw [] wW1 wW2 wW3 wW4 wW5 wW6 wCW1 wCW2 wCW3 wCW4 wCW5 wCW6 G h25 n0 O25) hZ (hw _ (List.mem_of_getElem? (i := 33) rfl)) (hw _ (List.mem_of_getElem? (i := 3) rfl)) (by decide) (by decide)) q30a q30c (g := (mkF m 120 #[.val (.int p1), .val (.ref b1), .val (.int (10 : Int32)), .val (.ref wCW5), .val (.int (0 : Int32)), .val (.int (0 : Int32)), .unset] [(.ref wCW5)])) rfl (by rw [hml]; rfl) (Steps.refl _) (argsL := []) (rest := []) (lenOf own_pd_0 rfl) rfl (by show 2 * 0 + _ ≤ _; exact Nat.le_of_eq rfl) (hb hby at_120) (fun _ _ => ⟨rfl, e29, (by decide : 1 + 0 ≤ _), (by decide : 12 + 0 ≤ _)⟩)
  dsimp only [Pt.U, Pt.locs, Pt.cells, Pt.slots] at X30 l30 y30 z30 st30 hQ30
  subst l30 y30 z30
  obtain ⟨rfl, N30q, e30⟩ := hQ30
  have N30 := Fr.app N29 N30q
  obtain ⟨fs, hr, hrun, hended, hW, hsame⟩ := X30.leave (v := some (.int (1 : Int32))) (fun h => by rw [Bd.returns] at h; cases h)
  refine ⟨_, _, pre0 _ ?_, hrun, hended, _, _, rfl, ?_, ⟨_, rfl⟩, hW, hsame.mono (by decide) (by decide)⟩
  · show Steps p.tables e below (s₁.setTop (mkF m 0 #[.val (.int p1), .unset, .unset, .unset, .unset, .unset, .unset] [])) _
    refine XS.bipush X0.here hx rfl (hb hby at_0) ?_
    show Steps p.tables e below (s₁.setTop (mkF m 2 #[.val (.int p1), .unset, .unset, .unset, .unset, .unset, .unset] [(.int (12 : Int32))])) _
    refine st1 _ ?_
    show Steps p.tables e below (T1.setTop (mkF m 5 #[.val (.int p1), .unset, .unset, .unset, .unset, .unset, .unset] [(.ref b1)])) _
    refine XS.dup X1.here hx rfl (hb hby at_5) rfl rfl ?_
    show Steps p.tables e below (T1.setTop (mkF m 6 #[.val (.int p1), .unset, .unset, .unset, .unset, .unset, .unset] [(.ref b1), (.ref b1)])) _
    refine XS.iconst X1.here hx rfl (hb hby at_6) ?_
    show Steps p.tables e below (T1.setTop (mkF m 7 #[.val (.int p1), .unset, .unset, .unset, .unset, .unset, .unset] [(.int (0 : Int32)), (.ref b1), (.ref b1)])) _
    refine st2 _ ?_
    show Steps p.tables e below (T2.setTop (mkF m 10 #[.val (.int p1), .unset, .unset, .unset, .unset, .unset, .unset] [(.ref wW1), (.int (0 : Int32)), (.ref b1), (.ref b1)])) _
    refine st3 _ ?_
    show Steps p.tables e below (T3.setTop (mkF m 11 #[.val (.int p1), .unset, .unset, .unset, .unset, .unset, .unset] [(.ref b1)])) _
    refine XS.dup X3.here hx rfl (hb hby at_11) rfl rfl ?_
    show Steps p.tables e below (T3.setTop (mkF m 12 #[.val (.int p1), .unset, .unset, .unset, .unset, .unset, .unset] [(.ref b1), (.ref b1)])) _
    refine XS.iconst X3.here hx rfl (hb hby at_12) ?_
    show Steps p.tables e below (T3.setTop (mkF m 13 #[.val (.int p1), .unset, .unset, .unset, .unset, .unset, .unset] [(.int (1 : Int32)), (.ref b1), (.ref b1)])) _
    refine st4 _ ?_
    show Steps p.tables e below (T4.setTop (mkF m 16 #[.val (.int p1), .unset, .unset, .unset, .unset, .unset, .unset] [(.ref wW2), (.int (1 : Int32)), (.ref b1), (.ref b1)])) _
    refine st5 _ ?_
    show Steps p.tables e below (T5.setTop (mkF m 17 #[.val (.int p1), .unset, .unset, .unset, .unset, .unset, .unset] [(.ref b1)])) _
    refine XS.dup X5.here hx rfl (hb hby at_17) rfl rfl ?_
    show Steps p.tables e below (T5.setTop (mkF m 18 #[.val (.int p1), .unset, .unset, .unset, .unset, .unset, .unset] [(.ref b1), (.ref b1)])) _
    refine XS.iconst X5.here hx rfl (hb hby at_18) ?_
    show Steps p.tables e below (T5.setTop (mkF m 19 #[.val (.int p1), .unset, .unset, .unset, .unset, .unset, .unset] [(.int (2 : Int32)), (.ref b1), (.ref b1)])) _
    refine st6 _ ?_
    show Steps p.tables e below (T6.setTop (mkF m 22 #[.val (.int p1), .unset, .unset, .unset, .unset, .unset, .unset] [(.ref wW3), (.int (2 : Int32)), (.ref b1), (.ref b1)])) _
    refine st7 _ ?_
    show Steps p.tables e below (T7.setTop (mkF m 23 #[.val (.int p1), .unset, .unset, .unset, .unset, .unset, .unset] [(.ref b1)])) _
    refine XS.dup X7.here hx rfl (hb hby at_23) rfl rfl ?_
    show Steps p.tables e below (T7.setTop (mkF m 24 #[.val (.int p1), .unset, .unset, .unset, .unset, .unset, .unset] [(.ref b1), (.ref b1)])) _
    refine XS.iconst X7.here hx rfl (hb hby at_24) ?_
    show Steps p.tables e below (T7.setTop (mkF m 25 #[.val (.int p1), .unset, .unset, .unset, .unset, .unset, .unset] [(.int (3 : Int32)), (.ref b1), (.ref b1)])) _
    refine st8 _ ?_
    show Steps p.tables e below (T8.setTop (mkF m 28 #[.val (.int p1), .unset, .unset, .unset, .unset, .unset, .unset] [(.ref wW4), (.int (3 : Int32)), (.ref b1), (.ref b1)])) _
    refine st9 _ ?_
    show Steps p.tables e below (T9.setTop (mkF m 29 #[.val (.int p1), .unset, .unset, .unset, .unset, .unset, .unset] [(.ref b1)])) _
    refine XS.dup X9.here hx rfl (hb hby at_29) rfl rfl ?_
    show Steps p.tables e below (T9.setTop (mkF m 30 #[.val (.int p1), .unset, .unset, .unset, .unset, .unset, .unset] [(.ref b1), (.ref b1)])) _
    refine XS.iconst X9.here hx rfl (hb hby at_30) ?_
    show Steps p.tables e below (T9.setTop (mkF m 31 #[.val (.int p1), .unset, .unset, .unset, .unset, .unset, .unset] [(.int (4 : Int32)), (.ref b1), (.ref b1)])) _
    refine st10 _ ?_
    show Steps p.tables e below (T10.setTop (mkF m 34 #[.val (.int p1), .unset, .unset, .unset, .unset, .unset, .unset] [(.ref wW5), (.int (4 : Int32)), (.ref b1), (.ref b1)])) _
    refine st11 _ ?_
    show Steps p.tables e below (T11.setTop (mkF m 35 #[.val (.int p1), .unset, .unset, .unset, .unset, .unset, .unset] [(.ref b1)])) _
    refine XS.dup X11.here hx rfl (hb hby at_35) rfl rfl ?_
    show Steps p.tables e below (T11.setTop (mkF m 36 #[.val (.int p1), .unset, .unset, .unset, .unset, .unset, .unset] [(.ref b1), (.ref b1)])) _
    refine XS.iconst X11.here hx rfl (hb hby at_36) ?_
    show Steps p.tables e below (T11.setTop (mkF m 37 #[.val (.int p1), .unset, .unset, .unset, .unset, .unset, .unset] [(.int (5 : Int32)), (.ref b1), (.ref b1)])) _
    refine st12 _ ?_
    show Steps p.tables e below (T12.setTop (mkF m 40 #[.val (.int p1), .unset, .unset, .unset, .unset, .unset, .unset] [(.ref wW6), (.int (5 : Int32)), (.ref b1), (.ref b1)])) _
    refine st13 _ ?_
    show Steps p.tables e below (T13.setTop (mkF m 41 #[.val (.int p1), .unset, .unset, .unset, .unset, .unset, .unset] [(.ref b1)])) _
    refine XS.dup X13.here hx rfl (hb hby at_41) rfl rfl ?_
    show Steps p.tables e below (T13.setTop (mkF m 42 #[.val (.int p1), .unset, .unset, .unset, .unset, .unset, .unset] [(.ref b1), (.ref b1)])) _
    refine XS.bipush X13.here hx rfl (hb hby at_42) ?_
    show Steps p.tables e below (T13.setTop (mkF m 44 #[.val (.int p1), .unset, .unset, .unset, .unset, .unset, .unset] [(.int (6 : Int32)), (.ref b1), (.ref b1)])) _
    refine st14 _ ?_
    show Steps p.tables e below (T14.setTop (mkF m 47 #[.val (.int p1), .unset, .unset, .unset, .unset, .unset, .unset] [(.ref wCW1), (.int (6 : Int32)), (.ref b1), (.ref b1)])) _
    refine st15 _ ?_
    show Steps p.tables e below (T15.setTop (mkF m 48 #[.val (.int p1), .unset, .unset, .unset, .unset, .unset, .unset] [(.ref b1)])) _
    refine XS.dup X15.here hx rfl (hb hby at_48) rfl rfl ?_
    show Steps p.tables e below (T15.setTop (mkF m 49 #[.val (.int p1), .unset, .unset, .unset, .unset, .unset, .unset] [(.ref b1), (.ref b1)])) _
    refine XS.bipush X15.here hx rfl (hb hby at_49) ?_
    show Steps p.tables e below (T15.setTop (mkF m 51 #[.val (.int p1), .unset, .unset, .unset, .unset, .unset, .unset] [(.int (7 : Int32)), (.ref b1), (.ref b1)])) _
    refine st16 _ ?_
    show Steps p.tables e below (T16.setTop (mkF m 54 #[.val (.int p1), .unset, .unset, .unset, .unset, .unset, .unset] [(.ref wCW2), (.int (7 : Int32)), (.ref b1), (.ref b1)])) _
    refine st17 _ ?_
    show Steps p.tables e below (T17.setTop (mkF m 55 #[.val (.int p1), .unset, .unset, .unset, .unset, .unset, .unset] [(.ref b1)])) _
    refine XS.dup X17.here hx rfl (hb hby at_55) rfl rfl ?_
    show Steps p.tables e below (T17.setTop (mkF m 56 #[.val (.int p1), .unset, .unset, .unset, .unset, .unset, .unset] [(.ref b1), (.ref b1)])) _
    refine XS.bipush X17.here hx rfl (hb hby at_56) ?_
    show Steps p.tables e below (T17.setTop (mkF m 58 #[.val (.int p1), .unset, .unset, .unset, .unset, .unset, .unset] [(.int (8 : Int32)), (.ref b1), (.ref b1)])) _
    refine st18 _ ?_
    show Steps p.tables e below (T18.setTop (mkF m 61 #[.val (.int p1), .unset, .unset, .unset, .unset, .unset, .unset] [(.ref wCW3), (.int (8 : Int32)), (.ref b1), (.ref b1)])) _
    refine st19 _ ?_
    show Steps p.tables e below (T19.setTop (mkF m 62 #[.val (.int p1), .unset, .unset, .unset, .unset, .unset, .unset] [(.ref b1)])) _
    refine XS.dup X19.here hx rfl (hb hby at_62) rfl rfl ?_
    show Steps p.tables e below (T19.setTop (mkF m 63 #[.val (.int p1), .unset, .unset, .unset, .unset, .unset, .unset] [(.ref b1), (.ref b1)])) _
    refine XS.bipush X19.here hx rfl (hb hby at_63) ?_
    show Steps p.tables e below (T19.setTop (mkF m 65 #[.val (.int p1), .unset, .unset, .unset, .unset, .unset, .unset] [(.int (9 : Int32)), (.ref b1), (.ref b1)])) _
    refine st20 _ ?_
    show Steps p.tables e below (T20.setTop (mkF m 68 #[.val (.int p1), .unset, .unset, .unset, .unset, .unset, .unset] [(.ref wCW4), (.int (9 : Int32)), (.ref b1), (.ref b1)])) _
    refine st21 _ ?_
    show Steps p.tables e below (T21.setTop (mkF m 69 #[.val (.int p1), .unset, .unset, .unset, .unset, .unset, .unset] [(.ref b1)])) _
    refine XS.dup X21.here hx rfl (hb hby at_69) rfl rfl ?_
    show Steps p.tables e below (T21.setTop (mkF m 70 #[.val (.int p1), .unset, .unset, .unset, .unset, .unset, .unset] [(.ref b1), (.ref b1)])) _
    refine XS.bipush X21.here hx rfl (hb hby at_70) ?_
    show Steps p.tables e below (T21.setTop (mkF m 72 #[.val (.int p1), .unset, .unset, .unset, .unset, .unset, .unset] [(.int (10 : Int32)), (.ref b1), (.ref b1)])) _
    refine st22 _ ?_
    show Steps p.tables e below (T22.setTop (mkF m 75 #[.val (.int p1), .unset, .unset, .unset, .unset, .unset, .unset] [(.ref wCW5), (.int (10 : Int32)), (.ref b1), (.ref b1)])) _
    refine st23 _ ?_
    show Steps p.tables e below (T23.setTop (mkF m 76 #[.val (.int p1), .unset, .unset, .unset, .unset, .unset, .unset] [(.ref b1)])) _
    refine XS.dup X23.here hx rfl (hb hby at_76) rfl rfl ?_
    show Steps p.tables e below (T23.setTop (mkF m 77 #[.val (.int p1), .unset, .unset, .unset, .unset, .unset, .unset] [(.ref b1), (.ref b1)])) _
    refine XS.bipush X23.here hx rfl (hb hby at_77) ?_
    show Steps p.tables e below (T23.setTop (mkF m 79 #[.val (.int p1), .unset, .unset, .unset, .unset, .unset, .unset] [(.int (11 : Int32)), (.ref b1), (.ref b1)])) _
    refine st24 _ ?_
    show Steps p.tables e below (T24.setTop (mkF m 82 #[.val (.int p1), .unset, .unset, .unset, .unset, .unset, .unset] [(.ref wCW6), (.int (11 : Int32)), (.ref b1), (.ref b1)])) _
    refine st25 _ ?_
    show Steps p.tables e below (T25.setTop (mkF m 83 #[.val (.int p1), .unset, .unset, .unset, .unset, .unset, .unset] [(.ref b1)])) _
    refine XS.astoreN X25.here hx rfl (hb hby at_83) rfl rfl (l' := #[.val (.int p1), .val (.ref b1), .unset, .unset, .unset, .unset, .unset]) rfl ?_
    show Steps p.tables e below (T25.setTop (mkF m 84 #[.val (.int p1), .val (.ref b1), .unset, .unset, .unset, .unset, .unset] [])) _
    refine XS.iloadN X25.here hx rfl (hb hby at_84) rfl ?_
    show Steps p.tables e below (T25.setTop (mkF m 85 #[.val (.int p1), .val (.ref b1), .unset, .unset, .unset, .unset, .unset] [(.int p1)])) _
    refine Jvm.Stand.ldcI X25 hx hown (mvT hZ (hw _ (List.mem_of_getElem? (i := 28) rfl))) rfl (hb hby at_85) ?_
    show Steps p.tables e below (T25.setTop (mkF m 87 #[.val (.int p1), .val (.ref b1), .unset, .unset, .unset, .unset, .unset] [(.int (2147483647 : Int32)), (.int p1)])) _
    refine XS.iand X25.here hx rfl (hb hby at_87) rfl ?_
    show Steps p.tables e below (T25.setTop (mkF m 88 #[.val (.int p1), .val (.ref b1), .unset, .unset, .unset, .unset, .unset] [(.int (p1 &&& (2147483647 : Int32)))])) _
    refine XS.bipush X25.here hx rfl (hb hby at_88) ?_
    show Steps p.tables e below (T25.setTop (mkF m 90 #[.val (.int p1), .val (.ref b1), .unset, .unset, .unset, .unset, .unset] [(.int (12 : Int32)), (.int (p1 &&& (2147483647 : Int32)))])) _
    refine iremM X25 hx rfl (hb hby at_90) rfl (by decide) ?_
    show Steps p.tables e below (T25.setTop (mkF m 91 #[.val (.int p1), .val (.ref b1), .unset, .unset, .unset, .unset, .unset] [(.int ((p1 &&& (2147483647 : Int32)) % (12 : Int32)))])) _
    refine castTop (g' := (mkF m 91 #[.val (.int p1), .val (.ref b1), .unset, .unset, .unset, .unset, .unset] [(.int (10 : Int32))])) (by rw [hi]) ?_
    show Steps p.tables e below (T25.setTop (mkF m 91 #[.val (.int p1), .val (.ref b1), .unset, .unset, .unset, .unset, .unset] [(.int (10 : Int32))])) _
    refine XS.istoreN X25.here hx rfl (hb hby at_91) rfl (l' := #[.val (.int p1), .val (.ref b1), .val (.int (10 : Int32)), .unset, .unset, .unset, .unset]) rfl ?_
    show Steps p.tables e below (T25.setTop (mkF m 92 #[.val (.int p1), .val (.ref b1), .val (.int (10 : Int32)), .unset, .unset, .unset, .unset] [])) _
    refine XS.aloadN X25.here hx rfl (hb hby at_92) rfl rfl ?_
    show Steps p.tables e below (T25.setTop (mkF m 93 #[.val (.int p1), .val (.ref b1), .val (.int (10 : Int32)), .unset, .unset, .unset, .unset] [(.ref b1)])) _
    refine XS.iloadN X25.here hx rfl (hb hby at_93) rfl ?_
    show Steps p.tables e below (T25.setTop (mkF m 94 #[.val (.int p1), .val (.ref b1), .val (.int (10 : Int32)), .unset, .unset, .unset, .unset] [(.int (10 : Int32)), (.ref b1)])) _
    refine X25.aaload hx (j := (10 : Int32)) (v := (.ref wCW5)) (by rw [e25]; exact Ar26.1) (State.isArrayOf_alike hZ.alike Ar26.2.1) rfl Ar26.2.2 hin27 hat27 (g := (mkF m 94 #[.val (.int p1), .val (.ref b1), .val (.int (10 : Int32)), .unset, .unset, .unset, .unset] [(.int (10 : Int32)), (.ref b1)])) rfl rfl (hb hby at_94) _ ?_
    show Steps p.tables e below (T25.setTop (mkF m 95 #[.val (.int p1), .val (.ref b1), .val (.int (10 : Int32)), .unset, .unset, .unset, .unset] [(.ref wCW5)])) _
    refine XS.astoreN X25.here hx rfl (hb hby at_95) rfl rfl (l' := #[.val (.int p1), .val (.ref b1), .val (.int (10 : Int32)), .val (.ref wCW5), .unset, .unset, .unset]) rfl ?_
    show Steps p.tables e below (T25.setTop (mkF m 96 #[.val (.int p1), .val (.ref b1), .val (.int (10 : Int32)), .val (.ref wCW5), .unset, .unset, .unset] [])) _
    refine XS.iloadN X25.here hx rfl (hb hby at_96) rfl ?_
    show Steps p.tables e below (T25.setTop (mkF m 97 #[.val (.int p1), .val (.ref b1), .val (.int (10 : Int32)), .val (.ref wCW5), .unset, .unset, .unset] [(.int (10 : Int32))])) _
    refine XS.bipush X25.here hx rfl (hb hby at_97) ?_
    show Steps p.tables e below (T25.setTop (mkF m 99 #[.val (.int p1), .val (.ref b1), .val (.int (10 : Int32)), .val (.ref wCW5), .unset, .unset, .unset] [(.int (6 : Int32)), (.int (10 : Int32))])) _
    refine iremM X25 hx rfl (hb hby at_99) rfl (by decide) ?_
    show Steps p.tables e below (T25.setTop (mkF m 100 #[.val (.int p1), .val (.ref b1), .val (.int (10 : Int32)), .val (.ref wCW5), .unset, .unset, .unset] [(.int ((10 : Int32) % (6 : Int32)))])) _
    refine castTop (g' := (mkF m 100 #[.val (.int p1), .val (.ref b1), .val (.int (10 : Int32)), .val (.ref wCW5), .unset, .unset, .unset] [(.int (4 : Int32))])) (by rw [show ((10 : Int32) % (6 : Int32)) = (4 : Int32) from by decide]) ?_
    show Steps p.tables e below (T25.setTop (mkF m 100 #[.val (.int p1), .val (.ref b1), .val (.int (10 : Int32)), .val (.ref wCW5), .unset, .unset, .unset] [(.int (4 : Int32))])) _
    refine XS.ifYes X25.here hx rfl (pc0 := 100) (pc' := 107) rfl (hb hby at_100) rfl (by decide) (by decide) (by decide) ?_
    show Steps p.tables e below (T25.setTop (mkF m 107 #[.val (.int p1), .val (.ref b1), .val (.int (10 : Int32)), .val (.ref wCW5), .unset, .unset, .unset] [])) _
    refine XS.iconst X25.here hx rfl (hb hby at_107) ?_
    show Steps p.tables e below (T25.setTop (mkF m 108 #[.val (.int p1), .val (.ref b1), .val (.int (10 : Int32)), .val (.ref wCW5), .unset, .unset, .unset] [(.int (0 : Int32))])) _
    refine XS.istore X25.here hx rfl (hb hby at_108) rfl (l' := #[.val (.int p1), .val (.ref b1), .val (.int (10 : Int32)), .val (.ref wCW5), .val (.int (0 : Int32)), .unset, .unset]) rfl ?_
    show Steps p.tables e below (T25.setTop (mkF m 110 #[.val (.int p1), .val (.ref b1), .val (.int (10 : Int32)), .val (.ref wCW5), .val (.int (0 : Int32)), .unset, .unset] [])) _
    refine XS.aloadN X25.here hx rfl (hb hby at_110) rfl rfl ?_
    show Steps p.tables e below (T25.setTop (mkF m 111 #[.val (.int p1), .val (.ref b1), .val (.int (10 : Int32)), .val (.ref wCW5), .val (.int (0 : Int32)), .unset, .unset] [(.ref wCW5)])) _
    refine st28.trans ?_
    show Steps p.tables e below (T28.setTop (mkF m 114 #[.val (.int p1), .val (.ref b1), .val (.int (10 : Int32)), .val (.ref wCW5), .val (.int (0 : Int32)), .unset, .unset] [(.int (0 : Int32))])) _
    refine XS.istore X28.here hx rfl (hb hby at_114) rfl (l' := #[.val (.int p1), .val (.ref b1), .val (.int (10 : Int32)), .val (.ref wCW5), .val (.int (0 : Int32)), .val (.int (0 : Int32)), .unset]) rfl ?_
    show Steps p.tables e below (T28.setTop (mkF m 116 #[.val (.int p1), .val (.ref b1), .val (.int (10 : Int32)), .val (.ref wCW5), .val (.int (0 : Int32)), .val (.int (0 : Int32)), .unset] [])) _
    refine XS.aloadN X28.here hx rfl (hb hby at_116) rfl rfl ?_
    show Steps p.tables e below (T28.setTop (mkF m 117 #[.val (.int p1), .val (.ref b1), .val (.int (10 : Int32)), .val (.ref wCW5), .val (.int (0 : Int32)), .val (.int (0 : Int32)), .unset] [(.ref wCW5)])) _
    refine st29.trans ?_
    show Steps p.tables e below (T29.setTop (mkF m 120 #[.val (.int p1), .val (.ref b1), .val (.int (10 : Int32)), .val (.ref wCW5), .val (.int (0 : Int32)), .val (.int (0 : Int32)), .unset] [(.ref wCW5)])) _
    refine st30.trans ?_
    show Steps p.tables e below (T30.setTop (mkF m 123 #[.val (.int p1), .val (.ref b1), .val (.int (10 : Int32)), .val (.ref wCW5), .val (.int (0 : Int32)), .val (.int (0 : Int32)), .unset] [(.int (0 : Int32))])) _
    refine XS.istore X30.here hx rfl (hb hby at_123) rfl (l' := #[.val (.int p1), .val (.ref b1), .val (.int (10 : Int32)), .val (.ref wCW5), .val (.int (0 : Int32)), .val (.int (0 : Int32)), .val (.int (0 : Int32))]) rfl ?_
    show Steps p.tables e below (T30.setTop (mkF m 125 #[.val (.int p1), .val (.ref b1), .val (.int (10 : Int32)), .val (.ref wCW5), .val (.int (0 : Int32)), .val (.int (0 : Int32)), .val (.int (0 : Int32))] [])) _
    refine XS.iload X30.here hx rfl (hb hby at_125) rfl ?_
    show Steps p.tables e below (T30.setTop (mkF m 127 #[.val (.int p1), .val (.ref b1), .val (.int (10 : Int32)), .val (.ref wCW5), .val (.int (0 : Int32)), .val (.int (0 : Int32)), .val (.int (0 : Int32))] [(.int (0 : Int32))])) _
    refine XS.iload X30.here hx rfl (hb hby at_127) rfl ?_
    show Steps p.tables e below (T30.setTop (mkF m 129 #[.val (.int p1), .val (.ref b1), .val (.int (10 : Int32)), .val (.ref wCW5), .val (.int (0 : Int32)), .val (.int (0 : Int32)), .val (.int (0 : Int32))] [(.int (0 : Int32)), (.int (0 : Int32))])) _
    refine XS.icmpNo X30.here hx rfl (hb hby at_129) rfl (by decide) ?_
    show Steps p.tables e below (T30.setTop (mkF m 132 #[.val (.int p1), .val (.ref b1), .val (.int (10 : Int32)), .val (.ref wCW5), .val (.int (0 : Int32)), .val (.int (0 : Int32)), .val (.int (0 : Int32))] [])) _
    refine XS.iload X30.here hx rfl (hb hby at_132) rfl ?_
    show Steps p.tables e below (T30.setTop (mkF m 134 #[.val (.int p1), .val (.ref b1), .val (.int (10 : Int32)), .val (.ref wCW5), .val (.int (0 : Int32)), .val (.int (0 : Int32)), .val (.int (0 : Int32))] [(.int (0 : Int32))])) _
    refine XS.iload X30.here hx rfl (hb hby at_134) rfl ?_
    show Steps p.tables e below (T30.setTop (mkF m 136 #[.val (.int p1), .val (.ref b1), .val (.int (10 : Int32)), .val (.ref wCW5), .val (.int (0 : Int32)), .val (.int (0 : Int32)), .val (.int (0 : Int32))] [(.int (0 : Int32)), (.int (0 : Int32))])) _
    refine XS.icmpNo X30.here hx rfl (hb hby at_136) rfl (by decide) ?_
    show Steps p.tables e below (T30.setTop (mkF m 139 #[.val (.int p1), .val (.ref b1), .val (.int (10 : Int32)), .val (.ref wCW5), .val (.int (0 : Int32)), .val (.int (0 : Int32)), .val (.int (0 : Int32))] [])) _
    refine XS.iconst X30.here hx rfl (hb hby at_139) ?_
    show Steps p.tables e below (T30.setTop (mkF m 140 #[.val (.int p1), .val (.ref b1), .val (.int (10 : Int32)), .val (.ref wCW5), .val (.int (0 : Int32)), .val (.int (0 : Int32)), .val (.int (0 : Int32))] [(.int (1 : Int32))])) _
    refine XS.goto X30.here hx rfl (pc0 := 140) (pc' := 144) rfl (hb hby at_140) (by decide) (by decide) ?_
    show Steps p.tables e below (T30.setTop (mkF m 144 #[.val (.int p1), .val (.ref b1), .val (.int (10 : Int32)), .val (.ref wCW5), .val (.int (0 : Int32)), .val (.int (0 : Int32)), .val (.int (0 : Int32))] [(.int (1 : Int32))])) _
    exact retN X30 hx (t := .boolean) Bd.returns (by simp) (hb hby at_144) hr
  · exact ⟨rfl, N30⟩
set_option maxRecDepth 65536 in
set_option maxHeartbeats 40000000 in
theorem own_ordinal_35 (l : Launch) (Z : State) (a0 : Array Value) (hw : ∀ d ∈ tables_1, d.before a0 Z = true) (ws : List Jvm.Cond) (wW1 : Addr) (wW2 : Addr) (wW3 : Addr) (wW4 : Addr) (wW5 : Addr) (wW6 : Addr) (wCW1 : Addr) (wCW2 : Addr) (wCW3 : Addr) (wCW4 : Addr) (wCW5 : Addr) (wCW6 : Addr) (G : OwnG Z wW1 wW2 wW3 wW4 wW5 wW6 wCW1 wCW2 wCW3 wCW4 wCW5 wCW6) (h0 : Heap) (n0 : Nat) (O0 : Old Z n0 h0) :
    MetFree l (⟨"java/lang/Enum", "ordinal", "()I"⟩ : MethodName) (head1 (Jvm.Cond.code (⟨"java/lang/Enum", "ordinal", "()I"⟩ : MethodName) jdk_37_method_2_code 1 (some .int) :: ws) ({ frames := 0, cells := 0, slots := 0, locals := 0 } : Room)) (fun a U => a = #[(.ref wCW6)] ∧ Z.Warmed39 U.vm ∧ U.heap = h0) (fun _ _ _ _ _ => True) (fun _ U o U' => ∃ v L, o = .returned v ∧ OwnQ (some (.int (11 : Int32))) h0 n0 v U'.heap L ∧ FrameEnd U o U' L ({ frames := 0, cells := 0, slots := 0, locals := 0 } : Room).cells ({ frames := 0, cells := 0, slots := 0, locals := 0 } : Room).slots) := by
  refine MetFree.of_bodySF (plainFor_of_name own_pn_3) hisR ?_
  intro p e s m args below meth c s₁ Bd hml0 hP hK
  obtain ⟨rfl, hZ, hh⟩ := hP
  have hx := Bd.exec
  have hby := Bd.bytes
  have hml : c.maxLocals = 1 := hml0
  have hown : s.vm.findClass "java/lang/Enum" = some m.cls := findClass_of_methodNamed Bd.named
  have hnm := (name_of_methodNamed Bd.named Bd.method).1
  have X0 : Stand p l e ({ frames := 0, cells := 0, slots := 0, locals := 0 } : Room) s m #[(.ref wCW6)] below meth c s₁ [] 0 0 := Stand.of_body Bd
  have e0 : s₁.heap = h0 := by rw [← hh, Bd.state]; rfl
  have N0 := Fr.nil n0
  have pre0 : ∀ t, Steps p.tables e below (s₁.setTop (mkF m 0 #[.val (.ref wCW6)] [])) t → Steps p.tables e below (s₁.setTop (entryFrame m #[(.ref wCW6)] 1)) t := fun t k => castTop (own_ef_3_R m wCW6) k
  obtain ⟨T1, X1, e1, st1⟩ := getF X0 hx hZ hown (host := "") (Or.inl (hw _ (List.mem_of_getElem? (i := 47) rfl))) Via.refl e0 (G.2.2.2.2.2.2.2.2.2.2.2.2.2.2.2.2.2.2.2.2.2.2.2.2.2.2.2.2.2.2.2.1.ext O0.2) (g := (mkF m 1 #[.val (.ref wCW6)] [(.ref wCW6)])) rfl rfl (hb hby own_d3_1)
  obtain ⟨fs, hr, hrun, hended, hW, hsame⟩ := X1.leave (v := some (.int (11 : Int32))) (fun h => by rw [Bd.returns] at h; cases h)
  refine ⟨_, _, pre0 _ ?_, hrun, hended, _, _, rfl, ?_, ⟨_, rfl⟩, hW, hsame.mono (by decide) (by decide)⟩
  · show Steps p.tables e below (s₁.setTop (mkF m 0 #[.val (.ref wCW6)] [])) _
    refine XS.aloadN X0.here hx rfl (hb hby own_d3_0) rfl rfl ?_
    show Steps p.tables e below (s₁.setTop (mkF m 1 #[.val (.ref wCW6)] [(.ref wCW6)])) _
    refine st1 _ ?_
    show Steps p.tables e below (T1.setTop (mkF m 4 #[.val (.ref wCW6)] [(.int (11 : Int32))])) _
    exact retI X1 hx Bd.returns (hb hby own_d3_4) hr
  · show OwnQ _ h0 n0 _ T1.heap _
    exact ⟨rfl, N0, e1⟩
set_option maxRecDepth 65536 in
set_option maxHeartbeats 40000000 in
theorem own_atInstant_34 (l : Launch) (Z : State) (a0 : Array Value) (hw : ∀ d ∈ tables_1, d.before a0 Z = true) (ws : List Jvm.Cond) (wW1 : Addr) (wW2 : Addr) (wW3 : Addr) (wW4 : Addr) (wW5 : Addr) (wW6 : Addr) (wCW1 : Addr) (wCW2 : Addr) (wCW3 : Addr) (wCW4 : Addr) (wCW5 : Addr) (wCW6 : Addr) (G : OwnG Z wW1 wW2 wW3 wW4 wW5 wW6 wCW1 wCW2 wCW3 wCW4 wCW5 wCW6) (h0 : Heap) (n0 : Nat) (O0 : Old Z n0 h0) :
    MetFree l (⟨"com/example/credlib/credlib/engine/Rule", "atInstant", "()Lcom/example/credlib/credlib/engine/Rule;"⟩ : MethodName) (head1 (Jvm.Cond.code (⟨"com/example/credlib/credlib/engine/Rule", "atInstant", "()Lcom/example/credlib/credlib/engine/Rule;"⟩ : MethodName) prog_18_method_5_code 1 (some (.object "com/example/credlib/credlib/engine/Rule")) :: ws) ({ frames := 1, cells := 0, slots := 0, locals := 12 } : Room)) (fun a U => a = #[(.ref wCW6)] ∧ Z.Warmed39 U.vm ∧ U.heap = h0) (fun _ _ _ _ _ => True) (fun _ U o U' => ∃ v L, o = .returned v ∧ OwnQ (some (.ref wCW6)) h0 n0 v U'.heap L ∧ FrameEnd U o U' L ({ frames := 1, cells := 0, slots := 0, locals := 12 } : Room).cells ({ frames := 1, cells := 0, slots := 0, locals := 12 } : Room).slots) := by
  refine MetFree.of_bodySF (plainFor_of_name own_pn_1) hisR ?_
  intro p e s m args below meth c s₁ Bd hml0 hP hK
  obtain ⟨rfl, hZ, hh⟩ := hP
  have hx := Bd.exec
  have hby := Bd.bytes
  have hml : c.maxLocals = 1 := hml0
  have hown : s.vm.findClass "com/example/credlib/credlib/engine/Rule" = some m.cls := findClass_of_methodNamed Bd.named
  have hnm := (name_of_methodNamed Bd.named Bd.method).1
  have X0 : Stand p l e ({ frames := 1, cells := 0, slots := 0, locals := 12 } : Room) s m #[(.ref wCW6)] below meth c s₁ [] 0 0 := Stand.of_body Bd
  have e0 : s₁.heap = h0 := by rw [← hh, Bd.state]; rfl
  have N0 := Fr.nil n0
  have pre0 : ∀ t, Steps p.tables e below (s₁.setTop (mkF m 0 #[.val (.ref wCW6)] [])) t → Steps p.tables e below (s₁.setTop (entryFrame m #[(.ref wCW6)] 1)) t := fun t k => castTop (own_ef_2_R m wCW6) k
  obtain ⟨cq1, kq1, q1a, q1b, q1c⟩ := isOf hZ e0 (G.2.2.2.2.2.2.2.2.2.2.2.2.2.2.2.2.2.2.2.2.2.2.2.1.ext O0.2)
  obtain ⟨_, _, ⟨T1, L1, k1, n1⟩, -, X1, ⟨Lc1, hQ1, l1, y1, z1⟩, st1⟩ := X0.virtualBackUp hx (x := (⟨"com/example/credlib/credlib/engine/Rule", "ordinal", "()I"⟩ : MethodName)) (y := (⟨"java/lang/Enum", "ordinal", "()I"⟩ : MethodName)) (owner := "java/lang/Enum") hown (mvT hZ (hw _ (List.mem_of_getElem? (i := 40) rfl))) (mvT hZ (hw _ (List.mem_of_getElem? (i := 41) rfl))) (mvT hZ (hw _ (List.mem_of_getElem? (i := 42) rfl))) (by decide) (mvT hZ (hw _ (List.mem_of_getElem? (i := 44) rfl))) (mvT hZ (hw _ (List.mem_of_getElem? (i := 43) rfl))) (backOf (W := 0) (own_ordinal_35 l Z a0 hw [] wW1 wW2 wW3 wW4 wW5 wW6 wCW1 wCW2 wCW3 wCW4 wCW5 wCW6 G h0 n0 O0) hZ (hw _ (List.mem_of_getElem? (i := 46) rfl)) (hw _ (List.mem_of_getElem? (i := 45) rfl)) (by decide) (by decide)) q1a q1c (g := (mkF m 1 #[.val (.ref wCW6)] [(.ref wCW6)])) rfl (by rw [hml]; rfl) (Steps.refl _) (argsL := []) (rest := []) (lenOf own_pd_1 rfl) rfl (by show 2 * 0 + _ ≤ _; exact Nat.le_of_eq rfl) (hb hby own_d2_1) (fun _ _ => ⟨rfl, e0, (by decide : 0 + 0 ≤ _), (by decide : 0 + 0 ≤ _)⟩)
  dsimp only [Pt.U, Pt.locs, Pt.cells, Pt.slots] at X1 l1 y1 z1 st1 hQ1
  subst l1 y1 z1
  obtain ⟨rfl, N1q, e1⟩ := hQ1
  have N1 := Fr.app N0 N1q
  obtain ⟨fs, hr, hrun, hended, hW, hsame⟩ := X1.leave (v := some (.ref wCW6)) (fun h => by rw [Bd.returns] at h; cases h)
  refine ⟨_, _, pre0 _ ?_, hrun, hended, _, _, rfl, ?_, ⟨_, rfl⟩, hW, hsame.mono (by decide) (by decide)⟩
  · show Steps p.tables e below (s₁.setTop (mkF m 0 #[.val (.ref wCW6)] [])) _
    refine XS.aloadN X0.here hx rfl (hb hby own_d2_0) rfl rfl ?_
    show Steps p.tables e below (s₁.setTop (mkF m 1 #[.val (.ref wCW6)] [(.ref wCW6)])) _
    refine st1.trans ?_
    show Steps p.tables e below (T1.setTop (mkF m 4 #[.val (.ref wCW6)] [(.int (11 : Int32))])) _
    refine XS.tswOut X1.here hx rfl (pc0 := 4) (pc' := 80) rfl (hb hby own_d2_4) rfl (by decide) (by decide) (by decide) ?_
    show Steps p.tables e below (T1.setTop (mkF m 80 #[.val (.ref wCW6)] [])) _
    refine XS.aloadN X1.here hx rfl (hb hby own_d2_80) rfl rfl ?_
    show Steps p.tables e below (T1.setTop (mkF m 81 #[.val (.ref wCW6)] [(.ref wCW6)])) _
    jvm_step X1.here [X1.here.top, hx, (hb hby own_d2_81), X1.method', Bd.returns, Value.isRef, FieldType.isReference]
    first | (intro acts; rw [hr _ acts rfl rfl rfl]) | rw [hr _ _ rfl rfl rfl]
    exact Steps.refl _
  · show OwnQ _ h0 n0 _ T1.heap _
    exact ⟨rfl, N1, e1⟩
set_option maxRecDepth 65536 in
set_option maxHeartbeats 40000000 in
theorem own_law_11 (l : Launch) (Z : State) (a0 : Array Value) (hw : ∀ d ∈ tables_1, d.before a0 Z = true) (ws : List Jvm.Cond) (wW1 : Addr) (wW2 : Addr) (wW3 : Addr) (wW4 : Addr) (wW5 : Addr) (wW6 : Addr) (wCW1 : Addr) (wCW2 : Addr) (wCW3 : Addr) (wCW4 : Addr) (wCW5 : Addr) (wCW6 : Addr) (G : OwnG Z wW1 wW2 wW3 wW4 wW5 wW6 wCW1 wCW2 wCW3 wCW4 wCW5 wCW6) (h0 : Heap) (n0 : Nat) (O0 : Old Z n0 h0) (p1 : Int32) (hi : ((p1 &&& (2147483647 : Int32)) % (12 : Int32)) = (11 : Int32)) :
    MetFree l x (head1 (Jvm.Cond.code x code maxLocals ret :: ws) room_1) (fun a U => a = #[(.int p1)] ∧ Z.Warmed39 U.vm ∧ U.heap = h0) (fun _ _ _ _ _ => True) (fun _ U o U' => ∃ v L, o = .returned v ∧ (v = some (.int 1) ∧ Fr n0 L) ∧ FrameEnd U o U' L room_1.cells room_1.slots) := by
  refine MetFree.of_bodySF (plainFor_of_name own_pn_0) hisR ?_
  intro p e s m args below meth c s₁ Bd hml0 hP hK
  obtain ⟨rfl, hZ, hh⟩ := hP
  have hx := Bd.exec
  have hby := Bd.bytes
  have hml : c.maxLocals = 7 := hml0
  have hown : s.vm.findClass "com/example/credlib/credlib/engine/RuleStatesCredentialPinLaw" = some m.cls := findClass_of_methodNamed Bd.named
  have hnm := (name_of_methodNamed Bd.named Bd.method).1
  have X0 : Stand p l e room_1 s m #[(.int p1)] below meth c s₁ [] 0 0 := Stand.of_body Bd
  have e0 : s₁.heap = h0 := by rw [← hh, Bd.state]; rfl
  have N0 := Fr.nil n0
  have pre0 : ∀ t, Steps p.tables e below (s₁.setTop (mkF m 0 #[.val (.int p1), .unset, .unset, .unset, .unset, .unset, .unset] [])) t → Steps p.tables e below (s₁.setTop (entryFrame m #[(.int p1)] maxLocals)) t := fun t k => castTop (own_ef_0_I m p1) k
  obtain ⟨T1, h1, k1, X1, e1, E1, A1, Ov1, st1⟩ := newR X0 hx hZ hown (hw _ (List.mem_of_getElem? (i := 0) rfl)) (hw _ (List.mem_of_getElem? (i := 1) rfl)) e0 (g := (mkF m 2 #[.val (.int p1), .unset, .unset, .unset, .unset, .unset, .unset] [(.int (12 : Int32))])) rfl (hb hby at_2) rfl (by decide) (cap := 12) (by decide) (by decide) (by decide) (by decide)
  obtain ⟨b1, g1⟩ : ∃ z, z = h0.size := ⟨_, rfl⟩
  rw [← g1] at A1 st1
  have ge_b1 : n0 ≤ b1 := own_new O0 g1
  have sz_b1 : h0.size ≤ b1 := Nat.le_trans (Keep.refl h0 []).1 (Nat.le_of_eq g1.symm)
  have O1 := O0.ext E1
  have K1 := (Keep.refl h0 []).ext E1
  have V1 : Arv Z h1 b1 k1 (.object "com/example/credlib/credlib/engine/Rule") (12 : Int32) [.null, .null, .null, .null, .null, .null, .null, .null, .null, .null, .null, .null] .null := (Arv.new A1 (by decide)).pad (pad_rep [] .null 12)
  obtain ⟨T2, X2, e2, st2⟩ := getS2 X1 hx hZ hown (host := "") (Or.inl (hw _ (List.mem_of_getElem? (i := 2) rfl))) Via.refl e1 (G.1.ext O1.2) (g := (mkF m 7 #[.val (.int p1), .unset, .unset, .unset, .unset, .unset, .unset] [(.int (0 : Int32)), (.ref b1), (.ref b1)])) rfl (hb hby at_7)
  obtain ⟨cl3, Ar3, qk3, Sz3, Nn3, Hs3, Gs3⟩ := id (V1)
  have hin3 : ¬ ((0 : Int32) < 0 ∨ cl3.slots.size ≤ ((0 : Int32)).toNatClampNeg) := inb_of Sz3 ⟨by decide, by decide⟩
  obtain ⟨T3, h3, X3, e3, W3, st3⟩ := stR X2 hx hZ e2 Ar3 (j := (0 : Int32)) hin3 rfl (Sto.ofV Ar3 qk3 Ov1 (Ins.self (G.2.1.ext O1.2))) (g := (mkF m 10 #[.val (.int p1), .unset, .unset, .unset, .unset, .unset, .unset] [(.ref wW1), (.int (0 : Int32)), (.ref b1), (.ref b1)])) rfl rfl (hb hby at_10)
  have V3 := Arv.set Ar3 qk3 Sz3 Nn3 Hs3 Gs3 rfl W3 0 rfl (Nat.le_of_ble_eq_true rfl)
  have O3 := O1.wr W3 ge_b1
  have K3 := K1.wr W3 (Or.inr sz_b1)
  have N3 := Fr.snoc X3 N0 ge_b1
  obtain ⟨T4, X4, e4, st4⟩ := getS2 X3 hx hZ hown (host := "") (Or.inl (hw _ (List.mem_of_getElem? (i := 6) rfl))) Via.refl e3 (G.2.2.1.ext O3.2) (g := (mkF m 13 #[.val (.int p1), .unset, .unset, .unset, .unset, .unset, .unset] [(.int (1 : Int32)), (.ref b1), (.ref b1)])) rfl (hb hby at_13)
  obtain ⟨cl5, Ar5, qk5, Sz5, Nn5, Hs5, Gs5⟩ := id (V3)
  have hin5 : ¬ ((1 : Int32) < 0 ∨ cl5.slots.size ≤ ((1 : Int32)).toNatClampNeg) := inb_of Sz5 ⟨by decide, by decide⟩
  obtain ⟨T5, h5, X5, e5, W5, st5⟩ := stR X4 hx hZ e4 Ar5 (j := (1 : Int32)) hin5 rfl (Sto.ofV Ar5 qk5 Ov1 (Ins.self (G.2.2.2.1.ext O3.2))) (g := (mkF m 16 #[.val (.int p1), .unset, .unset, .unset, .unset, .unset, .unset] [(.ref wW2), (.int (1 : Int32)), (.ref b1), (.ref b1)])) rfl rfl (hb hby at_16)
  have V5 := Arv.set Ar5 qk5 Sz5 Nn5 Hs5 Gs5 rfl W5 1 rfl (Nat.le_of_ble_eq_true rfl)
  have O5 := O3.wr W5 ge_b1
  have K5 := K3.wr W5 (Or.inr sz_b1)
  have N5 := Fr.snoc X5 N3 ge_b1
  obtain ⟨T6, X6, e6, st6⟩ := getS2 X5 hx hZ hown (host := "") (Or.inl (hw _ (List.mem_of_getElem? (i := 8) rfl))) Via.refl e5 (G.2.2.2.2.1.ext O5.2) (g := (mkF m 19 #[.val (.int p1), .unset, .unset, .unset, .unset, .unset, .unset] [(.int (2 : Int32)), (.ref b1), (.ref b1)])) rfl (hb hby at_19)
  obtain ⟨cl7, Ar7, qk7, Sz7, Nn7, Hs7, Gs7⟩ := id (V5)
  have hin7 : ¬ ((2 : Int32) < 0 ∨ cl7.slots.size ≤ ((2 : Int32)).toNatClampNeg) := inb_of Sz7 ⟨by decide, by decide⟩
  obtain ⟨T7, h7, X7, e7, W7, st7⟩ := stR X6 hx hZ e6 Ar7 (j := (2 : Int32)) hin7 rfl (Sto.ofV Ar7 qk7 Ov1 (Ins.self (G.2.2.2.2.2.1.ext O5.2))) (g := (mkF m 22 #[.val (.int p1), .unset, .unset, .unset, .unset, .unset, .unset] [(.ref wW3), (.int (2 : Int32)), (.ref b1), (.ref b1)])) rfl rfl (hb hby at_22)
  have V7 := Arv.set Ar7 qk7 Sz7 Nn7 Hs7 Gs7 rfl W7 2 rfl (Nat.le_of_ble_eq_true rfl)
  have O7 := O5.wr W7 ge_b1
  have K7 := K5.wr W7 (Or.inr sz_b1)
  have N7 := Fr.snoc X7 N5 ge_b1
  obtain ⟨T8, X8, e8, st8⟩ := getS2 X7 hx hZ hown (host := "") (Or.inl (hw _ (List.mem_of_getElem? (i := 10) rfl))) Via.refl e7 (G.2.2.2.2.2.2.1.ext O7.2) (g := (mkF m 25 #[.val (.int p1), .unset, .unset, .unset, .unset, .unset, .unset] [(.int (3 : Int32)), (.ref b1), (.ref b1)])) rfl (hb hby at_25)
  obtain ⟨cl9, Ar9, qk9, Sz9, Nn9, Hs9, Gs9⟩ := id (V7)
  have hin9 : ¬ ((3 : Int32) < 0 ∨ cl9.slots.size ≤ ((3 : Int32)).toNatClampNeg) := inb_of Sz9 ⟨by decide, by decide⟩
  obtain ⟨T9, h9, X9, e9, W9, st9⟩ := stR X8 hx hZ e8 Ar9 (j := (3 : Int32)) hin9 rfl (Sto.ofV Ar9 qk9 Ov1 (Ins.self (G.2.2.2.2.2.2.2.1.ext O7.2))) (g := (mkF m 28 #[.val (.int p1), .unset, .unset, .unset, .unset, .unset, .unset] [(.ref wW4), (.int (3 : Int32)), (.ref b1), (.ref b1)])) rfl rfl (hb hby at_28)
  have V9 := Arv.set Ar9 qk9 Sz9 Nn9 Hs9 Gs9 rfl W9 3 rfl (Nat.le_of_ble_eq_true rfl)
  have O9 := O7.wr W9 ge_b1
  have K9 := K7.wr W9 (Or.inr sz_b1)
  have N9 := Fr.snoc X9 N7 ge_b1
  obtain ⟨T10, X10, e10, st10⟩ := getS2 X9 hx hZ hown (host := "") (Or.inl (hw _ (List.mem_of_getElem? (i := 12) rfl))) Via.refl e9 (G.2.2.2.2.2.2.2.2.1.ext O9.2) (g := (mkF m 31 #[.val (.int p1), .unset, .unset, .unset, .unset, .unset, .unset] [(.int (4 : Int32)), (.ref b1), (.ref b1)])) rfl (hb hby at_31)
  obtain ⟨cl11, Ar11, qk11, Sz11, Nn11, Hs11, Gs11⟩ := id (V9)
  have hin11 : ¬ ((4 : Int32) < 0 ∨ cl11.slots.size ≤ ((4 : Int32)).toNatClampNeg) := inb_of Sz11 ⟨by decide, by decide⟩
  obtain ⟨T11, h11, X11, e11, W11, st11⟩ := stR X10 hx hZ e10 Ar11 (j := (4 : Int32)) hin11 rfl (Sto.ofV Ar11 qk11 Ov1 (Ins.self (G.2.2.2.2.2.2.2.2.2.1.ext O9.2))) (g := (mkF m 34 #[.val (.int p1), .unset, .unset, .unset, .unset, .unset, .unset] [(.ref wW5), (.int (4 : Int32)), (.ref b1), (.ref b1)])) rfl rfl (hb hby at_34)
  have V11 := Arv.set Ar11 qk11 Sz11 Nn11 Hs11 Gs11 rfl W11 4 rfl (Nat.le_of_ble_eq_true rfl)
  have O11 := O9.wr W11 ge_b1
  have K11 := K9.wr W11 (Or.inr sz_b1)
  have N11 := Fr.snoc X11 N9 ge_b1
  obtain ⟨T12, X12, e12, st12⟩ := getS2 X11 hx hZ hown (host := "") (Or.inl (hw _ (List.mem_of_getElem? (i := 14) rfl))) Via.refl e11 (G.2.2.2.2.2.2.2.2.2.2.1.ext O11.2) (g := (mkF m 37 #[.val (.int p1), .unset, .unset, .unset, .unset, .unset, .unset] [(.int (5 : Int32)), (.ref b1), (.ref b1)])) rfl (hb hby at_37)
  obtain ⟨cl13, Ar13, qk13, Sz13, Nn13, Hs13, Gs13⟩ := id (V11)
  have hin13 : ¬ ((5 : Int32) < 0 ∨ cl13.slots.size ≤ ((5 : Int32)).toNatClampNeg) := inb_of Sz13 ⟨by decide, by decide⟩
  obtain ⟨T13, h13, X13, e13, W13, st13⟩ := stR X12 hx hZ e12 Ar13 (j := (5 : Int32)) hin13 rfl (Sto.ofV Ar13 qk13 Ov1 (Ins.self (G.2.2.2.2.2.2.2.2.2.2.2.1.ext O11.2))) (g := (mkF m 40 #[.val (.int p1), .unset, .unset, .unset, .unset, .unset, .unset] [(.ref wW6), (.int (5 : Int32)), (.ref b1), (.ref b1)])) rfl rfl (hb hby at_40)
  have V13 := Arv.set Ar13 qk13 Sz13 Nn13 Hs13 Gs13 rfl W13 5 rfl (Nat.le_of_ble_eq_true rfl)
  have O13 := O11.wr W13 ge_b1
  have K13 := K11.wr W13 (Or.inr sz_b1)
  have N13 := Fr.snoc X13 N11 ge_b1
  obtain ⟨T14, X14, e14, st14⟩ := getS2 X13 hx hZ hown (host := "") (Or.inl (hw _ (List.mem_of_getElem? (i := 16) rfl))) Via.refl e13 (G.2.2.2.2.2.2.2.2.2.2.2.2.1.ext O13.2) (g := (mkF m 44 #[.val (.int p1), .unset, .unset, .unset, .unset, .unset, .unset] [(.int (6 : Int32)), (.ref b1), (.ref b1)])) rfl (hb hby at_44)
  obtain ⟨cl15, Ar15, qk15, Sz15, Nn15, Hs15, Gs15⟩ := id (V13)
  have hin15 : ¬ ((6 : Int32) < 0 ∨ cl15.slots.size ≤ ((6 : Int32)).toNatClampNeg) := inb_of Sz15 ⟨by decide, by decide⟩
  obtain ⟨T15, h15, X15, e15, W15, st15⟩ := stR X14 hx hZ e14 Ar15 (j := (6 : Int32)) hin15 rfl (Sto.ofV Ar15 qk15 Ov1 (Ins.self (G.2.2.2.2.2.2.2.2.2.2.2.2.2.1.ext O13.2))) (g := (mkF m 47 #[.val (.int p1), .unset, .unset, .unset, .unset, .unset, .unset] [(.ref wCW1), (.int (6 : Int32)), (.ref b1), (.ref b1)])) rfl rfl (hb hby at_47)
  have V15 := Arv.set Ar15 qk15 Sz15 Nn15 Hs15 Gs15 rfl W15 6 rfl (Nat.le_of_ble_eq_true rfl)
  have O15 := O13.wr W15 ge_b1
  have K15 := K13.wr W15 (Or.inr sz_b1)
  have N15 := Fr.snoc X15 N13 ge_b1
  obtain ⟨T16, X16, e16, st16⟩ := getS2 X15 hx hZ hown (host := "") (Or.inl (hw _ (List.mem_of_getElem? (i := 18) rfl))) Via.refl e15 (G.2.2.2.2.2.2.2.2.2.2.2.2.2.2.1.ext O15.2) (g := (mkF m 51 #[.val (.int p1), .unset, .unset, .unset, .unset, .unset, .unset] [(.int (7 : Int32)), (.ref b1), (.ref b1)])) rfl (hb hby at_51)
  obtain ⟨cl17, Ar17, qk17, Sz17, Nn17, Hs17, Gs17⟩ := id (V15)
  have hin17 : ¬ ((7 : Int32) < 0 ∨ cl17.slots.size ≤ ((7 : Int32)).toNatClampNeg) := inb_of Sz17 ⟨by decide, by decide⟩
  obtain ⟨T17, h17, X17, e17, W17, st17⟩ := stR X16 hx hZ e16 Ar17 (j := (7 : Int32)) hin17 rfl (Sto.ofV Ar17 qk17 Ov1 (Ins.self (G.2.2.2.2.2.2.2.2.2.2.2.2.2.2.2.1.ext O15.2))) (g := (mkF m 54 #[.val (.int p1), .unset, .unset, .unset, .unset, .unset, .unset] [(.ref wCW2), (.int (7 : Int32)), (.ref b1), (.ref b1)])) rfl rfl (hb hby at_54)
  have V17 := Arv.set Ar17 qk17 Sz17 Nn17 Hs17 Gs17 rfl W17 7 rfl (Nat.le_of_ble_eq_true rfl)
  have O17 := O15.wr W17 ge_b1
  have K17 := K15.wr W17 (Or.inr sz_b1)
  have N17 := Fr.snoc X17 N15 ge_b1
  obtain ⟨T18, X18, e18, st18⟩ := getS2 X17 hx hZ hown (host := "") (Or.inl (hw _ (List.mem_of_getElem? (i := 20) rfl))) Via.refl e17 (G.2.2.2.2.2.2.2.2.2.2.2.2.2.2.2.2.1.ext O17.2) (g := (mkF m 58 #[.val (.int p1), .unset, .unset, .unset, .unset, .unset, .unset] [(.int (8 : Int32)), (.ref b1), (.ref b1)])) rfl (hb hby at_58)
  obtain ⟨cl19, Ar19, qk19, Sz19, Nn19, Hs19, Gs19⟩ := id (V17)
  have hin19 : ¬ ((8 : Int32) < 0 ∨ cl19.slots.size ≤ ((8 : Int32)).toNatClampNeg) := inb_of Sz19 ⟨by decide, by decide⟩
  obtain ⟨T19, h19, X19, e19, W19, st19⟩ := stR X18 hx hZ e18 Ar19 (j := (8 : Int32)) hin19 rfl (Sto.ofV Ar19 qk19 Ov1 (Ins.self (G.2.2.2.2.2.2.2.2.2.2.2.2.2.2.2.2.2.1.ext O17.2))) (g := (mkF m 61 #[.val (.int p1), .unset, .unset, .unset, .unset, .unset, .unset] [(.ref wCW3), (.int (8 : Int32)), (.ref b1), (.ref b1)])) rfl rfl (hb hby at_61)
  have V19 := Arv.set Ar19 qk19 Sz19 Nn19 Hs19 Gs19 rfl W19 8 rfl (Nat.le_of_ble_eq_true rfl)
  have O19 := O17.wr W19 ge_b1
  have K19 := K17.wr W19 (Or.inr sz_b1)
  have N19 := Fr.snoc X19 N17 ge_b1
  obtain ⟨T20, X20, e20, st20⟩ := getS2 X19 hx hZ hown (host := "") (Or.inl (hw _ (List.mem_of_getElem? (i := 22) rfl))) Via.refl e19 (G.2.2.2.2.2.2.2.2.2.2.2.2.2.2.2.2.2.2.1.ext O19.2) (g := (mkF m 65 #[.val (.int p1), .unset, .unset, .unset, .unset, .unset, .unset] [(.int (9 : Int32)), (.ref b1), (.ref b1)])) rfl (hb hby at_65)
  obtain ⟨cl21, Ar21, qk21, Sz21, Nn21, Hs21, Gs21⟩ := id (V19)
  have hin21 : ¬ ((9 : Int32) < 0 ∨ cl21.slots.size ≤ ((9 : Int32)).toNatClampNeg) := inb_of Sz21 ⟨by decide, by decide⟩
  obtain ⟨T21, h21, X21, e21, W21, st21⟩ := stR X20 hx hZ e20 Ar21 (j := (9 : Int32)) hin21 rfl (Sto.ofV Ar21 qk21 Ov1 (Ins.self (G.2.2.2.2.2.2.2.2.2.2.2.2.2.2.2.2.2.2.2.1.ext O19.2))) (g := (mkF m 68 #[.val (.int p1), .unset, .unset, .unset, .unset, .unset, .unset] [(.ref wCW4), (.int (9 : Int32)), (.ref b1), (.ref b1)])) rfl rfl (hb hby at_68)
  have V21 := Arv.set Ar21 qk21 Sz21 Nn21 Hs21 Gs21 rfl W21 9 rfl (Nat.le_of_ble_eq_true rfl)
  have O21 := O19.wr W21 ge_b1
  have K21 := K19.wr W21 (Or.inr sz_b1)
  have N21 := Fr.snoc X21 N19 ge_b1
  obtain ⟨T22, X22, e22, st22⟩ := getS2 X21 hx hZ hown (host := "") (Or.inl (hw _ (List.mem_of_getElem? (i := 24) rfl))) Via.refl e21 (G.2.2.2.2.2.2.2.2.2.2.2.2.2.2.2.2.2.2.2.2.1.ext O21.2) (g := (mkF m 72 #[.val (.int p1), .unset, .unset, .unset, .unset, .unset, .unset] [(.int (10 : Int32)), (.ref b1), (.ref b1)])) rfl (hb hby at_72)
  obtain ⟨cl23, Ar23, qk23, Sz23, Nn23, Hs23, Gs23⟩ := id (V21)
  have hin23 : ¬ ((10 : Int32) < 0 ∨ cl23.slots.size ≤ ((10 : Int32)).toNatClampNeg) := inb_of Sz23 ⟨by decide, by decide⟩
  obtain ⟨T23, h23, X23, e23, W23, st23⟩ := stR X22 hx hZ e22 Ar23 (j := (10 : Int32)) hin23 rfl (Sto.ofV Ar23 qk23 Ov1 (Ins.self (G.2.2.2.2.2.2.2.2.2.2.2.2.2.2.2.2.2.2.2.2.2.1.ext O21.2))) (g := (mkF m 75 #[.val (.int p1), .unset, .unset, .unset, .unset, .unset, .unset] [(.ref wCW5), (.int (10 : Int32)), (.ref b1), (.ref b1)])) rfl rfl (hb hby at_75)
  have V23 := Arv.set Ar23 qk23 Sz23 Nn23 Hs23 Gs23 rfl W23 10 rfl (Nat.le_of_ble_eq_true rfl)
  have O23 := O21.wr W23 ge_b1
  have K23 := K21.wr W23 (Or.inr sz_b1)
  have N23 := Fr.snoc X23 N21 ge_b1
  obtain ⟨T24, X24, e24, st24⟩ := getS2 X23 hx hZ hown (host := "") (Or.inl (hw _ (List.mem_of_getElem? (i := 26) rfl))) Via.refl e23 (G.2.2.2.2.2.2.2.2.2.2.2.2.2.2.2.2.2.2.2.2.2.2.1.ext O23.2) (g := (mkF m 79 #[.val (.int p1), .unset, .unset, .unset, .unset, .unset, .unset] [(.int (11 : Int32)), (.ref b1), (.ref b1)])) rfl (hb hby at_79)
  obtain ⟨cl25, Ar25, qk25, Sz25, Nn25, Hs25, Gs25⟩ := id (V23)
  have hin25 : ¬ ((11 : Int32) < 0 ∨ cl25.slots.size ≤ ((11 : Int32)).toNatClampNeg) := inb_of Sz25 ⟨by decide, by decide⟩
  obtain ⟨T25, h25, X25, e25, W25, st25⟩ := stR X24 hx hZ e24 Ar25 (j := (11 : Int32)) hin25 rfl (Sto.ofV Ar25 qk25 Ov1 (Ins.self (G.2.2.2.2.2.2.2.2.2.2.2.2.2.2.2.2.2.2.2.2.2.2.2.1.ext O23.2))) (g := (mkF m 82 #[.val (.int p1), .unset, .unset, .unset, .unset, .unset, .unset] [(.ref wCW6), (.int (11 : Int32)), (.ref b1), (.ref b1)])) rfl rfl (hb hby at_82)
  have V25 := Arv.set Ar25 qk25 Sz25 Nn25 Hs25 Gs25 rfl W25 11 rfl (Nat.le_of_ble_eq_true rfl)
  have O25 := O23.wr W25 ge_b1
  have K25 := K23.wr W25 (Or.inr sz_b1)
  have N25 := Fr.snoc X25 N23 ge_b1
  obtain ⟨cl26, Ar26, qk26, Sz26, Nn26, Hs26, Gs26⟩ := id (V25)
  have hin27 : ¬ ((11 : Int32) < 0 ∨ cl26.slots.size ≤ ((11 : Int32)).toNatClampNeg) := inb_of Sz26 ⟨by decide, by decide⟩
  have hat27 : cl26.slots[((11 : Int32)).toNatClampNeg]? = some (.ref wCW6) := Hs26.at hin27 rfl
  obtain ⟨cq28, kq28, q28a, q28b, q28c⟩ := isOf hZ e25 (G.2.2.2.2.2.2.2.2.2.2.2.2.2.2.2.2.2.2.2.2.2.2.2.1.ext O25.2)
  obtain ⟨_, _, ⟨T28, L28, k28, n28⟩, -, X28, ⟨Lc28, hQ28, l28, y28, z28⟩, st28⟩ := X25.virtualBack hx (y := (⟨"com/example/credlib/credlib/engine/Rule", "statesCredential", "()Z"⟩ : MethodName)) (z := (⟨"com/example/credlib/credlib/engine/Rule", "statesCredential", "()Z"⟩ : MethodName)) hown (mvT hZ (hw _ (List.mem_of_getElem? (i := 29) rfl))) (mvT hZ (hw _ (List.mem_of_getElem? (i := 30) rfl))) (notFace_of_selects (args := #[]) (mvT hZ (hw _ (List.mem_of_getElem? (i := 32) rfl)))) (mvT hZ (hw _ (List.mem_of_getElem? (i := 32) rfl))) (mvT hZ (hw _ (List.mem_of_getElem? (i := 31) rfl))) (by decide) (backOf (W := 0) (own_statesCredential_23 l Z a0 hw [] wW1 wW2 wW3 wW4 wW5 wW6 wCW1 wCW2 wCW3 wCW4 wCW5 wCW6 G h25 n0 O25) hZ (hw _ (List.mem_of_getElem? (i := 33) rfl)) (hw _ (List.mem_of_getElem? (i := 3) rfl)) (by decide) (by decide)) q28a q28c (g := (mkF m 111 #[.val (.int p1), .val (.ref b1), .val (.int (11 : Int32)), .val (.ref wCW6), .val (.int (0 : Int32)), .unset, .unset] [(.ref wCW6)])) rfl (by rw [hml]; rfl) (Steps.refl _) (argsL := []) (rest := []) (lenOf own_pd_0 rfl) rfl (by show 2 * 0 + _ ≤ _; exact Nat.le_of_eq rfl) (hb hby at_111) (fun _ _ => ⟨rfl, e25, (by decide : 1 + 0 ≤ _), (by decide : 12 + 0 ≤ _)⟩)
  dsimp only [Pt.U, Pt.locs, Pt.cells, Pt.slots] at X28 l28 y28 z28 st28 hQ28
  subst l28 y28 z28
  obtain ⟨rfl, N28q, e28⟩ := hQ28
  have N28 := Fr.app N25 N28q
  obtain ⟨cq29, kq29, q29a, q29b, q29c⟩ := isOf hZ e28 (G.2.2.2.2.2.2.2.2.2.2.2.2.2.2.2.2.2.2.2.2.2.2.2.1.ext O25.2)
  obtain ⟨_, _, ⟨T29, L29, k29, n29⟩, -, X29, ⟨Lc29, hQ29, l29, y29, z29⟩, st29⟩ := X28.virtualBack hx (y := (⟨"com/example/credlib/credlib/engine/Rule", "atInstant", "()Lcom/example/credlib/credlib/engine/Rule;"⟩ : MethodName)) (z := (⟨"com/example/credlib/credlib/engine/Rule", "atInstant", "()Lcom/example/credlib/credlib/engine/Rule;"⟩ : MethodName)) hown (mvT hZ (hw _ (List.mem_of_getElem? (i := 35) rfl))) (mvT hZ (hw _ (List.mem_of_getElem? (i := 36) rfl))) (notFace_of_selects (args := #[]) (mvT hZ (hw _ (List.mem_of_getElem? (i := 38) rfl)))) (mvT hZ (hw _ (List.mem_of_getElem? (i := 38) rfl))) (mvT hZ (hw _ (List.mem_of_getElem? (i := 37) rfl))) (by decide) (backOf (W := 0) (own_atInstant_34 l Z a0 hw [] wW1 wW2 wW3 wW4 wW5 wW6 wCW1 wCW2 wCW3 wCW4 wCW5 wCW6 G h25 n0 O25) hZ (hw _ (List.mem_of_getElem? (i := 39) rfl)) (hw _ (List.mem_of_getElem? (i := 3) rfl)) (by decide) (by decide)) q29a q29c (g := (mkF m 117 #[.val (.int p1), .val (.ref b1), .val (.int (11 : Int32)), .val (.ref wCW6), .val (.int (0 : Int32)), .val (.int (0 : Int32)), .unset] [(.ref wCW6)])) rfl (by rw [hml]; rfl) (Steps.refl _) (argsL := []) (rest := []) (lenOf own_pd_2 rfl) rfl (by show 2 * 0 + _ ≤ _; exact Nat.le_of_eq rfl) (hb hby at_117) (fun _ _ => ⟨rfl, e28, (by decide : 1 + 0 ≤ _), (by decide : 12 + 0 ≤ _)⟩)
  dsimp only [Pt.U, Pt.locs, Pt.cells, Pt.slots] at X29 l29 y29 z29 st29 hQ29
  subst l29 y29 z29
  obtain ⟨rfl, N29q, e29⟩ := hQ29
  have N29 := Fr.app N28 N29q
  obtain ⟨cq30, kq30, q30a, q30b, q30c⟩ := isOf hZ e29 (G.2.2.2.2.2.2.2.2.2.2.2.2.2.2.2.2.2.2.2.2.2.2.2.1.ext O25.2)
  obtain ⟨_, _, ⟨T30, L30, k30, n30⟩, -, X30, ⟨Lc30, hQ30, l30, y30, z30⟩, st30⟩ := X29.virtualBack hx (y := (⟨"com/example/credlib/credlib/engine/Rule", "statesCredential", "()Z"⟩ : MethodName)) (z := (⟨"com/example/credlib/credlib/engine/Rule", "statesCredential", "()Z"⟩ : MethodName)) hown (mvT hZ (hw _ (List.mem_of_getElem? (i := 29) rfl))) (mvT hZ (hw _ (List.mem_of_getElem? (i := 30) rfl))) (notFace_of_selects (args := #[]) (mvT hZ (hw _ (List.mem_of_getElem? (i := 32) rfl)))) (mvT hZ (hw _ (List.mem_of_getElem? (i := 32) rfl))) (mvT hZ (hw _ (List.mem_of_getElem? (i := 31) rfl))) (by decide) (backOf (W := 0) (own_statesCredential_23 l Z a0 hw [] wW1 wW2 wW3 wW4 wW5 wW6 wCW1 wCW2 wCW3 wCW4 wCW5 wCW6 G h25 n0 O25) hZ (hw _ (List.mem_of_getElem? (i := 33) rfl)) (hw _ (List.mem_of_getElem? (i := 3) rfl)) (by decide) (by decide)) q30a q30c (g := (mkF m 120 #[.val (.int p1), .val (.ref b1), .val (.int (11 : Int32)), .val (.ref wCW6), .val (.int (0 : Int32)), .val (.int (0 : Int32)), .unset] [(.ref wCW6)])) rfl (by rw [hml]; rfl) (Steps.refl _) (argsL := []) (rest := []) (lenOf own_pd_0 rfl) rfl (by show 2 * 0 + _ ≤ _; exact Nat.le_of_eq rfl) (hb hby at_120) (fun _ _ => ⟨rfl, e29, (by decide : 1 + 0 ≤ _), (by decide : 12 + 0 ≤ _)⟩)
  dsimp only [Pt.U, Pt.locs, Pt.cells, Pt.slots] at X30 l30 y30 z30 st30 hQ30
  subst l30 y30 z30
  obtain ⟨rfl, N30q, e30⟩ := hQ30
  have N30 := Fr.app N29 N30q
  obtain ⟨fs, hr, hrun, hended, hW, hsame⟩ := X30.leave (v := some (.int (1 : Int32))) (fun h => by rw [Bd.returns] at h; cases h)
  refine ⟨_, _, pre0 _ ?_, hrun, hended, _, _, rfl, ?_, ⟨_, rfl⟩, hW, hsame.mono (by decide) (by decide)⟩
  · show Steps p.tables e below (s₁.setTop (mkF m 0 #[.val (.int p1), .unset, .unset, .unset, .unset, .unset, .unset] [])) _
    refine XS.bipush X0.here hx rfl (hb hby at_0) ?_
    show Steps p.tables e below (s₁.setTop (mkF m 2 #[.val (.int p1), .unset, .unset, .unset, .unset, .unset, .unset] [(.int (12 : Int32))])) _
    refine st1 _ ?_
    show Steps p.tables e below (T1.setTop (mkF m 5 #[.val (.int p1), .unset, .unset, .unset, .unset, .unset, .unset] [(.ref b1)])) _
    refine XS.dup X1.here hx rfl (hb hby at_5) rfl rfl ?_
    show Steps p.tables e below (T1.setTop (mkF m 6 #[.val (.int p1), .unset, .unset, .unset, .unset, .unset, .unset] [(.ref b1), (.ref b1)])) _
    refine XS.iconst X1.here hx rfl (hb hby at_6) ?_
    show Steps p.tables e below (T1.setTop (mkF m 7 #[.val (.int p1), .unset, .unset, .unset, .unset, .unset, .unset] [(.int (0 : Int32)), (.ref b1), (.ref b1)])) _
    refine st2 _ ?_
    show Steps p.tables e below (T2.setTop (mkF m 10 #[.val (.int p1), .unset, .unset, .unset, .unset, .unset, .unset] [(.ref wW1), (.int (0 : Int32)), (.ref b1), (.ref b1)])) _
    refine st3 _ ?_
    show Steps p.tables e below (T3.setTop (mkF m 11 #[.val (.int p1), .unset, .unset, .unset, .unset, .unset, .unset] [(.ref b1)])) _
    refine XS.dup X3.here hx rfl (hb hby at_11) rfl rfl ?_
    show Steps p.tables e below (T3.setTop (mkF m 12 #[.val (.int p1), .unset, .unset, .unset, .unset, .unset, .unset] [(.ref b1), (.ref b1)])) _
    refine XS.iconst X3.here hx rfl (hb hby at_12) ?_
    show Steps p.tables e below (T3.setTop (mkF m 13 #[.val (.int p1), .unset, .unset, .unset, .unset, .unset, .unset] [(.int (1 : Int32)), (.ref b1), (.ref b1)])) _
    refine st4 _ ?_
    show Steps p.tables e below (T4.setTop (mkF m 16 #[.val (.int p1), .unset, .unset, .unset, .unset, .unset, .unset] [(.ref wW2), (.int (1 : Int32)), (.ref b1), (.ref b1)])) _
    refine st5 _ ?_
    show Steps p.tables e below (T5.setTop (mkF m 17 #[.val (.int p1), .unset, .unset, .unset, .unset, .unset, .unset] [(.ref b1)])) _
    refine XS.dup X5.here hx rfl (hb hby at_17) rfl rfl ?_
    show Steps p.tables e below (T5.setTop (mkF m 18 #[.val (.int p1), .unset, .unset, .unset, .unset, .unset, .unset] [(.ref b1), (.ref b1)])) _
    refine XS.iconst X5.here hx rfl (hb hby at_18) ?_
    show Steps p.tables e below (T5.setTop (mkF m 19 #[.val (.int p1), .unset, .unset, .unset, .unset, .unset, .unset] [(.int (2 : Int32)), (.ref b1), (.ref b1)])) _
    refine st6 _ ?_
    show Steps p.tables e below (T6.setTop (mkF m 22 #[.val (.int p1), .unset, .unset, .unset, .unset, .unset, .unset] [(.ref wW3), (.int (2 : Int32)), (.ref b1), (.ref b1)])) _
    refine st7 _ ?_
    show Steps p.tables e below (T7.setTop (mkF m 23 #[.val (.int p1), .unset, .unset, .unset, .unset, .unset, .unset] [(.ref b1)])) _
    refine XS.dup X7.here hx rfl (hb hby at_23) rfl rfl ?_
    show Steps p.tables e below (T7.setTop (mkF m 24 #[.val (.int p1), .unset, .unset, .unset, .unset, .unset, .unset] [(.ref b1), (.ref b1)])) _
    refine XS.iconst X7.here hx rfl (hb hby at_24) ?_
    show Steps p.tables e below (T7.setTop (mkF m 25 #[.val (.int p1), .unset, .unset, .unset, .unset, .unset, .unset] [(.int (3 : Int32)), (.ref b1), (.ref b1)])) _
    refine st8 _ ?_
    show Steps p.tables e below (T8.setTop (mkF m 28 #[.val (.int p1), .unset, .unset, .unset, .unset, .unset, .unset] [(.ref wW4), (.int (3 : Int32)), (.ref b1), (.ref b1)])) _
    refine st9 _ ?_
    show Steps p.tables e below (T9.setTop (mkF m 29 #[.val (.int p1), .unset, .unset, .unset, .unset, .unset, .unset] [(.ref b1)])) _
    refine XS.dup X9.here hx rfl (hb hby at_29) rfl rfl ?_
    show Steps p.tables e below (T9.setTop (mkF m 30 #[.val (.int p1), .unset, .unset, .unset, .unset, .unset, .unset] [(.ref b1), (.ref b1)])) _
    refine XS.iconst X9.here hx rfl (hb hby at_30) ?_
    show Steps p.tables e below (T9.setTop (mkF m 31 #[.val (.int p1), .unset, .unset, .unset, .unset, .unset, .unset] [(.int (4 : Int32)), (.ref b1), (.ref b1)])) _
    refine st10 _ ?_
    show Steps p.tables e below (T10.setTop (mkF m 34 #[.val (.int p1), .unset, .unset, .unset, .unset, .unset, .unset] [(.ref wW5), (.int (4 : Int32)), (.ref b1), (.ref b1)])) _
    refine st11 _ ?_
    show Steps p.tables e below (T11.setTop (mkF m 35 #[.val (.int p1), .unset, .unset, .unset, .unset, .unset, .unset] [(.ref b1)])) _
    refine XS.dup X11.here hx rfl (hb hby at_35) rfl rfl ?_
    show Steps p.tables e below (T11.setTop (mkF m 36 #[.val (.int p1), .unset, .unset, .unset, .unset, .unset, .unset] [(.ref b1), (.ref b1)])) _
    refine XS.iconst X11.here hx rfl (hb hby at_36) ?_
    show Steps p.tables e below (T11.setTop (mkF m 37 #[.val (.int p1), .unset, .unset, .unset, .unset, .unset, .unset] [(.int (5 : Int32)), (.ref b1), (.ref b1)])) _
    refine st12 _ ?_
    show Steps p.tables e below (T12.setTop (mkF m 40 #[.val (.int p1), .unset, .unset, .unset, .unset, .unset, .unset] [(.ref wW6), (.int (5 : Int32)), (.ref b1), (.ref b1)])) _
    refine st13 _ ?_
    show Steps p.tables e below (T13.setTop (mkF m 41 #[.val (.int p1), .unset, .unset, .unset, .unset, .unset, .unset] [(.ref b1)])) _
    refine XS.dup X13.here hx rfl (hb hby at_41) rfl rfl ?_
    show Steps p.tables e below (T13.setTop (mkF m 42 #[.val (.int p1), .unset, .unset, .unset, .unset, .unset, .unset] [(.ref b1), (.ref b1)])) _
    refine XS.bipush X13.here hx rfl (hb hby at_42) ?_
    show Steps p.tables e below (T13.setTop (mkF m 44 #[.val (.int p1), .unset, .unset, .unset, .unset, .unset, .unset] [(.int (6 : Int32)), (.ref b1), (.ref b1)])) _
    refine st14 _ ?_
    show Steps p.tables e below (T14.setTop (mkF m 47 #[.val (.int p1), .unset, .unset, .unset, .unset, .unset, .unset] [(.ref wCW1), (.int (6 : Int32)), (.ref b1), (.ref b1)])) _
    refine st15 _ ?_
    show Steps p.tables e below (T15.setTop (mkF m 48 #[.val (.int p1), .unset, .unset, .unset, .unset, .unset, .unset] [(.ref b1)])) _
    refine XS.dup X15.here hx rfl (hb hby at_48) rfl rfl ?_
    show Steps p.tables e below (T15.setTop (mkF m 49 #[.val (.int p1), .unset, .unset, .unset, .unset, .unset, .unset] [(.ref b1), (.ref b1)])) _
    refine XS.bipush X15.here hx rfl (hb hby at_49) ?_
    show Steps p.tables e below (T15.setTop (mkF m 51 #[.val (.int p1), .unset, .unset, .unset, .unset, .unset, .unset] [(.int (7 : Int32)), (.ref b1), (.ref b1)])) _
    refine st16 _ ?_
    show Steps p.tables e below (T16.setTop (mkF m 54 #[.val (.int p1), .unset, .unset, .unset, .unset, .unset, .unset] [(.ref wCW2), (.int (7 : Int32)), (.ref b1), (.ref b1)])) _
    refine st17 _ ?_
    show Steps p.tables e below (T17.setTop (mkF m 55 #[.val (.int p1), .unset, .unset, .unset, .unset, .unset, .unset] [(.ref b1)])) _
    refine XS.dup X17.here hx rfl (hb hby at_55) rfl rfl ?_
    show Steps p.tables e below (T17.setTop (mkF m 56 #[.val (.int p1), .unset, .unset, .unset, .unset, .unset, .unset] [(.ref b1), (.ref b1)])) _
    refine XS.bipush X17.here hx rfl (hb hby at_56) ?_
    show Steps p.tables e below (T17.setTop (mkF m 58 #[.val (.int p1), .unset, .unset, .unset, .unset, .unset, .unset] [(.int (8 : Int32)), (.ref b1), (.ref b1)])) _
    refine st18 _ ?_
    show Steps p.tables e below (T18.setTop (mkF m 61 #[.val (.int p1), .unset, .unset, .unset, .unset, .unset, .unset] [(.ref wCW3), (.int (8 : Int32)), (.ref b1), (.ref b1)])) _
    refine st19 _ ?_
    show Steps p.tables e below (T19.setTop (mkF m 62 #[.val (.int p1), .unset, .unset, .unset, .unset, .unset, .unset] [(.ref b1)])) _
    refine XS.dup X19.here hx rfl (hb hby at_62) rfl rfl ?_
    show Steps p.tables e below (T19.setTop (mkF m 63 #[.val (.int p1), .unset, .unset, .unset, .unset, .unset, .unset] [(.ref b1), (.ref b1)])) _
    refine XS.bipush X19.here hx rfl (hb hby at_63) ?_
    show Steps p.tables e below (T19.setTop (mkF m 65 #[.val (.int p1), .unset, .unset, .unset, .unset, .unset, .unset] [(.int (9 : Int32)), (.ref b1), (.ref b1)])) _
    refine st20 _ ?_
    show Steps p.tables e below (T20.setTop (mkF m 68 #[.val (.int p1), .unset, .unset, .unset, .unset, .unset, .unset] [(.ref wCW4), (.int (9 : Int32)), (.ref b1), (.ref b1)])) _
    refine st21 _ ?_
    show Steps p.tables e below (T21.setTop (mkF m 69 #[.val (.int p1), .unset, .unset, .unset, .unset, .unset, .unset] [(.ref b1)])) _
    refine XS.dup X21.here hx rfl (hb hby at_69) rfl rfl ?_
    show Steps p.tables e below (T21.setTop (mkF m 70 #[.val (.int p1), .unset, .unset, .unset, .unset, .unset, .unset] [(.ref b1), (.ref b1)])) _
    refine XS.bipush X21.here hx rfl (hb hby at_70) ?_
    show Steps p.tables e below (T21.setTop (mkF m 72 #[.val (.int p1), .unset, .unset, .unset, .unset, .unset, .unset] [(.int (10 : Int32)), (.ref b1), (.ref b1)])) _
    refine st22 _ ?_
    show Steps p.tables e below (T22.setTop (mkF m 75 #[.val (.int p1), .unset, .unset, .unset, .unset, .unset, .unset] [(.ref wCW5), (.int (10 : Int32)), (.ref b1), (.ref b1)])) _
    refine st23 _ ?_
    show Steps p.tables e below (T23.setTop (mkF m 76 #[.val (.int p1), .unset, .unset, .unset, .unset, .unset, .unset] [(.ref b1)])) _
    refine XS.dup X23.here hx rfl (hb hby at_76) rfl rfl ?_
    show Steps p.tables e below (T23.setTop (mkF m 77 #[.val (.int p1), .unset, .unset, .unset, .unset, .unset, .unset] [(.ref b1), (.ref b1)])) _
    refine XS.bipush X23.here hx rfl (hb hby at_77) ?_
    show Steps p.tables e below (T23.setTop (mkF m 79 #[.val (.int p1), .unset, .unset, .unset, .unset, .unset, .unset] [(.int (11 : Int32)), (.ref b1), (.ref b1)])) _
    refine st24 _ ?_
    show Steps p.tables e below (T24.setTop (mkF m 82 #[.val (.int p1), .unset, .unset, .unset, .unset, .unset, .unset] [(.ref wCW6), (.int (11 : Int32)), (.ref b1), (.ref b1)])) _
    refine st25 _ ?_
    show Steps p.tables e below (T25.setTop (mkF m 83 #[.val (.int p1), .unset, .unset, .unset, .unset, .unset, .unset] [(.ref b1)])) _
    refine XS.astoreN X25.here hx rfl (hb hby at_83) rfl rfl (l' := #[.val (.int p1), .val (.ref b1), .unset, .unset, .unset, .unset, .unset]) rfl ?_
    show Steps p.tables e below (T25.setTop (mkF m 84 #[.val (.int p1), .val (.ref b1), .unset, .unset, .unset, .unset, .unset] [])) _
    refine XS.iloadN X25.here hx rfl (hb hby at_84) rfl ?_
    show Steps p.tables e below (T25.setTop (mkF m 85 #[.val (.int p1), .val (.ref b1), .unset, .unset, .unset, .unset, .unset] [(.int p1)])) _
    refine Jvm.Stand.ldcI X25 hx hown (mvT hZ (hw _ (List.mem_of_getElem? (i := 28) rfl))) rfl (hb hby at_85) ?_
    show Steps p.tables e below (T25.setTop (mkF m 87 #[.val (.int p1), .val (.ref b1), .unset, .unset, .unset, .unset, .unset] [(.int (2147483647 : Int32)), (.int p1)])) _
    refine XS.iand X25.here hx rfl (hb hby at_87) rfl ?_
    show Steps p.tables e below (T25.setTop (mkF m 88 #[.val (.int p1), .val (.ref b1), .unset, .unset, .unset, .unset, .unset] [(.int (p1 &&& (2147483647 : Int32)))])) _
    refine XS.bipush X25.here hx rfl (hb hby at_88) ?_
    show Steps p.tables e below (T25.setTop (mkF m 90 #[.val (.int p1), .val (.ref b1), .unset, .unset, .unset, .unset, .unset] [(.int (12 : Int32)), (.int (p1 &&& (2147483647 : Int32)))])) _
    refine iremM X25 hx rfl (hb hby at_90) rfl (by decide) ?_
    show Steps p.tables e below (T25.setTop (mkF m 91 #[.val (.int p1), .val (.ref b1), .unset, .unset, .unset, .unset, .unset] [(.int ((p1 &&& (2147483647 : Int32)) % (12 : Int32)))])) _
    refine castTop (g' := (mkF m 91 #[.val (.int p1), .val (.ref b1), .unset, .unset, .unset, .unset, .unset] [(.int (11 : Int32))])) (by rw [hi]) ?_
    show Steps p.tables e below (T25.setTop (mkF m 91 #[.val (.int p1), .val (.ref b1), .unset, .unset, .unset, .unset, .unset] [(.int (11 : Int32))])) _
    refine XS.istoreN X25.here hx rfl (hb hby at_91) rfl (l' := #[.val (.int p1), .val (.ref b1), .val (.int (11 : Int32)), .unset, .unset, .unset, .unset]) rfl ?_
    show Steps p.tables e below (T25.setTop (mkF m 92 #[.val (.int p1), .val (.ref b1), .val (.int (11 : Int32)), .unset, .unset, .unset, .unset] [])) _
    refine XS.aloadN X25.here hx rfl (hb hby at_92) rfl rfl ?_
    show Steps p.tables e below (T25.setTop (mkF m 93 #[.val (.int p1), .val (.ref b1), .val (.int (11 : Int32)), .unset, .unset, .unset, .unset] [(.ref b1)])) _
    refine XS.iloadN X25.here hx rfl (hb hby at_93) rfl ?_
    show Steps p.tables e below (T25.setTop (mkF m 94 #[.val (.int p1), .val (.ref b1), .val (.int (11 : Int32)), .unset, .unset, .unset, .unset] [(.int (11 : Int32)), (.ref b1)])) _
    refine X25.aaload hx (j := (11 : Int32)) (v := (.ref wCW6)) (by rw [e25]; exact Ar26.1) (State.isArrayOf_alike hZ.alike Ar26.2.1) rfl Ar26.2.2 hin27 hat27 (g := (mkF m 94 #[.val (.int p1), .val (.ref b1), .val (.int (11 : Int32)), .unset, .unset, .unset, .unset] [(.int (11 : Int32)), (.ref b1)])) rfl rfl (hb hby at_94) _ ?_
    show Steps p.tables e below (T25.setTop (mkF m 95 #[.val (.int p1), .val (.ref b1), .val (.int (11 : Int32)), .unset, .unset, .unset, .unset] [(.ref wCW6)])) _
    refine XS.astoreN X25.here hx rfl (hb hby at_95) rfl rfl (l' := #[.val (.int p1), .val (.ref b1), .val (.int (11 : Int32)), .val (.ref wCW6), .unset, .unset, .unset]) rfl ?_
    show Steps p.tables e below (T25.setTop (mkF m 96 #[.val (.int p1), .val (.ref b1), .val (.int (11 : Int32)), .val (.ref wCW6), .unset, .unset, .unset] [])) _
    refine XS.iloadN X25.here hx rfl (hb hby at_96) rfl ?_
    show Steps p.tables e below (T25.setTop (mkF m 97 #[.val (.int p1), .val (.ref b1), .val (.int (11 : Int32)), .val (.ref wCW6), .unset, .unset, .unset] [(.int (11 : Int32))])) _
    refine XS.bipush X25.here hx rfl (hb hby at_97) ?_
    show Steps p.tables e below (T25.setTop (mkF m 99 #[.val (.int p1), .val (.ref b1), .val (.int (11 : Int32)), .val (.ref wCW6), .unset, .unset, .unset] [(.int (6 : Int32)), (.int (11 : Int32))])) _
    refine iremM X25 hx rfl (hb hby at_99) rfl (by decide) ?_
    show Steps p.tables e below (T25.setTop (mkF m 100 #[.val (.int p1), .val (.ref b1), .val (.int (11 : Int32)), .val (.ref wCW6), .unset, .unset, .unset] [(.int ((11 : Int32) % (6 : Int32)))])) _
    refine castTop (g' := (mkF m 100 #[.val (.int p1), .val (.ref b1), .val (.int (11 : Int32)), .val (.ref wCW6), .unset, .unset, .unset] [(.int (5 : Int32))])) (by rw [show ((11 : Int32) % (6 : Int32)) = (5 : Int32) from by decide]) ?_
    show Steps p.tables e below (T25.setTop (mkF m 100 #[.val (.int p1), .val (.ref b1), .val (.int (11 : Int32)), .val (.ref wCW6), .unset, .unset, .unset] [(.int (5 : Int32))])) _
    refine XS.ifYes X25.here hx rfl (pc0 := 100) (pc' := 107) rfl (hb hby at_100) rfl (by decide) (by decide) (by decide) ?_
    show Steps p.tables e below (T25.setTop (mkF m 107 #[.val (.int p1), .val (.ref b1), .val (.int (11 : Int32)), .val (.ref wCW6), .unset, .unset, .unset] [])) _
    refine XS.iconst X25.here hx rfl (hb hby at_107) ?_
    show Steps p.tables e below (T25.setTop (mkF m 108 #[.val (.int p1), .val (.ref b1), .val (.int (11 : Int32)), .val (.ref wCW6), .unset, .unset, .unset] [(.int (0 : Int32))])) _
    refine XS.istore X25.here hx rfl (hb hby at_108) rfl (l' := #[.val (.int p1), .val (.ref b1), .val (.int (11 : Int32)), .val (.ref wCW6), .val (.int (0 : Int32)), .unset, .unset]) rfl ?_
    show Steps p.tables e below (T25.setTop (mkF m 110 #[.val (.int p1), .val (.ref b1), .val (.int (11 : Int32)), .val (.ref wCW6), .val (.int (0 : Int32)), .unset, .unset] [])) _
    refine XS.aloadN X25.here hx rfl (hb hby at_110) rfl rfl ?_
    show Steps p.tables e below (T25.setTop (mkF m 111 #[.val (.int p1), .val (.ref b1), .val (.int (11 : Int32)), .val (.ref wCW6), .val (.int (0 : Int32)), .unset, .unset] [(.ref wCW6)])) _
    refine st28.trans ?_
    show Steps p.tables e below (T28.setTop (mkF m 114 #[.val (.int p1), .val (.ref b1), .val (.int (11 : Int32)), .val (.ref wCW6), .val (.int (0 : Int32)), .unset, .unset] [(.int (0 : Int32))])) _
    refine XS.istore X28.here hx rfl (hb hby at_114) rfl (l' := #[.val (.int p1), .val (.ref b1), .val (.int (11 : Int32)), .val (.ref wCW6), .val (.int (0 : Int32)), .val (.int (0 : Int32)), .unset]) rfl ?_
    show Steps p.tables e below (T28.setTop (mkF m 116 #[.val (.int p1), .val (.ref b1), .val (.int (11 : Int32)), .val (.ref wCW6), .val (.int (0 : Int32)), .val (.int (0 : Int32)), .unset] [])) _
    refine XS.aloadN X28.here hx rfl (hb hby at_116) rfl rfl ?_
    show Steps p.tables e below (T28.setTop (mkF m 117 #[.val (.int p1), .val (.ref b1), .val (.int (11 : Int32)), .val (.ref wCW6), .val (.int (0 : Int32)), .val (.int (0 : Int32)), .unset] [(.ref wCW6)])) _
    refine st29.trans ?_
    show Steps p.tables e below (T29.setTop (mkF m 120 #[.val (.int p1), .val (.ref b1), .val (.int (11 : Int32)), .val (.ref wCW6), .val (.int (0 : Int32)), .val (.int (0 : Int32)), .unset] [(.ref wCW6)])) _
    refine st30.trans ?_
    show Steps p.tables e below (T30.setTop (mkF m 123 #[.val (.int p1), .val (.ref b1), .val (.int (11 : Int32)), .val (.ref wCW6), .val (.int (0 : Int32)), .val (.int (0 : Int32)), .unset] [(.int (0 : Int32))])) _
    refine XS.istore X30.here hx rfl (hb hby at_123) rfl (l' := #[.val (.int p1), .val (.ref b1), .val (.int (11 : Int32)), .val (.ref wCW6), .val (.int (0 : Int32)), .val (.int (0 : Int32)), .val (.int (0 : Int32))]) rfl ?_
    show Steps p.tables e below (T30.setTop (mkF m 125 #[.val (.int p1), .val (.ref b1), .val (.int (11 : Int32)), .val (.ref wCW6), .val (.int (0 : Int32)), .val (.int (0 : Int32)), .val (.int (0 : Int32))] [])) _
    refine XS.iload X30.here hx rfl (hb hby at_125) rfl ?_
    show Steps p.tables e below (T30.setTop (mkF m 127 #[.val (.int p1), .val (.ref b1), .val (.int (11 : Int32)), .val (.ref wCW6), .val (.int (0 : Int32)), .val (.int (0 : Int32)), .val (.int (0 : Int32))] [(.int (0 : Int32))])) _
    refine XS.iload X30.here hx rfl (hb hby at_127) rfl ?_
    show Steps p.tables e below (T30.setTop (mkF m 129 #[.val (.int p1), .val (.ref b1), .val (.int (11 : Int32)), .val (.ref wCW6), .val (.int (0 : Int32)), .val (.int (0 : Int32)), .val (.int (0 : Int32))] [(.int (0 : Int32)), (.int (0 : Int32))])) _
    refine XS.icmpNo X30.here hx rfl (hb hby at_129) rfl (by decide) ?_
    show Steps p.tables e below (T30.setTop (mkF m 132 #[.val (.int p1), .val (.ref b1), .val (.int (11 : Int32)), .val (.ref wCW6), .val (.int (0 : Int32)), .val (.int (0 : Int32)), .val (.int (0 : Int32))] [])) _
    refine XS.iload X30.here hx rfl (hb hby at_132) rfl ?_
    show Steps p.tables e below (T30.setTop (mkF m 134 #[.val (.int p1), .val (.ref b1), .val (.int (11 : Int32)), .val (.ref wCW6), .val (.int (0 : Int32)), .val (.int (0 : Int32)), .val (.int (0 : Int32))] [(.int (0 : Int32))])) _
    refine XS.iload X30.here hx rfl (hb hby at_134) rfl ?_
    show Steps p.tables e below (T30.setTop (mkF m 136 #[.val (.int p1), .val (.ref b1), .val (.int (11 : Int32)), .val (.ref wCW6), .val (.int (0 : Int32)), .val (.int (0 : Int32)), .val (.int (0 : Int32))] [(.int (0 : Int32)), (.int (0 : Int32))])) _
    refine XS.icmpNo X30.here hx rfl (hb hby at_136) rfl (by decide) ?_
    show Steps p.tables e below (T30.setTop (mkF m 139 #[.val (.int p1), .val (.ref b1), .val (.int (11 : Int32)), .val (.ref wCW6), .val (.int (0 : Int32)), .val (.int (0 : Int32)), .val (.int (0 : Int32))] [])) _
    refine XS.iconst X30.here hx rfl (hb hby at_139) ?_
    show Steps p.tables e below (T30.setTop (mkF m 140 #[.val (.int p1), .val (.ref b1), .val (.int (11 : Int32)), .val (.ref wCW6), .val (.int (0 : Int32)), .val (.int (0 : Int32)), .val (.int (0 : Int32))] [(.int (1 : Int32))])) _
    refine XS.goto X30.here hx rfl (pc0 := 140) (pc' := 144) rfl (hb hby at_140) (by decide) (by decide) ?_
    show Steps p.tables e below (T30.setTop (mkF m 144 #[.val (.int p1), .val (.ref b1), .val (.int (11 : Int32)), .val (.ref wCW6), .val (.int (0 : Int32)), .val (.int (0 : Int32)), .val (.int (0 : Int32))] [(.int (1 : Int32))])) _
    exact retN X30 hx (t := .boolean) Bd.returns (by simp) (hb hby at_144) hr
  · exact ⟨rfl, N30⟩
theorem own_mod12 (x : Int32) : ∃ k : Fin 12, (x &&& (2147483647 : Int32)) % (12 : Int32) = Int32.ofInt (k.1 : Int) := by
  have h1 := c_and x 2147483647 (by decide)
  have h2 := (c_iremV (x &&& (2147483647 : Int32)) 12).1 h1.1 (by decide)
  have e3 : (12 : Int32).toInt = 12 := by decide
  refine ⟨⟨((x &&& (2147483647 : Int32)) % (12 : Int32)).toInt.toNat, by omega⟩, ?_⟩
  show _ = Int32.ofInt ((((x &&& (2147483647 : Int32)) % (12 : Int32)).toInt.toNat : Nat) : Int)
  rw [Int.toNat_of_nonneg h2.1, Int32.ofInt_toInt]
theorem own_law (l : Launch) (Z : State) (a0 : Array Value) (hw : ∀ d ∈ tables_1, d.before a0 Z = true) (ws : List Jvm.Cond) (wW1 : Addr) (wW2 : Addr) (wW3 : Addr) (wW4 : Addr) (wW5 : Addr) (wW6 : Addr) (wCW1 : Addr) (wCW2 : Addr) (wCW3 : Addr) (wCW4 : Addr) (wCW5 : Addr) (wCW6 : Addr) (G : OwnG Z wW1 wW2 wW3 wW4 wW5 wW6 wCW1 wCW2 wCW3 wCW4 wCW5 wCW6) (h0 : Heap) (n0 : Nat) (O0 : Old Z n0 h0) (p1 : Int32) :
    MetFree l x (head1 (Jvm.Cond.code x code maxLocals ret :: ws) room_1) (fun a U => a = #[(.int p1)] ∧ Z.Warmed39 U.vm ∧ U.heap = h0) (fun _ _ _ _ _ => True) (fun _ U o U' => ∃ v L, o = .returned v ∧ (v = some (.int 1) ∧ Fr n0 L) ∧ FrameEnd U o U' L room_1.cells room_1.slots) := by
  obtain ⟨k, h⟩ := own_mod12 p1
  match k, h with
  | 0, h => exact own_law_0 l Z a0 hw ws wW1 wW2 wW3 wW4 wW5 wW6 wCW1 wCW2 wCW3 wCW4 wCW5 wCW6 G h0 n0 O0 p1 h
  | 1, h => exact own_law_1 l Z a0 hw ws wW1 wW2 wW3 wW4 wW5 wW6 wCW1 wCW2 wCW3 wCW4 wCW5 wCW6 G h0 n0 O0 p1 h
  | 2, h => exact own_law_2 l Z a0 hw ws wW1 wW2 wW3 wW4 wW5 wW6 wCW1 wCW2 wCW3 wCW4 wCW5 wCW6 G h0 n0 O0 p1 h
  | 3, h => exact own_law_3 l Z a0 hw ws wW1 wW2 wW3 wW4 wW5 wW6 wCW1 wCW2 wCW3 wCW4 wCW5 wCW6 G h0 n0 O0 p1 h
  | 4, h => exact own_law_4 l Z a0 hw ws wW1 wW2 wW3 wW4 wW5 wW6 wCW1 wCW2 wCW3 wCW4 wCW5 wCW6 G h0 n0 O0 p1 h
  | 5, h => exact own_law_5 l Z a0 hw ws wW1 wW2 wW3 wW4 wW5 wW6 wCW1 wCW2 wCW3 wCW4 wCW5 wCW6 G h0 n0 O0 p1 h
  | 6, h => exact own_law_6 l Z a0 hw ws wW1 wW2 wW3 wW4 wW5 wW6 wCW1 wCW2 wCW3 wCW4 wCW5 wCW6 G h0 n0 O0 p1 h
  | 7, h => exact own_law_7 l Z a0 hw ws wW1 wW2 wW3 wW4 wW5 wW6 wCW1 wCW2 wCW3 wCW4 wCW5 wCW6 G h0 n0 O0 p1 h
  | 8, h => exact own_law_8 l Z a0 hw ws wW1 wW2 wW3 wW4 wW5 wW6 wCW1 wCW2 wCW3 wCW4 wCW5 wCW6 G h0 n0 O0 p1 h
  | 9, h => exact own_law_9 l Z a0 hw ws wW1 wW2 wW3 wW4 wW5 wW6 wCW1 wCW2 wCW3 wCW4 wCW5 wCW6 G h0 n0 O0 p1 h
  | 10, h => exact own_law_10 l Z a0 hw ws wW1 wW2 wW3 wW4 wW5 wW6 wCW1 wCW2 wCW3 wCW4 wCW5 wCW6 G h0 n0 O0 p1 h
  | 11, h => exact own_law_11 l Z a0 hw ws wW1 wW2 wW3 wW4 wW5 wW6 wCW1 wCW2 wCW3 wCW4 wCW5 wCW6 G h0 n0 O0 p1 h
set_option maxRecDepth 65536 in
set_option maxHeartbeats 40000000 in
theorem comes_1 {Post : Tables → Env → Array Value → State → Outcome → State → Prop} (hpost : ∀ tb e args s v u, (limb_1_1.after args s (.returned v) u = true ∧ limb_1_2.after args s (.returned v) u = true ∧ True) → FrameEnd s (.returned v) u (Jvm.fieldLocs frame_1_writes args s ++ Jvm.arrayLocs frame_1_arrays args s ++ Jvm.staticLocs frame_1_statics s) 16 128 → Post tb e args s (.returned v) u) :
    ArmFor flags0 classFile x code maxLocals ret World_1 tables_1 room_1 Calls_1 rest_1 Pre_1 Post := by
  intro l hfl _ _ p e ha hc hk s m args below hf hA hF happ hP
  obtain ⟨hcalls, hrest, hpre⟩ := hP
  obtain ⟨-, -, -, hnamed, -, -, -, hat⟩ := (Spec.applies_iff hf).mp happ
  obtain ⟨hg, hn⟩ := and_e (Cond.before_iff.mp (show (Jvm.Cond.and given_1 narrow_1).before args s = true from hpre))
  obtain ⟨hgv0, hgm0⟩ := and_e hg
  have hgv1 := hgm0
  obtain ⟨w0, rfl⟩ : ∃ w0 : Value, args = #[w0] := by
    have hs : args.size = 1 := by simpa [Cond.value, given_1] using hgv0
    obtain ⟨L⟩ := args
    match L, hs with
    | [w0], _ => exact ⟨w0, rfl⟩
  have hw := fun d (hd : d ∈ tables_1) => atoms_spec (ws := Jvm.Cond.code x code maxLocals ret :: tables_1) hat d (List.mem_cons_of_mem _ hd)
  have hfit : Fit s := fun {y c} hc i hi => by
    obtain ⟨ha, rfl⟩ := Array.getElem?_eq_some_iff.mp hc
    have q := List.all_eq_true.mp ((Array.all_eq_true_iff_forall_mem.mp hF) _ (Array.getElem_mem ha)) i (List.mem_range.mpr hi)
    simpa [Array.getElem?_eq_getElem hi] using q
  obtain ⟨i0, ei0⟩ := is_v hgv1
  obtain rfl : w0 = (.int i0) := Option.some.inj ei0
  obtain ⟨hc0, hm0⟩ := and_e hn
  obtain ⟨hc1, hm1⟩ := and_e hm0
  obtain ⟨hc2, hm2⟩ := and_e hm1
  obtain ⟨hc3, hm3⟩ := and_e hm2
  obtain ⟨hc4, hm4⟩ := and_e hm3
  obtain ⟨hc5, hm5⟩ := and_e hm4
  obtain ⟨hc6, hm6⟩ := and_e hm5
  obtain ⟨hc7, hm7⟩ := and_e hm6
  obtain ⟨hc8, hm8⟩ := and_e hm7
  obtain ⟨hc9, hm9⟩ := and_e hm8
  obtain ⟨hc10, hm10⟩ := and_e hm9
  obtain ⟨hc11, hm11⟩ := and_e hm10
  obtain ⟨hc12, hm12⟩ := and_e hm11
  obtain ⟨hc13, hm13⟩ := and_e hm12
  obtain ⟨hc14, hm14⟩ := and_e hm13
  obtain ⟨hc15, hm15⟩ := and_e hm14
  obtain ⟨hc16, hm16⟩ := and_e hm15
  obtain ⟨hc17, hm17⟩ := and_e hm16
  obtain ⟨hc18, hm18⟩ := and_e hm17
  obtain ⟨hc19, hm19⟩ := and_e hm18
  obtain ⟨hc20, hm20⟩ := and_e hm19
  obtain ⟨hc21, hm21⟩ := and_e hm20
  obtain ⟨hc22, hm22⟩ := and_e hm21
  have hc23 := hm22
  obtain ⟨wW1, ev_wW1⟩ := exa_v hc0
  obtain ⟨wW2, ev_wW2⟩ := exa_v hc1
  obtain ⟨wW3, ev_wW3⟩ := exa_v hc2
  obtain ⟨wW4, ev_wW4⟩ := exa_v hc3
  obtain ⟨wW5, ev_wW5⟩ := exa_v hc4
  obtain ⟨wW6, ev_wW6⟩ := exa_v hc5
  obtain ⟨wCW1, ev_wCW1⟩ := exa_v hc6
  obtain ⟨wCW2, ev_wCW2⟩ := exa_v hc7
  obtain ⟨wCW3, ev_wCW3⟩ := exa_v hc8
  obtain ⟨wCW4, ev_wCW4⟩ := exa_v hc9
  obtain ⟨wCW5, ev_wCW5⟩ := exa_v hc10
  obtain ⟨wCW6, ev_wCW6⟩ := exa_v hc11
  have gf0 := Sta.start ev_wW1 (Or.inr ⟨(hw _ (List.mem_of_getElem? (i := 3) rfl)), (hw _ (List.mem_of_getElem? (i := 4) rfl))⟩)
  have gf1 := Exa.start ev_wW1 hc0
  have gf2 := Sta.start ev_wW2 (Or.inr ⟨(hw _ (List.mem_of_getElem? (i := 3) rfl)), (hw _ (List.mem_of_getElem? (i := 7) rfl))⟩)
  have gf3 := Exa.start ev_wW2 hc1
  have gf4 := Sta.start ev_wW3 (Or.inr ⟨(hw _ (List.mem_of_getElem? (i := 3) rfl)), (hw _ (List.mem_of_getElem? (i := 9) rfl))⟩)
  have gf5 := Exa.start ev_wW3 hc2
  have gf6 := Sta.start ev_wW4 (Or.inr ⟨(hw _ (List.mem_of_getElem? (i := 3) rfl)), (hw _ (List.mem_of_getElem? (i := 11) rfl))⟩)
  have gf7 := Exa.start ev_wW4 hc3
  have gf8 := Sta.start ev_wW5 (Or.inr ⟨(hw _ (List.mem_of_getElem? (i := 3) rfl)), (hw _ (List.mem_of_getElem? (i := 13) rfl))⟩)
  have gf9 := Exa.start ev_wW5 hc4
  have gf10 := Sta.start ev_wW6 (Or.inr ⟨(hw _ (List.mem_of_getElem? (i := 3) rfl)), (hw _ (List.mem_of_getElem? (i := 15) rfl))⟩)
  have gf11 := Exa.start ev_wW6 hc5
  have gf12 := Sta.start ev_wCW1 (Or.inr ⟨(hw _ (List.mem_of_getElem? (i := 3) rfl)), (hw _ (List.mem_of_getElem? (i := 17) rfl))⟩)
  have gf13 := Exa.start ev_wCW1 hc6
  have gf14 := Sta.start ev_wCW2 (Or.inr ⟨(hw _ (List.mem_of_getElem? (i := 3) rfl)), (hw _ (List.mem_of_getElem? (i := 19) rfl))⟩)
  have gf15 := Exa.start ev_wCW2 hc7
  have gf16 := Sta.start ev_wCW3 (Or.inr ⟨(hw _ (List.mem_of_getElem? (i := 3) rfl)), (hw _ (List.mem_of_getElem? (i := 21) rfl))⟩)
  have gf17 := Exa.start ev_wCW3 hc8
  have gf18 := Sta.start ev_wCW4 (Or.inr ⟨(hw _ (List.mem_of_getElem? (i := 3) rfl)), (hw _ (List.mem_of_getElem? (i := 23) rfl))⟩)
  have gf19 := Exa.start ev_wCW4 hc9
  have gf20 := Sta.start ev_wCW5 (Or.inr ⟨(hw _ (List.mem_of_getElem? (i := 3) rfl)), (hw _ (List.mem_of_getElem? (i := 25) rfl))⟩)
  have gf21 := Exa.start ev_wCW5 hc10
  have gf22 := Sta.start ev_wCW6 (Or.inr ⟨(hw _ (List.mem_of_getElem? (i := 3) rfl)), (hw _ (List.mem_of_getElem? (i := 27) rfl))⟩)
  have gf23 := Exa.start ev_wCW6 hc11
  have gf24 := Fld.start ((fld_at ev_wW1).symm.trans (own_eqi hc12))
  have gf25 := Fld.start ((fld_at ev_wCW1).symm.trans (own_eqi hc13))
  have gf26 := Fld.start ((fld_at ev_wW4).symm.trans (own_eqi hc14))
  have gf27 := Fld.start ((fld_at ev_wCW4).symm.trans (own_eqi hc15))
  have gf28 := Fld.start ((fld_at ev_wW3).symm.trans (own_eqi hc16))
  have gf29 := Fld.start ((fld_at ev_wCW3).symm.trans (own_eqi hc17))
  have gf30 := Fld.start ((fld_at ev_wCW2).symm.trans (own_eqi hc18))
  have gf31 := Fld.start ((fld_at ev_wCW6).symm.trans (own_eqi hc19))
  have gf32 := Fld.start ((fld_at ev_wW5).symm.trans (own_eqi hc20))
  have gf33 := Fld.start ((fld_at ev_wCW5).symm.trans (own_eqi hc21))
  have gf34 := Fld.start ((fld_at ev_wW2).symm.trans (own_eqi hc22))
  have gf35 := Fld.start ((fld_at ev_wW6).symm.trans (own_eqi hc23))
  have G : OwnG s wW1 wW2 wW3 wW4 wW5 wW6 wCW1 wCW2 wCW3 wCW4 wCW5 wCW6 := ⟨gf0, gf1, gf2, gf3, gf4, gf5, gf6, gf7, gf8, gf9, gf10, gf11, gf12, gf13, gf14, gf15, gf16, gf17, gf18, gf19, gf20, gf21, gf22, gf23, gf24, gf25, gf26, gf27, gf28, gf29, gf30, gf31, gf32, gf33, gf34, gf35, Fld.ne gf24 gf25 (by decide), Fld.ne gf24 gf26 (by decide), Fld.ne gf24 gf27 (by decide), Fld.ne gf24 gf28 (by decide), Fld.ne gf24 gf29 (by decide), Fld.ne gf24 gf30 (by decide), Fld.ne gf24 gf31 (by decide), Fld.ne gf24 gf32 (by decide), Fld.ne gf24 gf33 (by decide), Fld.ne gf24 gf34 (by decide), Fld.ne gf24 gf35 (by decide), Fld.ne gf25 gf27 (by decide), Fld.ne gf25 gf29 (by decide), Fld.ne gf25 gf30 (by decide), Fld.ne gf25 gf31 (by decide), Fld.ne gf25 gf33 (by decide), Fld.ne gf26 gf25 (by decide), Fld.ne gf26 gf27 (by decide), Fld.ne gf26 gf29 (by decide), Fld.ne gf26 gf30 (by decide), Fld.ne gf26 gf31 (by decide), Fld.ne gf26 gf32 (by decide), Fld.ne gf26 gf33 (by decide), Fld.ne gf26 gf35 (by decide), Fld.ne gf27 gf31 (by decide), Fld.ne gf27 gf33 (by decide), Fld.ne gf28 gf25 (by decide), Fld.ne gf28 gf26 (by decide), Fld.ne gf28 gf27 (by decide), Fld.ne gf28 gf29 (by decide), Fld.ne gf28 gf30 (by decide), Fld.ne gf28 gf31 (by decide), Fld.ne gf28 gf32 (by decide), Fld.ne gf28 gf33 (by decide), Fld.ne gf28 gf35 (by decide), Fld.ne gf29 gf27 (by decide), Fld.ne gf29 gf31 (by decide), Fld.ne gf29 gf33 (by decide), Fld.ne gf30 gf27 (by decide), Fld.ne gf30 gf29 (by decide), Fld.ne gf30 gf31 (by decide), Fld.ne gf30 gf33 (by decide), Fld.ne gf32 gf25 (by decide), Fld.ne gf32 gf27 (by decide), Fld.ne gf32 gf29 (by decide), Fld.ne gf32 gf30 (by decide), Fld.ne gf32 gf31 (by decide), Fld.ne gf32 gf33 (by decide), Fld.ne gf32 gf35 (by decide), Fld.ne gf33 gf31 (by decide), Fld.ne gf34 gf25 (by decide), Fld.ne gf34 gf26 (by decide), Fld.ne gf34 gf27 (by decide), Fld.ne gf34 gf28 (by decide), Fld.ne gf34 gf29 (by decide), Fld.ne gf34 gf30 (by decide), Fld.ne gf34 gf31 (by decide), Fld.ne gf34 gf32 (by decide), Fld.ne gf34 gf33 (by decide), Fld.ne gf34 gf35 (by decide), Fld.ne gf35 gf25 (by decide), Fld.ne gf35 gf27 (by decide), Fld.ne gf35 gf29 (by decide), Fld.ne gf35 gf30 (by decide), Fld.ne gf35 gf31 (by decide), Fld.ne gf35 gf33 (by decide)⟩
  obtain ⟨n, o, h1, h2, h3, _, L, rfl, ⟨rfl, N⟩, hq⟩ := own_law l s _ hw tables_1 wW1 wW2 wW3 wW4 wW5 wW6 wCW1 wCW2 wCW3 wCW4 wCW5 wCW6 G s.heap s.heap.size (Old.start s) i0 p e ha hc hk s m _ below hf ((Spec.applies_iff_loose hf).mp happ).1 ⟨rfl, State.Warmed39.refl s, rfl⟩ trivial
  exact ⟨n, _, h1, h2, h3, hpost _ _ _ _ _ _ ⟨Cond.after_iff.mpr rfl, Cond.after_iff.mpr (eq_i res_at (Term.int_eval (1)) rfl), trivial⟩ ⟨hq.1, hq.2.1, (hq.2.2.sift fun y hy => Or.inr (N y hy)).mono (by decide) (by decide)⟩⟩
theorem main_1_1 : Claimed_1_1 := comes_1 fun _ _ _ _ _ _ h hF => ⟨h.1, hF⟩
theorem main_1_2 : Claimed_1_2 := comes_1 fun _ _ _ _ _ _ h hF => ⟨h.2.1, hF⟩
end Jvm.Pilot.@@N@@
namespace Jvm.Pilot.@@N@@
open Jvm Jvm.ClassFile Sem Op Lib Jvm.Free Jvm.Stand Jvm.Pilot.@@N@@.Jvm.D
/-! MADE BY PROGRAM (witnessworld.py) out of the Statement's table words and the real class files: 13 classes; the members and pool entries that the words name. The judged class is class 1, her method 1. -/
namespace start1
open Jvm.ClassFile
def u (s : String) : CpInfo := .utf8 (stringToUtf16 s)
/-- a pool by its gaps: so many unusable entries, then the entry; so many at the end -/
def gap : Nat → List CpInfo → List CpInfo
  | 0, r => r
  | n + 1, r => .unusable :: gap n r
def poolList (es : List (Nat × CpInfo)) (last : Nat) : List CpInfo := es.foldr (fun e r => gap e.1 (e.2 :: r)) (gap last [])
def pool (es : List (Nat × CpInfo)) (last : Nat) : Array CpInfo := ⟨poolList es last⟩
def fileOf (pool : Array CpInfo) (this : Nat) (attrs : Array Attribute := #[]) (ms : Array MethodInfo := #[]) (fl : Nat := 33) (sup : Nat := 0) (ifs : Array Nat := #[]) (fds : Array FieldInfo := #[]) : ClassFile where
  minorVersion := 0
  majorVersion := 65
  constantPool := pool
  accessFlags := fl
  thisClass := this
  superClass := sup
  interfaces := ifs
  fields := fds
  methods := ms
  attributes := attrs
def plain (name : String) (sup : Option ClassId) : Class where
  name := name
  kind := .ordinary
  loader := none
  accessFlags := 33
  super := sup
  interfaces := #[]
  cf := none
  fields := #[]
  methods := #[]
  instanceTypes := #[]
  staticTypes := #[]
  resolved := #[]
  callSites := []
  init := .initialized
  statics := none
  mirror := none

def pool0 : Array CpInfo := pool [(5, u "<init>"), (0, u "()V"), (1, .class_ 10), (1, u "java/lang/Object")] 113

def k0m0 : Method := { name := "<init>", desc := "()V", sig := { parameters := [], returnType := none }, accessFlags := 1, code := none }
/-- java/lang/Object -/
def k0 : Class := { plain "java/lang/Object" none with
  accessFlags := 33
  interfaces := #[]
  cf := some (fileOf pool0 8 #[] #[{ accessFlags := 1, nameIndex := 5, descriptorIndex := 6, attributes := #[] }] 33 0 #[] #[])
  fields := #[]
  methods := #[k0m0]
  instanceTypes := #[]
  staticTypes := #[]
  resolved := Array.replicate 124 none
  statics := none }

def pool1 : Array CpInfo := pool [(2, .class_ 4), (1, u "java/lang/Object"), (0, u "<init>"), (0, u "()V"), (0, .class_ 8), (0, u "com/example/credlib/credlib/engine/Rule"), (0, .fieldref 7 10), (0, .nameAndType 11 12), (0, u "W1"), (0, u "Lcom/example/credlib/credlib/engine/Rule;"), (0, .fieldref 7 14), (0, .nameAndType 15 12), (0, u "W2"), (0, .fieldref 7 17), (0, .nameAndType 18 12), (0, u "W3"), (0, .fieldref 7 20), (0, .nameAndType 21 12), (0, u "W4"), (0, .fieldref 7 23), (0, .nameAndType 24 12), (0, u "W5"), (0, .fieldref 7 26), (0, .nameAndType 27 12), (0, u "W6"), (0, .fieldref 7 29), (0, .nameAndType 30 12), (0, u "CW1"), (0, .fieldref 7 32), (0, .nameAndType 33 12), (0, u "CW2"), (0, .fieldref 7 35), (0, .nameAndType 36 12), (0, u "CW3"), (0, .fieldref 7 38), (0, .nameAndType 39 12), (0, u "CW4"), (0, .fieldref 7 41), (0, .nameAndType 42 12), (0, u "CW5"), (0, .fieldref 7 44), (0, .nameAndType 45 12), (0, u "CW6"), (0, .integer 2147483647), (0, .methodref 7 48), (0, .nameAndType 49 50), (0, u "statesCredential"), (0, u "()Z"), (0, .methodref 7 52), (0, .nameAndType 53 54), (0, u "atInstant"), (0, u "()Lcom/example/credlib/credlib/engine/Rule;"), (0, .class_ 56), (0, u "com/example/credlib/credlib/engine/RuleStatesCredentialPinLaw"), (2, u "law"), (0, u "(I)Z")] 5

def k1m0 : Method := { name := "<init>", desc := "()V", sig := { parameters := [], returnType := none }, accessFlags := 1, code := none }
def k1c1 : Code := { maxStack := 4, maxLocals := 7, code := code, exceptionTable := #[], attributes := #[] }
def k1m1 : Method := { name := "law", desc := "(I)Z", sig := { parameters := [.int], returnType := some .boolean }, accessFlags := 9, code := some k1c1 }
/-- com/example/credlib/credlib/engine/RuleStatesCredentialPinLaw -/
def k1 : Class := { plain "com/example/credlib/credlib/engine/RuleStatesCredentialPinLaw" (some 0) with
  accessFlags := 49
  interfaces := #[]
  cf := some (fileOf pool1 55 #[] #[{ accessFlags := 1, nameIndex := 5, descriptorIndex := 6, attributes := #[] }, { accessFlags := 9, nameIndex := 59, descriptorIndex := 60, attributes := #[] }] 49 2 #[] #[])
  fields := #[]
  methods := #[k1m0, k1m1]
  instanceTypes := #[]
  staticTypes := #[]
  resolved := Array.replicate 66 none
  statics := none }

def pool2 : Array CpInfo := pool [(1, .class_ 2), (0, u "java/lang/constant/Constable"), (0, .class_ 4), (0, u "java/lang/Object")] 6

/-- java/lang/constant/Constable -/
def k2 : Class := { plain "java/lang/constant/Constable" (some 0) with
  accessFlags := 1537
  interfaces := #[]
  cf := some (fileOf pool2 1 #[] #[] 1537 3 #[] #[])
  fields := #[]
  methods := #[]
  instanceTypes := #[]
  staticTypes := #[]
  resolved := Array.replicate 11 none
  statics := none }

def pool3 : Array CpInfo := pool [(1, .class_ 2), (0, u "java/lang/Comparable"), (0, .class_ 4), (0, u "java/lang/Object")] 7

/-- java/lang/Comparable -/
def k3 : Class := { plain "java/lang/Comparable" (some 0) with
  accessFlags := 1537
  interfaces := #[]
  cf := some (fileOf pool3 1 #[] #[] 1537 3 #[] #[])
  fields := #[]
  methods := #[]
  instanceTypes := #[]
  staticTypes := #[]
  resolved := Array.replicate 12 none
  statics := none }

def pool4 : Array CpInfo := pool [(1, .class_ 2), (0, u "java/io/Serializable"), (0, .class_ 4), (0, u "java/lang/Object")] 2

/-- java/io/Serializable -/
def k4 : Class := { plain "java/io/Serializable" (some 0) with
  accessFlags := 1537
  interfaces := #[]
  cf := some (fileOf pool4 1 #[] #[] 1537 3 #[] #[])
  fields := #[]
  methods := #[]
  instanceTypes := #[]
  staticTypes := #[]
  resolved := Array.replicate 7 none
  statics := none }

def pool5 : Array CpInfo := pool [(2, .class_ 4), (1, u "java/lang/Enum"), (0, u "name"), (0, u "Ljava/lang/String;"), (0, .fieldref 2 8), (0, .nameAndType 9 10), (0, u "ordinal"), (0, u "I"), (1, .class_ 14), (1, u "java/lang/Object"), (4, u "hash"), (86, .class_ 108), (1, u "java/lang/Enum$EnumDesc"), (2, .class_ 112), (0, u "java/lang/constant/Constable"), (0, .class_ 114), (0, u "java/lang/Comparable"), (0, .class_ 116), (0, u "java/io/Serializable"), (9, u "()I")] 77

def k5c0 : Code := { maxStack := 1, maxLocals := 1, code := jdk_37_method_2_code, exceptionTable := #[], attributes := #[] }
def k5m0 : Method := { name := "ordinal", desc := "()I", sig := { parameters := [], returnType := some .int }, accessFlags := 17, code := some k5c0 }
/-- java/lang/Enum -/
def k5 : Class := { plain "java/lang/Enum" (some 0) with
  accessFlags := 1057
  interfaces := #[2, 3, 4]
  cf := some (fileOf pool5 2 #[.nestMembers #[106]] #[{ accessFlags := 17, nameIndex := 9, descriptorIndex := 126, attributes := #[] }] 1057 12 #[111, 113, 115] #[{ accessFlags := 18, nameIndex := 5, descriptorIndex := 6, attributes := #[] }, { accessFlags := 18, nameIndex := 9, descriptorIndex := 10, attributes := #[] }, { accessFlags := 2, nameIndex := 19, descriptorIndex := 10, attributes := #[] }])
  fields := #[{ name := "name", type := (.object "java/lang/String"), accessFlags := 18, slot := 0, constantValue := 0 }, { name := "ordinal", type := .int, accessFlags := 18, slot := 1, constantValue := 0 }, { name := "hash", type := .int, accessFlags := 2, slot := 2, constantValue := 0 }]
  methods := #[k5m0]
  instanceTypes := #[(.object "java/lang/String"), .int, .int]
  staticTypes := #[]
  resolved := Array.replicate 204 none
  statics := none }

def pool6 : Array CpInfo := pool [(1, .class_ 2), (0, u "com/example/credlib/credlib/engine/Rule"), (0, .fieldref 1 4), (0, .nameAndType 5 6), (0, u "W1"), (0, u "Lcom/example/credlib/credlib/engine/Rule;"), (2, u "W2"), (2, u "W3"), (2, u "W4"), (2, u "W5"), (2, u "W6"), (0, .fieldref 1 23), (0, .nameAndType 24 6), (0, u "CW1"), (0, .fieldref 1 26), (0, .nameAndType 27 6), (0, u "CW2"), (0, .fieldref 1 29), (0, .nameAndType 30 6), (0, u "CW3"), (0, .fieldref 1 32), (0, .nameAndType 33 6), (0, u "CW4"), (0, .fieldref 1 35), (0, .nameAndType 36 6), (0, u "CW5"), (0, .fieldref 1 38), (0, .nameAndType 39 6), (0, u "CW6"), (2, u "$VALUES"), (0, u "[Lcom/example/credlib/credlib/engine/Rule;"), (6, .class_ 52), (1, u "java/lang/Enum"), (6, .methodref 1 60), (0, .nameAndType 61 62), (0, u "ordinal"), (0, u "()I"), (24, u "statesCredential"), (0, u "()Z"), (1, u "atInstant"), (0, u "()Lcom/example/credlib/credlib/engine/Rule;")] 4

def k6c0 : Code := { maxStack := 2, maxLocals := 1, code := prog_18_method_4_code, exceptionTable := #[], attributes := #[] }
def k6m0 : Method := { name := "statesCredential", desc := "()Z", sig := { parameters := [], returnType := some .boolean }, accessFlags := 1, code := some k6c0 }
def k6c1 : Code := { maxStack := 1, maxLocals := 1, code := prog_18_method_5_code, exceptionTable := #[], attributes := #[] }
def k6m1 : Method := { name := "atInstant", desc := "()Lcom/example/credlib/credlib/engine/Rule;", sig := { parameters := [], returnType := some (.object "com/example/credlib/credlib/engine/Rule") }, accessFlags := 0, code := some k6c1 }
/-- com/example/credlib/credlib/engine/Rule -/
def k6 : Class := { plain "com/example/credlib/credlib/engine/Rule" (some 5) with
  accessFlags := 16433
  interfaces := #[]
  cf := some (fileOf pool6 1 #[] #[{ accessFlags := 1, nameIndex := 87, descriptorIndex := 88, attributes := #[] }, { accessFlags := 0, nameIndex := 90, descriptorIndex := 91, attributes := #[] }] 16433 50 #[] #[{ accessFlags := 16409, nameIndex := 5, descriptorIndex := 6, attributes := #[] }, { accessFlags := 16409, nameIndex := 9, descriptorIndex := 6, attributes := #[] }, { accessFlags := 16409, nameIndex := 12, descriptorIndex := 6, attributes := #[] }, { accessFlags := 16409, nameIndex := 15, descriptorIndex := 6, attributes := #[] }, { accessFlags := 16409, nameIndex := 18, descriptorIndex := 6, attributes := #[] }, { accessFlags := 16409, nameIndex := 21, descriptorIndex := 6, attributes := #[] }, { accessFlags := 16409, nameIndex := 24, descriptorIndex := 6, attributes := #[] }, { accessFlags := 16409, nameIndex := 27, descriptorIndex := 6, attributes := #[] }, { accessFlags := 16409, nameIndex := 30, descriptorIndex := 6, attributes := #[] }, { accessFlags := 16409, nameIndex := 33, descriptorIndex := 6, attributes := #[] }, { accessFlags := 16409, nameIndex := 36, descriptorIndex := 6, attributes := #[] }, { accessFlags := 16409, nameIndex := 39, descriptorIndex := 6, attributes := #[] }, { accessFlags := 4122, nameIndex := 42, descriptorIndex := 43, attributes := #[] }])
  fields := #[{ name := "W1", type := (.object "com/example/credlib/credlib/engine/Rule"), accessFlags := 16409, slot := 0, constantValue := 0 }, { name := "W2", type := (.object "com/example/credlib/credlib/engine/Rule"), accessFlags := 16409, slot := 1, constantValue := 0 }, { name := "W3", type := (.object "com/example/credlib/credlib/engine/Rule"), accessFlags := 16409, slot := 2, constantValue := 0 }, { name := "W4", type := (.object "com/example/credlib/credlib/engine/Rule"), accessFlags := 16409, slot := 3, constantValue := 0 }, { name := "W5", type := (.object "com/example/credlib/credlib/engine/Rule"), accessFlags := 16409, slot := 4, constantValue := 0 }, { name := "W6", type := (.object "com/example/credlib/credlib/engine/Rule"), accessFlags := 16409, slot := 5, constantValue := 0 }, { name := "CW1", type := (.object "com/example/credlib/credlib/engine/Rule"), accessFlags := 16409, slot := 6, constantValue := 0 }, { name := "CW2", type := (.object "com/example/credlib/credlib/engine/Rule"), accessFlags := 16409, slot := 7, constantValue := 0 }, { name := "CW3", type := (.object "com/example/credlib/credlib/engine/Rule"), accessFlags := 16409, slot := 8, constantValue := 0 }, { name := "CW4", type := (.object "com/example/credlib/credlib/engine/Rule"), accessFlags := 16409, slot := 9, constantValue := 0 }, { name := "CW5", type := (.object "com/example/credlib/credlib/engine/Rule"), accessFlags := 16409, slot := 10, constantValue := 0 }, { name := "CW6", type := (.object "com/example/credlib/credlib/engine/Rule"), accessFlags := 16409, slot := 11, constantValue := 0 }, { name := "$VALUES", type := (.array (.object "com/example/credlib/credlib/engine/Rule")), accessFlags := 4122, slot := 12, constantValue := 0 }]
  methods := #[k6m0, k6m1]
  instanceTypes := #[(.object "java/lang/String"), .int, .int]
  staticTypes := #[(.object "com/example/credlib/credlib/engine/Rule"), (.object "com/example/credlib/credlib/engine/Rule"), (.object "com/example/credlib/credlib/engine/Rule"), (.object "com/example/credlib/credlib/engine/Rule"), (.object "com/example/credlib/credlib/engine/Rule"), (.object "com/example/credlib/credlib/engine/Rule"), (.object "com/example/credlib/credlib/engine/Rule"), (.object "com/example/credlib/credlib/engine/Rule"), (.object "com/example/credlib/credlib/engine/Rule"), (.object "com/example/credlib/credlib/engine/Rule"), (.object "com/example/credlib/credlib/engine/Rule"), (.object "com/example/credlib/credlib/engine/Rule"), (.array (.object "com/example/credlib/credlib/engine/Rule"))]
  resolved := Array.replicate 96 none
  statics := some 0 }

def pool7 : Array CpInfo := pool [(1, u "java/lang/Cloneable"), (0, .class_ 1), (0, u "java/lang/Object"), (0, .class_ 3)] 3

/-- java/lang/Cloneable -/
def k7 : Class := { plain "java/lang/Cloneable" (some 0) with
  accessFlags := 1537
  interfaces := #[]
  cf := some (fileOf pool7 2 #[] #[] 1537 4 #[] #[])
  fields := #[]
  methods := #[]
  instanceTypes := #[]
  staticTypes := #[]
  resolved := Array.replicate 8 none
  statics := none }

/-- the primitive byte -/
def k8 : Class := { plain "byte" none with kind := .primitive 'B', accessFlags := 0x411 }
/-- [B -/
def k9 : Class := { plain "[B" (some 0) with kind := .array 8 .byte, interfaces := #[7, 4], accessFlags := 1041 }

/-- the primitive int -/
def k10 : Class := { plain "int" none with kind := .primitive 'I', accessFlags := 0x411 }
/-- [I -/
def k11 : Class := { plain "[I" (some 0) with kind := .array 10 .int, interfaces := #[7, 4], accessFlags := 1041 }

/-- [Lcom/example/credlib/credlib/engine/Rule; -/
def k12 : Class := { plain "[Lcom/example/credlib/credlib/engine/Rule;" (some 0) with kind := .array 6 (.object "com/example/credlib/credlib/engine/Rule"), interfaces := #[7, 4], accessFlags := 1041 }

def heap : Heap := #[{ cls := 6, slots := #[.ref 1, .ref 2, .ref 3, .ref 4, .ref 5, .ref 6, .ref 7, .ref 8, .ref 9, .ref 10, .ref 11, .ref 12, .null], vm := .statics 6 },
  { cls := 6, slots := #[.null, .int 0, .int 0], vm := .none },
  { cls := 6, slots := #[.null, .int 1, .int 0], vm := .none },
  { cls := 6, slots := #[.null, .int 2, .int 0], vm := .none },
  { cls := 6, slots := #[.null, .int 3, .int 0], vm := .none },
  { cls := 6, slots := #[.null, .int 4, .int 0], vm := .none },
  { cls := 6, slots := #[.null, .int 5, .int 0], vm := .none },
  { cls := 6, slots := #[.null, .int 6, .int 0], vm := .none },
  { cls := 6, slots := #[.null, .int 7, .int 0], vm := .none },
  { cls := 6, slots := #[.null, .int 8, .int 0], vm := .none },
  { cls := 6, slots := #[.null, .int 9, .int 0], vm := .none },
  { cls := 6, slots := #[.null, .int 10, .int 0], vm := .none },
  { cls := 6, slots := #[.null, .int 11, .int 0], vm := .none }]
def classes : Array Class := #[k0, k1, k2, k3, k4, k5, k6, k7, k8, k9, k10, k11, k12]
def interned : List (Array UInt16 × Addr) := []
def slotsUsed : Nat := 49
def theMethod : MethodId := ⟨1, 1⟩
def args0 : Array Value := #[.int 5]
def aboutOver (below : List Frame) : State where
  vm := { classes := classes, interned := interned.toArray }
  heap := heap
  slotsUsed := slotsUsed
  threads := #[{ frames := .invoking theMethod args0 :: below }]
def below0 : List Frame := [.native { method := ⟨0, 0⟩, args := #[] }]
def about1 : State := aboutOver below0
def p0 : Program := .bare "" "" ""
def e0 : Env := launch0.env 0 0 0
theorem w_frames : about1.frames = Frame.invoking theMethod args0 :: below0 := rfl
set_option maxRecDepth 65536 in
theorem w_args : argsFit about1.vm theMethod args0 = true := by decide +kernel
set_option maxRecDepth 65536 in
theorem w_heap : heapFits about1 = true := by decide +kernel
set_option maxRecDepth 65536 in
theorem w_runnable : about1.curStatus? = some .runnable := by decide +kernel
set_option maxRecDepth 65536 in
theorem w_alone : about1.alone = true := by decide +kernel
set_option maxRecDepth 65536 in
theorem w_named : about1.methodNamed? x = some theMethod := by decide +kernel
set_option maxRecDepth 65536 in
theorem w_hears : about1.hears theMethod below0 = true := by decide +kernel
set_option maxRecDepth 65536 in
theorem w_ripe : about1.ripe theMethod args0 below0 = true := by decide +kernel
theorem w_running : about1.status = .running := rfl
set_option maxRecDepth 65536 in
theorem w_room : about1.hasRoom e0.platform room_1 = true :=
  launch0.hasRoom_least _ room_1 (by decide +kernel) (by decide +kernel) (by decide +kernel) (by decide +kernel) (by decide +kernel) (by decide +kernel)
theorem allAtoms_all (ts : List Jvm.Cond) (a : Array Jvm.Value) (st : Jvm.State) : (allAtoms ts).before a st = ts.all (fun c => c.before a st) := by
  induction ts with
  | nil => rfl
  | cons c t ih =>
    show (Jvm.Cond.and c (allAtoms t)).before a st = _
    rw [Jvm.Cond.before_and, ih, List.all_cons]
def words1 : List Jvm.Cond := Jvm.Cond.code x code maxLocals ret :: tables_1
/-- a 'code' word, met by the world's own term for the bytes: nothing is compared byte by byte -/
theorem code_word {y : MethodName} {bytes : ByteArray} {mx : Nat} {rt : Option FieldType} {a : Array Value} {s : State} {m : MethodId} {meth : Method} {c : Code} (h1 : s.methodNamed? y = some m) (h2 : s.vm.method? m = some meth) (h3 : meth.code = some c) (h4 : c.code = bytes)
    (h5 : (c.maxLocals == mx && c.exceptionTable.isEmpty && decide (c.maxStack ≤ mostOperands) && decide (meth.sig.returnType = rt) && !meth.locks && decide (parseMethodDescriptor y.desc = some meth.sig)) = true) : (Jvm.Cond.code y bytes mx rt).before a s = true := by
  simp only [Bool.and_eq_true, beq_iff_eq, Bool.not_eq_true', decide_eq_true_eq] at h5
  obtain ⟨⟨⟨⟨⟨g1, g2⟩, g3⟩, g4⟩, g5⟩, g6⟩ := h5
  simp [Cond.before, Cond.holds, Cond.value, h1, h2, h3, h4, g1, g2, g3, g4, g5, g6]
def isCode : Jvm.Cond → Bool
  | .code _ _ _ _ => true
  | _ => false
theorem all_split {L : List Jvm.Cond} {P : Jvm.Cond → Bool} (h1 : L.all (fun c => isCode c || P c) = true) (h2 : ∀ c ∈ L.filter isCode, P c = true) : L.all P = true := by
  refine List.all_eq_true.mpr fun c hc => ?_
  have h := List.all_eq_true.mp h1 c hc
  rcases Bool.eq_false_or_eq_true (isCode c) with hi | hi
  · exact h2 c (List.mem_filter.mpr ⟨hc, hi⟩)
  · simpa [hi] using h
set_option maxRecDepth 65536 in
theorem w_c0 : (Jvm.Cond.code x code maxLocals ret).before args0 about1 = true := code_word (m := ⟨1, 1⟩) (meth := k1m1) (c := k1c1) (by decide +kernel) rfl rfl rfl (by decide +kernel)
set_option maxRecDepth 65536 in
theorem w_c1 : (Jvm.Cond.code ({ cls := "com/example/credlib/credlib/engine/Rule", name := "statesCredential", desc := "()Z" } : Jvm.MethodName) prog_18_method_4_code (1 : Nat) (Option.some Jvm.ClassFile.FieldType.boolean)).before args0 about1 = true := code_word (m := ⟨6, 0⟩) (meth := k6m0) (c := k6c0) (by decide +kernel) rfl rfl rfl (by decide +kernel)
set_option maxRecDepth 65536 in
theorem w_c2 : (Jvm.Cond.code ({ cls := "com/example/credlib/credlib/engine/Rule", name := "atInstant", desc := "()Lcom/example/credlib/credlib/engine/Rule;" } : Jvm.MethodName) prog_18_method_5_code (1 : Nat) (Option.some (Jvm.ClassFile.FieldType.object "com/example/credlib/credlib/engine/Rule"))).before args0 about1 = true := code_word (m := ⟨6, 1⟩) (meth := k6m1) (c := k6c1) (by decide +kernel) rfl rfl rfl (by decide +kernel)
set_option maxRecDepth 65536 in
theorem w_c3 : (Jvm.Cond.code ({ cls := "java/lang/Enum", name := "ordinal", desc := "()I" } : Jvm.MethodName) jdk_37_method_2_code (1 : Nat) (Option.some Jvm.ClassFile.FieldType.int)).before args0 about1 = true := code_word (m := ⟨5, 0⟩) (meth := k5m0) (c := k5c0) (by decide +kernel) rfl rfl rfl (by decide +kernel)
def codes1 : List Jvm.Cond := [Jvm.Cond.code x code maxLocals ret, Jvm.Cond.code ({ cls := "com/example/credlib/credlib/engine/Rule", name := "statesCredential", desc := "()Z" } : Jvm.MethodName) prog_18_method_4_code (1 : Nat) (Option.some Jvm.ClassFile.FieldType.boolean), Jvm.Cond.code ({ cls := "com/example/credlib/credlib/engine/Rule", name := "atInstant", desc := "()Lcom/example/credlib/credlib/engine/Rule;" } : Jvm.MethodName) prog_18_method_5_code (1 : Nat) (Option.some (Jvm.ClassFile.FieldType.object "com/example/credlib/credlib/engine/Rule")), Jvm.Cond.code ({ cls := "java/lang/Enum", name := "ordinal", desc := "()I" } : Jvm.MethodName) jdk_37_method_2_code (1 : Nat) (Option.some Jvm.ClassFile.FieldType.int)]
set_option maxRecDepth 65536 in
theorem codes_eq : words1.filter isCode = codes1 := rfl
theorem w_codes : ∀ c ∈ words1.filter isCode, c.before args0 about1 = true := by
  rw [codes_eq]
  intro c hc
  simp only [codes1, List.mem_cons, List.not_mem_nil, or_false] at hc
  rcases hc with rfl | rfl | rfl | rfl
  · exact w_c0
  · exact w_c1
  · exact w_c2
  · exact w_c3
set_option maxRecDepth 65536 in
theorem w_t1 : (words1.take 24).all (fun c => isCode c || c.before args0 about1) = true := by decide +kernel
set_option maxRecDepth 65536 in
theorem w_t2 : ((words1.drop 24).take 24).all (fun c => isCode c || c.before args0 about1) = true := by decide +kernel
set_option maxRecDepth 65536 in
theorem w_t3 : ((words1.drop 24).drop 24).all (fun c => isCode c || c.before args0 about1) = true := by decide +kernel
theorem w_tables : (allAtoms (Jvm.Cond.code x code maxLocals ret :: tables_1)).before args0 about1 = true := by
  rw [allAtoms_all]
  show words1.all (fun c => c.before args0 about1) = true
  refine all_split ?_ w_codes
  rw [← List.take_append_drop 24 words1, List.all_append, w_t1, ← List.take_append_drop 24 (words1.drop 24), List.all_append, w_t2, w_t3]
  rfl
set_option maxRecDepth 65536 in
theorem w_case : (Jvm.Cond.and given_1 narrow_1).before args0 about1 = true := by decide +kernel
theorem w_applies : (headSpec (Jvm.Cond.code x code maxLocals ret :: tables_1) room_1).applies x e0.platform about1 = true :=
  (Spec.applies_iff w_frames).mpr ⟨w_running, w_runnable, w_alone, w_named, w_hears, w_ripe, w_room, w_tables⟩
theorem atStart : AtStart classFile x code maxLocals ret World_1 tables_1 room_1 Calls_1 rest_1 Pre_1 launch0 p0 e0 about1 theMethod args0 below0 :=
  ⟨lists_1, trivial, launch0.admits_env _ _ _, launch0.least_env, fairChoices_fair.cas, fairChoices_fair.clock, w_frames, w_args, w_heap, w_applies, trivial, trivial, w_case⟩
end start1
theorem witness_1 : WitnessClaimed_1 := ⟨start1.p0, start1.e0, start1.about1, start1.theMethod, start1.args0, start1.below0, start1.atStart⟩
end Jvm.Pilot.@@N@@
