import JvmDerived
import JvmDerived.Pilot.@@N@@Statement
import JvmDerived.Pilot.@@N@@Code
set_option linter.unusedVariables false
set_option linter.unusedSimpArgs false
namespace Jvm.RoadKit
open Sem ClassFile Op Lib Jvm.Stand Jvm.Free Jvm.LawKit
section New
variable {p : Program} {l : Launch} {e : Env} {R : Room} {s : State} {m : MethodId} {args : Array Value} {below : List Frame} {meth : Method} {c : Code} {T : State} {locs : List Loc} {cells slots : Nat}
theorem retI (X : Stand p l e R s m args below meth c T locs cells slots) (hx : p.tables.exec = Jvm.exec) {pc : Nat} {Ls : Array Slot} {z : Int32} {rest : List Value} (hret : meth.sig.returnType = some .int) (hd : decode c.code pc = .ok (.ireturn, 1)) {fs : List Frame}
    (hl : ∀ (f : JFrame) (acts : List Action), f.method = m → f.locked = none → f.entered = [] → (doReturn e (T.setTop f) acts (some (.int z))).1 = T.setFrames fs) : Steps p.tables e below (T.setTop (mkF m pc Ls (.int z :: rest))) (T.setFrames fs) := by
  have hm' : T.vm.method? m = some meth := X.method'
  have hn : narrow .int (.int z) = .int z := rfl
  show Steps p.tables e below (T.setTop { method := m, pc := pc, locals := Ls, stack := _ :: rest, locked := none }) _
  jvm_step X.here [X.here.top, hx, hd, hm', hret, hn]
  first | (intro acts; rw [hl _ acts rfl rfl rfl]) | rw [hl _ _ rfl rfl rfl]
  exact Steps.refl _
end New
end Jvm.RoadKit
namespace Jvm.Pilot.@@N@@
open Jvm Jvm.ClassFile Sem Op Lib Jvm.Free Jvm.Stand Jvm.LawKit Jvm.RoadKit Bundle Jvm.Pilot.@@N@@.Jvm.D
def OwnQ (r : Option Value) (h0 : Heap) (n0 : Nat) (v : Option Value) (h : Heap) (L : List Loc) : Prop := v = r ∧ Fr n0 L ∧ h = h0
theorem own_sz {Z : State} {n0 : Nat} {h : Heap} (O : Old Z n0 h) : n0 ≤ h.size := O.1 ▸ O.2.1
theorem own_new {Z : State} {n0 : Nat} {h : Heap} {b : Addr} (O : Old Z n0 h) (g : b = h.size) : n0 ≤ b := Nat.le_trans (own_sz O) (Nat.le_of_eq g.symm)
theorem own_eqi {args : Array Value} {first s : State} {o : Option Outcome} {idx : List Nat} {a : Term} {k : Int32} (h : (Cond.eq a (Term.int k)).value args first o s idx = some true) : a.eval args first o idx s = some (.int k) := by
  obtain ⟨x, y, h1, h2, h3, -⟩ := cmp_v (Or.inl h)
  have e2 : y = .int k := (Option.some.inj ((Term.int_eval k).symm.trans h2)).symm
  subst e2
  cases x with
  | int z =>
    have q : z = k := by
      have h4 := h
      simp only [Cond.value, h1, h2] at h4
      simpa using h4
    rw [h1, q]
  | _ => first | (obtain ⟨z, hz⟩ := h3; cases hz) | (cases h3.2)
theorem own_len {args : Array Value} {first s : State} {o : Option Outcome} {idx : List Nat} {t : Term} {a : Addr} {cl : Cell} {k : Int32} (ht : t.eval args first o idx s = some (.ref a)) (hc : s.heap[a]? = some cl) (h : (Cond.eq (Term.length t) (Term.int k)).value args first o s idx = some true) : cl.slots.size < 2 ^ 31 ∧ cl.slots.size.toInt32 = k := by
  have h1 := own_eqi h
  obtain ⟨a', cell, ha', hat, hv⟩ := Term.length_spec h1
  cases ht.symm.trans ha'
  cases hc.symm.trans (State.arrayAt?_spec hat).1
  refine ⟨?_, (Value.int.inj hv).symm⟩
  by_cases q : cl.slots.size < 2147483648
  · exact q
  · exfalso
    simp [Term.eval, ht, hat, q] at h1
theorem own_el {args : Array Value} {first s : State} {o : Option Outcome} {idx : List Nat} {t u : Term} {a b : Addr} {cl : Cell} {j : Int32} (ht : t.eval args first o idx s = some (.ref a)) (hc : s.heap[a]? = some cl) (h : (Cond.eq (Term.elem t (Term.int j)) u).value args first o s idx = some true) (hu : u.eval args first o idx s = some (.ref b)) :
    ¬ (j < 0 ∨ cl.slots.size ≤ j.toNatClampNeg) ∧ cl.slots[j.toNatClampNeg]? = some (.ref b) := by
  obtain ⟨x, y, h1, h2, h3, h4⟩ := cmp_v (Or.inl h)
  cases hu.symm.trans h2
  have q := gotT (eq_R h1 h2 h4.2 rfl) h
  subst q
  exact elem_in h1 ht (Term.int_eval j) hc
def OwnG (Z : State) (wKINDS : Addr) (wSUBJECT_PREDICATE_OBJECT : Addr) (wSUBJECT_PREDICATE : Addr) (wSUBJECT_OBJECT : Addr) (wPREDICATE_OBJECT : Addr) (wSUBJECT : Addr) (wPREDICATE : Addr) (wOBJECT : Addr) (kKINDS : ClassId) : Prop := Sta Z Z.heap "com/example/quadrille/quadrille/graphfilter/PatternKind" "KINDS" "[Lcom/example/quadrille/quadrille/graphfilter/PatternKind;" (.ref wKINDS) ∧
  Sta Z Z.heap "com/example/quadrille/quadrille/graphfilter/PatternKind" "SUBJECT_PREDICATE_OBJECT" "Lcom/example/quadrille/quadrille/graphfilter/PatternKind;" (.ref wSUBJECT_PREDICATE_OBJECT) ∧
  Exa Z Z.heap wSUBJECT_PREDICATE_OBJECT "com/example/quadrille/quadrille/graphfilter/PatternKind" ∧
  Sta Z Z.heap "com/example/quadrille/quadrille/graphfilter/PatternKind" "SUBJECT_PREDICATE" "Lcom/example/quadrille/quadrille/graphfilter/PatternKind;" (.ref wSUBJECT_PREDICATE) ∧
  Exa Z Z.heap wSUBJECT_PREDICATE "com/example/quadrille/quadrille/graphfilter/PatternKind" ∧
  Sta Z Z.heap "com/example/quadrille/quadrille/graphfilter/PatternKind" "SUBJECT_OBJECT" "Lcom/example/quadrille/quadrille/graphfilter/PatternKind;" (.ref wSUBJECT_OBJECT) ∧
  Exa Z Z.heap wSUBJECT_OBJECT "com/example/quadrille/quadrille/graphfilter/PatternKind" ∧
  Sta Z Z.heap "com/example/quadrille/quadrille/graphfilter/PatternKind" "PREDICATE_OBJECT" "Lcom/example/quadrille/quadrille/graphfilter/PatternKind;" (.ref wPREDICATE_OBJECT) ∧
  Exa Z Z.heap wPREDICATE_OBJECT "com/example/quadrille/quadrille/graphfilter/PatternKind" ∧
  Sta Z Z.heap "com/example/quadrille/quadrille/graphfilter/PatternKind" "SUBJECT" "Lcom/example/quadrille/quadrille/graphfilter/PatternKind;" (.ref wSUBJECT) ∧
  Exa Z Z.heap wSUBJECT "com/example/quadrille/quadrille/graphfilter/PatternKind" ∧
  Sta Z Z.heap "com/example/quadrille/quadrille/graphfilter/PatternKind" "PREDICATE" "Lcom/example/quadrille/quadrille/graphfilter/PatternKind;" (.ref wPREDICATE) ∧
  Exa Z Z.heap wPREDICATE "com/example/quadrille/quadrille/graphfilter/PatternKind" ∧
  Sta Z Z.heap "com/example/quadrille/quadrille/graphfilter/PatternKind" "OBJECT" "Lcom/example/quadrille/quadrille/graphfilter/PatternKind;" (.ref wOBJECT) ∧
  Exa Z Z.heap wOBJECT "com/example/quadrille/quadrille/graphfilter/PatternKind" ∧
  Fld Z Z.heap wSUBJECT_PREDICATE_OBJECT "com/example/quadrille/quadrille/graphfilter/PatternKind" "subject" "Z" (.int (1 : Int32)) ∧
  Fld Z Z.heap wSUBJECT_PREDICATE "com/example/quadrille/quadrille/graphfilter/PatternKind" "subject" "Z" (.int (1 : Int32)) ∧
  Fld Z Z.heap wSUBJECT_OBJECT "com/example/quadrille/quadrille/graphfilter/PatternKind" "subject" "Z" (.int (1 : Int32)) ∧
  Fld Z Z.heap wPREDICATE_OBJECT "com/example/quadrille/quadrille/graphfilter/PatternKind" "subject" "Z" (.int (0 : Int32)) ∧
  Fld Z Z.heap wPREDICATE_OBJECT "com/example/quadrille/quadrille/graphfilter/PatternKind" "predicate" "Z" (.int (1 : Int32)) ∧
  Fld Z Z.heap wSUBJECT "com/example/quadrille/quadrille/graphfilter/PatternKind" "subject" "Z" (.int (1 : Int32)) ∧
  Fld Z Z.heap wPREDICATE "com/example/quadrille/quadrille/graphfilter/PatternKind" "subject" "Z" (.int (0 : Int32)) ∧
  Fld Z Z.heap wPREDICATE "com/example/quadrille/quadrille/graphfilter/PatternKind" "predicate" "Z" (.int (1 : Int32)) ∧
  Fld Z Z.heap wOBJECT "com/example/quadrille/quadrille/graphfilter/PatternKind" "subject" "Z" (.int (0 : Int32)) ∧
  Fld Z Z.heap wOBJECT "com/example/quadrille/quadrille/graphfilter/PatternKind" "predicate" "Z" (.int (0 : Int32)) ∧
  Fld Z Z.heap wOBJECT "com/example/quadrille/quadrille/graphfilter/PatternKind" "object" "Z" (.int (1 : Int32)) ∧
  Fld Z Z.heap wSUBJECT_PREDICATE_OBJECT "com/example/quadrille/quadrille/graphfilter/PatternKind" "predicate" "Z" (.int (1 : Int32)) ∧
  Fld Z Z.heap wSUBJECT_PREDICATE_OBJECT "com/example/quadrille/quadrille/graphfilter/PatternKind" "object" "Z" (.int (1 : Int32)) ∧
  Fld Z Z.heap wSUBJECT_PREDICATE "com/example/quadrille/quadrille/graphfilter/PatternKind" "predicate" "Z" (.int (1 : Int32)) ∧
  Fld Z Z.heap wSUBJECT_PREDICATE "com/example/quadrille/quadrille/graphfilter/PatternKind" "object" "Z" (.int (0 : Int32)) ∧
  Fld Z Z.heap wSUBJECT_OBJECT "com/example/quadrille/quadrille/graphfilter/PatternKind" "predicate" "Z" (.int (0 : Int32)) ∧
  Fld Z Z.heap wSUBJECT "com/example/quadrille/quadrille/graphfilter/PatternKind" "predicate" "Z" (.int (0 : Int32)) ∧
  Fld Z Z.heap wPREDICATE_OBJECT "com/example/quadrille/quadrille/graphfilter/PatternKind" "object" "Z" (.int (1 : Int32)) ∧
  Fld Z Z.heap wPREDICATE "com/example/quadrille/quadrille/graphfilter/PatternKind" "object" "Z" (.int (0 : Int32)) ∧
  Fld Z Z.heap wSUBJECT_OBJECT "com/example/quadrille/quadrille/graphfilter/PatternKind" "object" "Z" (.int (1 : Int32)) ∧
  Fld Z Z.heap wSUBJECT "com/example/quadrille/quadrille/graphfilter/PatternKind" "object" "Z" (.int (0 : Int32)) ∧
  Arv Z Z.heap wKINDS kKINDS (.object "com/example/quadrille/quadrille/graphfilter/PatternKind") (7 : Int32) [(.ref wSUBJECT_PREDICATE_OBJECT), (.ref wSUBJECT_PREDICATE), (.ref wSUBJECT_OBJECT), (.ref wPREDICATE_OBJECT), (.ref wSUBJECT), (.ref wPREDICATE), (.ref wOBJECT)] .null ∧
  wSUBJECT_PREDICATE_OBJECT ≠ wPREDICATE_OBJECT ∧
  wSUBJECT_PREDICATE_OBJECT ≠ wPREDICATE ∧
  wSUBJECT_PREDICATE_OBJECT ≠ wOBJECT ∧
  wSUBJECT_PREDICATE ≠ wPREDICATE_OBJECT ∧
  wSUBJECT_PREDICATE ≠ wPREDICATE ∧
  wSUBJECT_PREDICATE ≠ wOBJECT ∧
  wSUBJECT_OBJECT ≠ wPREDICATE_OBJECT ∧
  wSUBJECT_OBJECT ≠ wPREDICATE ∧
  wSUBJECT_OBJECT ≠ wOBJECT ∧
  wPREDICATE_OBJECT ≠ wSUBJECT ∧
  wSUBJECT ≠ wPREDICATE ∧
  wSUBJECT ≠ wOBJECT ∧
  wPREDICATE_OBJECT ≠ wOBJECT ∧
  wPREDICATE ≠ wOBJECT ∧
  wSUBJECT_PREDICATE_OBJECT ≠ wSUBJECT_OBJECT ∧
  wSUBJECT_PREDICATE_OBJECT ≠ wSUBJECT ∧
  wSUBJECT_PREDICATE ≠ wSUBJECT_OBJECT ∧
  wSUBJECT_PREDICATE ≠ wSUBJECT ∧
  wSUBJECT_PREDICATE_OBJECT ≠ wSUBJECT_PREDICATE ∧
  wPREDICATE_OBJECT ≠ wPREDICATE ∧
  wSUBJECT_OBJECT ≠ wSUBJECT
theorem own_pn_0 : plainName "com/example/quadrille/quadrille/graphfilter/PatternKindKeepingPinLaw" = true := by first | (simp [plainName, overriddenIn]; done) | decide +kernel
theorem own_ef_0_I (m : MethodId) (x0 : Int32) : entryFrame m #[(.int x0)] maxLocals = mkF m 0 #[.val (.int x0), .unset, .unset, .unset, .unset] [] := by first | (simp [entryFrame, mkF, argsToLocals, Value.category, maxLocals]; done) | rfl
theorem own_pn_1 : plainName "com/example/quadrille/quadrille/graphfilter/PatternKind" = true := by first | (simp [plainName, overriddenIn]; done) | decide +kernel
theorem own_ef_1_III (m : MethodId) (x0 : Int32) (x1 : Int32) (x2 : Int32) : entryFrame m #[(.int x0), (.int x1), (.int x2)] 8 = mkF m 0 #[.val (.int x0), .val (.int x1), .val (.int x2), .unset, .unset, .unset, .unset, .unset] [] := by first | (simp [entryFrame, mkF, argsToLocals, Value.category]; done) | rfl
theorem own_d1_0 : decode prog_67_method_4_code 0 = .ok (.aconst_null, 1) := by decide +kernel
theorem own_d1_1 : decode prog_67_method_4_code 1 = .ok (.astore_n 3, 1) := by decide +kernel
theorem own_d1_2 : decode prog_67_method_4_code 2 = .ok (.getstatic 54, 3) := by decide +kernel
theorem own_d1_5 : decode prog_67_method_4_code 5 = .ok (.astore 4, 2) := by decide +kernel
theorem own_d1_7 : decode prog_67_method_4_code 7 = .ok (.aload 4, 2) := by decide +kernel
theorem own_d1_9 : decode prog_67_method_4_code 9 = .ok (.arraylength, 1) := by decide +kernel
theorem own_d1_10 : decode prog_67_method_4_code 10 = .ok (.istore 5, 2) := by decide +kernel
theorem own_d1_12 : decode prog_67_method_4_code 12 = .ok (.iconst 0, 1) := by decide +kernel
theorem own_d1_13 : decode prog_67_method_4_code 13 = .ok (.istore 6, 2) := by decide +kernel
theorem own_d1_15 : decode prog_67_method_4_code 15 = .ok (.iload 6, 2) := by decide +kernel
theorem own_d1_17 : decode prog_67_method_4_code 17 = .ok (.iload 5, 2) := by decide +kernel
theorem own_d1_19 : decode prog_67_method_4_code 19 = .ok (.if_icmp .ge 46, 3) := by decide +kernel
theorem own_d1_22 : decode prog_67_method_4_code 22 = .ok (.aload 4, 2) := by decide +kernel
theorem own_d1_24 : decode prog_67_method_4_code 24 = .ok (.iload 6, 2) := by decide +kernel
theorem own_d1_26 : decode prog_67_method_4_code 26 = .ok (.aaload, 1) := by decide +kernel
theorem own_d1_27 : decode prog_67_method_4_code 27 = .ok (.astore 7, 2) := by decide +kernel
theorem own_d1_29 : decode prog_67_method_4_code 29 = .ok (.aload 7, 2) := by decide +kernel
theorem own_d1_31 : decode prog_67_method_4_code 31 = .ok (.getfield 44, 3) := by decide +kernel
theorem own_d1_34 : decode prog_67_method_4_code 34 = .ok (.iload_n 0, 1) := by decide +kernel
theorem own_d1_35 : decode prog_67_method_4_code 35 = .ok (.if_icmp .ne 24, 3) := by decide +kernel
theorem own_d1_38 : decode prog_67_method_4_code 38 = .ok (.aload 7, 2) := by decide +kernel
theorem own_d1_40 : decode prog_67_method_4_code 40 = .ok (.getfield 48, 3) := by decide +kernel
theorem own_d1_43 : decode prog_67_method_4_code 43 = .ok (.iload_n 1, 1) := by decide +kernel
theorem own_d1_44 : decode prog_67_method_4_code 44 = .ok (.if_icmp .ne 15, 3) := by decide +kernel
theorem own_d1_47 : decode prog_67_method_4_code 47 = .ok (.aload 7, 2) := by decide +kernel
theorem own_d1_49 : decode prog_67_method_4_code 49 = .ok (.getfield 51, 3) := by decide +kernel
theorem own_d1_52 : decode prog_67_method_4_code 52 = .ok (.iload_n 2, 1) := by decide +kernel
theorem own_d1_53 : decode prog_67_method_4_code 53 = .ok (.if_icmp .ne 6, 3) := by decide +kernel
theorem own_d1_59 : decode prog_67_method_4_code 59 = .ok (.iinc 6 1, 3) := by decide +kernel
theorem own_d1_62 : decode prog_67_method_4_code 62 = .ok (.goto (-47), 3) := by decide +kernel
theorem own_d1_65 : decode prog_67_method_4_code 65 = .ok (.aload_n 3, 1) := by decide +kernel
theorem own_d1_66 : decode prog_67_method_4_code 66 = .ok (.areturn, 1) := by decide +kernel
set_option maxRecDepth 65536 in
set_option maxHeartbeats 40000000 in
theorem own_keeping_0 (l : Launch) (Z : State) (a0 : Array Value) (hw : ∀ d ∈ tables_1, d.before a0 Z = true) (ws : List Jvm.Cond) (wKINDS : Addr) (wSUBJECT_PREDICATE_OBJECT : Addr) (wSUBJECT_PREDICATE : Addr) (wSUBJECT_OBJECT : Addr) (wPREDICATE_OBJECT : Addr) (wSUBJECT : Addr) (wPREDICATE : Addr) (wOBJECT : Addr) (kKINDS : ClassId) (G : OwnG Z wKINDS wSUBJECT_PREDICATE_OBJECT wSUBJECT_PREDICATE wSUBJECT_OBJECT wPREDICATE_OBJECT wSUBJECT wPREDICATE wOBJECT kKINDS) (h0 : Heap) (n0 : Nat) (O0 : Old Z n0 h0) :
    MetFree l (⟨"com/example/quadrille/quadrille/graphfilter/PatternKind", "keeping", "(ZZZ)Lcom/example/quadrille/quadrille/graphfilter/PatternKind;"⟩ : MethodName) (head1 (Jvm.Cond.code (⟨"com/example/quadrille/quadrille/graphfilter/PatternKind", "keeping", "(ZZZ)Lcom/example/quadrille/quadrille/graphfilter/PatternKind;"⟩ : MethodName) prog_67_method_4_code 8 (some (.object "com/example/quadrille/quadrille/graphfilter/PatternKind")) :: ws) ({ frames := 0, cells := 0, slots := 0, locals := 0 } : Room)) (fun a U => a = #[(.int (0 : Int32)), (.int (0 : Int32)), (.int (0 : Int32))] ∧ Z.Warmed39 U.vm ∧ U.heap = h0) (fun _ _ _ _ _ => True) (fun _ U o U' => ∃ v L, o = .returned v ∧ OwnQ (some .null) h0 n0 v U'.heap L ∧ FrameEnd U o U' L ({ frames := 0, cells := 0, slots := 0, locals := 0 } : Room).cells ({ frames := 0, cells := 0, slots := 0, locals := 0 } : Room).slots) := by
  refine MetFree.of_bodySF (plainFor_of_name own_pn_1) hisR ?_
  intro p e s m args below meth c s₁ Bd hml0 hP hK
  obtain ⟨rfl, hZ, hh⟩ := hP
  have hx := Bd.exec
  have hby := Bd.bytes
  have hml : c.maxLocals = 8 := hml0
  have hown : s.vm.findClass "com/example/quadrille/quadrille/graphfilter/PatternKind" = some m.cls := findClass_of_methodNamed Bd.named
  have hnm := (name_of_methodNamed Bd.named Bd.method).1
  have X0 : Stand p l e ({ frames := 0, cells := 0, slots := 0, locals := 0 } : Room) s m #[(.int (0 : Int32)), (.int (0 : Int32)), (.int (0 : Int32))] below meth c s₁ [] 0 0 := Stand.of_body Bd
  have e0 : s₁.heap = h0 := by rw [← hh, Bd.state]; rfl
  have N0 := Fr.nil n0
  have pre0 : ∀ t, Steps p.tables e below (s₁.setTop (mkF m 0 #[.val (.int (0 : Int32)), .val (.int (0 : Int32)), .val (.int (0 : Int32)), .unset, .unset, .unset, .unset, .unset] [])) t → Steps p.tables e below (s₁.setTop (entryFrame m #[(.int (0 : Int32)), (.int (0 : Int32)), (.int (0 : Int32))] 8)) t := fun t k => castTop (own_ef_1_III m (0 : Int32) (0 : Int32) (0 : Int32)) k
  obtain ⟨T1, X1, e1, st1⟩ := getS2 X0 hx hZ hown (host := "") (Or.inl (hw _ (List.mem_of_getElem? (i := 4) rfl))) Via.refl e0 (G.1.ext O0.2) (g := (mkF m 2 #[.val (.int (0 : Int32)), .val (.int (0 : Int32)), .val (.int (0 : Int32)), .val .null, .unset, .unset, .unset, .unset] [])) rfl (hb hby own_d1_2)
  obtain ⟨cl2, Ar2, qk2, Sz2, Nn2, Hs2, Gs2⟩ := id ((G.2.2.2.2.2.2.2.2.2.2.2.2.2.2.2.2.2.2.2.2.2.2.2.2.2.2.2.2.2.2.2.2.2.2.2.2.1.ext O0.2))
  have hin3 : ¬ ((0 : Int32) < 0 ∨ cl2.slots.size ≤ ((0 : Int32)).toNatClampNeg) := inb_of Sz2 ⟨by decide, by decide⟩
  have hat3 : cl2.slots[((0 : Int32)).toNatClampNeg]? = some (.ref wSUBJECT_PREDICATE_OBJECT) := Hs2.at hin3 rfl
  obtain ⟨T4, X4, e4, st4⟩ := getF X1 hx hZ hown (host := "") (Or.inl (hw _ (List.mem_of_getElem? (i := 7) rfl))) Via.refl e1 (G.2.2.2.2.2.2.2.2.2.2.2.2.2.2.2.1.ext O0.2) (g := (mkF m 31 #[.val (.int (0 : Int32)), .val (.int (0 : Int32)), .val (.int (0 : Int32)), .val .null, .val (.ref wKINDS), .val (.int (7 : Int32)), .val (.int (0 : Int32)), .val (.ref wSUBJECT_PREDICATE_OBJECT)] [(.ref wSUBJECT_PREDICATE_OBJECT)])) rfl rfl (hb hby own_d1_31)
  have hin5 : ¬ ((1 : Int32) < 0 ∨ cl2.slots.size ≤ ((1 : Int32)).toNatClampNeg) := inb_of Sz2 ⟨by decide, by decide⟩
  have hat5 : cl2.slots[((1 : Int32)).toNatClampNeg]? = some (.ref wSUBJECT_PREDICATE) := Hs2.at hin5 rfl
  obtain ⟨T6, X6, e6, st6⟩ := getF X4 hx hZ hown (host := "") (Or.inl (hw _ (List.mem_of_getElem? (i := 7) rfl))) Via.refl e4 (G.2.2.2.2.2.2.2.2.2.2.2.2.2.2.2.2.1.ext O0.2) (g := (mkF m 31 #[.val (.int (0 : Int32)), .val (.int (0 : Int32)), .val (.int (0 : Int32)), .val .null, .val (.ref wKINDS), .val (.int (7 : Int32)), .val (.int (1 : Int32)), .val (.ref wSUBJECT_PREDICATE)] [(.ref wSUBJECT_PREDICATE)])) rfl rfl (hb hby own_d1_31)
  have hin7 : ¬ ((2 : Int32) < 0 ∨ cl2.slots.size ≤ ((2 : Int32)).toNatClampNeg) := inb_of Sz2 ⟨by decide, by decide⟩
  have hat7 : cl2.slots[((2 : Int32)).toNatClampNeg]? = some (.ref wSUBJECT_OBJECT) := Hs2.at hin7 rfl
  obtain ⟨T8, X8, e8, st8⟩ := getF X6 hx hZ hown (host := "") (Or.inl (hw _ (List.mem_of_getElem? (i := 7) rfl))) Via.refl e6 (G.2.2.2.2.2.2.2.2.2.2.2.2.2.2.2.2.2.1.ext O0.2) (g := (mkF m 31 #[.val (.int (0 : Int32)), .val (.int (0 : Int32)), .val (.int (0 : Int32)), .val .null, .val (.ref wKINDS), .val (.int (7 : Int32)), .val (.int (2 : Int32)), .val (.ref wSUBJECT_OBJECT)] [(.ref wSUBJECT_OBJECT)])) rfl rfl (hb hby own_d1_31)
  have hin9 : ¬ ((3 : Int32) < 0 ∨ cl2.slots.size ≤ ((3 : Int32)).toNatClampNeg) := inb_of Sz2 ⟨by decide, by decide⟩
  have hat9 : cl2.slots[((3 : Int32)).toNatClampNeg]? = some (.ref wPREDICATE_OBJECT) := Hs2.at hin9 rfl
  obtain ⟨T10, X10, e10, st10⟩ := getF X8 hx hZ hown (host := "") (Or.inl (hw _ (List.mem_of_getElem? (i := 7) rfl))) Via.refl e8 (G.2.2.2.2.2.2.2.2.2.2.2.2.2.2.2.2.2.2.1.ext O0.2) (g := (mkF m 31 #[.val (.int (0 : Int32)), .val (.int (0 : Int32)), .val (.int (0 : Int32)), .val .null, .val (.ref wKINDS), .val (.int (7 : Int32)), .val (.int (3 : Int32)), .val (.ref wPREDICATE_OBJECT)] [(.ref wPREDICATE_OBJECT)])) rfl rfl (hb hby own_d1_31)
  obtain ⟨T11, X11, e11, st11⟩ := getF X10 hx hZ hown (host := "") (Or.inl (hw _ (List.mem_of_getElem? (i := 12) rfl))) Via.refl e10 (G.2.2.2.2.2.2.2.2.2.2.2.2.2.2.2.2.2.2.2.1.ext O0.2) (g := (mkF m 40 #[.val (.int (0 : Int32)), .val (.int (0 : Int32)), .val (.int (0 : Int32)), .val .null, .val (.ref wKINDS), .val (.int (7 : Int32)), .val (.int (3 : Int32)), .val (.ref wPREDICATE_OBJECT)] [(.ref wPREDICATE_OBJECT)])) rfl rfl (hb hby own_d1_40)
  have hin12 : ¬ ((4 : Int32) < 0 ∨ cl2.slots.size ≤ ((4 : Int32)).toNatClampNeg) := inb_of Sz2 ⟨by decide, by decide⟩
  have hat12 : cl2.slots[((4 : Int32)).toNatClampNeg]? = some (.ref wSUBJECT) := Hs2.at hin12 rfl
  obtain ⟨T13, X13, e13, st13⟩ := getF X11 hx hZ hown (host := "") (Or.inl (hw _ (List.mem_of_getElem? (i := 7) rfl))) Via.refl e11 (G.2.2.2.2.2.2.2.2.2.2.2.2.2.2.2.2.2.2.2.2.1.ext O0.2) (g := (mkF m 31 #[.val (.int (0 : Int32)), .val (.int (0 : Int32)), .val (.int (0 : Int32)), .val .null, .val (.ref wKINDS), .val (.int (7 : Int32)), .val (.int (4 : Int32)), .val (.ref wSUBJECT)] [(.ref wSUBJECT)])) rfl rfl (hb hby own_d1_31)
  have hin14 : ¬ ((5 : Int32) < 0 ∨ cl2.slots.size ≤ ((5 : Int32)).toNatClampNeg) := inb_of Sz2 ⟨by decide, by decide⟩
  have hat14 : cl2.slots[((5 : Int32)).toNatClampNeg]? = some (.ref wPREDICATE) := Hs2.at hin14 rfl
  obtain ⟨T15, X15, e15, st15⟩ := getF X13 hx hZ hown (host := "") (Or.inl (hw _ (List.mem_of_getElem? (i := 7) rfl))) Via.refl e13 (G.2.2.2.2.2.2.2.2.2.2.2.2.2.2.2.2.2.2.2.2.2.1.ext O0.2) (g := (mkF m 31 #[.val (.int (0 : Int32)), .val (.int (0 : Int32)), .val (.int (0 : Int32)), .val .null, .val (.ref wKINDS), .val (.int (7 : Int32)), .val (.int (5 : Int32)), .val (.ref wPREDICATE)] [(.ref wPREDICATE)])) rfl rfl (hb hby own_d1_31)
  obtain ⟨T16, X16, e16, st16⟩ := getF X15 hx hZ hown (host := "") (Or.inl (hw _ (List.mem_of_getElem? (i := 12) rfl))) Via.refl e15 (G.2.2.2.2.2.2.2.2.2.2.2.2.2.2.2.2.2.2.2.2.2.2.1.ext O0.2) (g := (mkF m 40 #[.val (.int (0 : Int32)), .val (.int (0 : Int32)), .val (.int (0 : Int32)), .val .null, .val (.ref wKINDS), .val (.int (7 : Int32)), .val (.int (5 : Int32)), .val (.ref wPREDICATE)] [(.ref wPREDICATE)])) rfl rfl (hb hby own_d1_40)
  have hin17 : ¬ ((6 : Int32) < 0 ∨ cl2.slots.size ≤ ((6 : Int32)).toNatClampNeg) := inb_of Sz2 ⟨by decide, by decide⟩
  have hat17 : cl2.slots[((6 : Int32)).toNatClampNeg]? = some (.ref wOBJECT) := Hs2.at hin17 rfl
  obtain ⟨T18, X18, e18, st18⟩ := getF X16 hx hZ hown (host := "") (Or.inl (hw _ (List.mem_of_getElem? (i := 7) rfl))) Via.refl e16 (G.2.2.2.2.2.2.2.2.2.2.2.2.2.2.2.2.2.2.2.2.2.2.2.1.ext O0.2) (g := (mkF m 31 #[.val (.int (0 : Int32)), .val (.int (0 : Int32)), .val (.int (0 : Int32)), .val .null, .val (.ref wKINDS), .val (.int (7 : Int32)), .val (.int (6 : Int32)), .val (.ref wOBJECT)] [(.ref wOBJECT)])) rfl rfl (hb hby own_d1_31)
  obtain ⟨T19, X19, e19, st19⟩ := getF X18 hx hZ hown (host := "") (Or.inl (hw _ (List.mem_of_getElem? (i := 12) rfl))) Via.refl e18 (G.2.2.2.2.2.2.2.2.2.2.2.2.2.2.2.2.2.2.2.2.2.2.2.2.1.ext O0.2) (g := (mkF m 40 #[.val (.int (0 : Int32)), .val (.int (0 : Int32)), .val (.int (0 : Int32)), .val .null, .val (.ref wKINDS), .val (.int (7 : Int32)), .val (.int (6 : Int32)), .val (.ref wOBJECT)] [(.ref wOBJECT)])) rfl rfl (hb hby own_d1_40)
  obtain ⟨T20, X20, e20, st20⟩ := getF X19 hx hZ hown (host := "") (Or.inl (hw _ (List.mem_of_getElem? (i := 17) rfl))) Via.refl e19 (G.2.2.2.2.2.2.2.2.2.2.2.2.2.2.2.2.2.2.2.2.2.2.2.2.2.1.ext O0.2) (g := (mkF m 49 #[.val (.int (0 : Int32)), .val (.int (0 : Int32)), .val (.int (0 : Int32)), .val .null, .val (.ref wKINDS), .val (.int (7 : Int32)), .val (.int (6 : Int32)), .val (.ref wOBJECT)] [(.ref wOBJECT)])) rfl rfl (hb hby own_d1_49)
  obtain ⟨fs, hr, hrun, hended, hW, hsame⟩ := X20.leave (v := some .null) (fun h => by rw [Bd.returns] at h; cases h)
  refine ⟨_, _, pre0 _ ?_, hrun, hended, _, _, rfl, ?_, ⟨_, rfl⟩, hW, hsame.mono (by decide) (by decide)⟩
  · show Steps p.tables e below (s₁.setTop (mkF m 0 #[.val (.int (0 : Int32)), .val (.int (0 : Int32)), .val (.int (0 : Int32)), .unset, .unset, .unset, .unset, .unset] [])) _
    refine XS.aconstNull X0.here hx rfl (hb hby own_d1_0) ?_
    show Steps p.tables e below (s₁.setTop (mkF m 1 #[.val (.int (0 : Int32)), .val (.int (0 : Int32)), .val (.int (0 : Int32)), .unset, .unset, .unset, .unset, .unset] [.null])) _
    refine XS.astoreN X0.here hx rfl (hb hby own_d1_1) rfl rfl (l' := #[.val (.int (0 : Int32)), .val (.int (0 : Int32)), .val (.int (0 : Int32)), .val .null, .unset, .unset, .unset, .unset]) rfl ?_
    show Steps p.tables e below (s₁.setTop (mkF m 2 #[.val (.int (0 : Int32)), .val (.int (0 : Int32)), .val (.int (0 : Int32)), .val .null, .unset, .unset, .unset, .unset] [])) _
    refine st1 _ ?_
    show Steps p.tables e below (T1.setTop (mkF m 5 #[.val (.int (0 : Int32)), .val (.int (0 : Int32)), .val (.int (0 : Int32)), .val .null, .unset, .unset, .unset, .unset] [(.ref wKINDS)])) _
    refine XS.astore X1.here hx rfl (hb hby own_d1_5) rfl rfl (l' := #[.val (.int (0 : Int32)), .val (.int (0 : Int32)), .val (.int (0 : Int32)), .val .null, .val (.ref wKINDS), .unset, .unset, .unset]) rfl ?_
    show Steps p.tables e below (T1.setTop (mkF m 7 #[.val (.int (0 : Int32)), .val (.int (0 : Int32)), .val (.int (0 : Int32)), .val .null, .val (.ref wKINDS), .unset, .unset, .unset] [])) _
    refine XS.aload X1.here hx rfl (hb hby own_d1_7) rfl rfl ?_
    show Steps p.tables e below (T1.setTop (mkF m 9 #[.val (.int (0 : Int32)), .val (.int (0 : Int32)), .val (.int (0 : Int32)), .val .null, .val (.ref wKINDS), .unset, .unset, .unset] [(.ref wKINDS)])) _
    refine X1.arraylength hx (by rw [e1]; exact Ar2.1) (State.isArrayOf_alike hZ.alike Ar2.2.1) (g := (mkF m 9 #[.val (.int (0 : Int32)), .val (.int (0 : Int32)), .val (.int (0 : Int32)), .val .null, .val (.ref wKINDS), .unset, .unset, .unset] [(.ref wKINDS)])) rfl rfl (hb hby own_d1_9) _ ?_
    rw [len_of Sz2 Nn2]
    show Steps p.tables e below (T1.setTop (mkF m 10 #[.val (.int (0 : Int32)), .val (.int (0 : Int32)), .val (.int (0 : Int32)), .val .null, .val (.ref wKINDS), .unset, .unset, .unset] [(.int (7 : Int32))])) _
    refine XS.istore X1.here hx rfl (hb hby own_d1_10) rfl (l' := #[.val (.int (0 : Int32)), .val (.int (0 : Int32)), .val (.int (0 : Int32)), .val .null, .val (.ref wKINDS), .val (.int (7 : Int32)), .unset, .unset]) rfl ?_
    show Steps p.tables e below (T1.setTop (mkF m 12 #[.val (.int (0 : Int32)), .val (.int (0 : Int32)), .val (.int (0 : Int32)), .val .null, .val (.ref wKINDS), .val (.int (7 : Int32)), .unset, .unset] [])) _
    refine XS.iconst X1.here hx rfl (hb hby own_d1_12) ?_
    show Steps p.tables e below (T1.setTop (mkF m 13 #[.val (.int (0 : Int32)), .val (.int (0 : Int32)), .val (.int (0 : Int32)), .val .null, .val (.ref wKINDS), .val (.int (7 : Int32)), .unset, .unset] [(.int (0 : Int32))])) _
    refine XS.istore X1.here hx rfl (hb hby own_d1_13) rfl (l' := #[.val (.int (0 : Int32)), .val (.int (0 : Int32)), .val (.int (0 : Int32)), .val .null, .val (.ref wKINDS), .val (.int (7 : Int32)), .val (.int (0 : Int32)), .unset]) rfl ?_
    show Steps p.tables e below (T1.setTop (mkF m 15 #[.val (.int (0 : Int32)), .val (.int (0 : Int32)), .val (.int (0 : Int32)), .val .null, .val (.ref wKINDS), .val (.int (7 : Int32)), .val (.int (0 : Int32)), .unset] [])) _
    refine XS.iload X1.here hx rfl (hb hby own_d1_15) rfl ?_
    show Steps p.tables e below (T1.setTop (mkF m 17 #[.val (.int (0 : Int32)), .val (.int (0 : Int32)), .val (.int (0 : Int32)), .val .null, .val (.ref wKINDS), .val (.int (7 : Int32)), .val (.int (0 : Int32)), .unset] [(.int (0 : Int32))])) _
    refine XS.iload X1.here hx rfl (hb hby own_d1_17) rfl ?_
    show Steps p.tables e below (T1.setTop (mkF m 19 #[.val (.int (0 : Int32)), .val (.int (0 : Int32)), .val (.int (0 : Int32)), .val .null, .val (.ref wKINDS), .val (.int (7 : Int32)), .val (.int (0 : Int32)), .unset] [(.int (7 : Int32)), (.int (0 : Int32))])) _
    refine XS.icmpNo X1.here hx rfl (hb hby own_d1_19) rfl (by decide) ?_
    show Steps p.tables e below (T1.setTop (mkF m 22 #[.val (.int (0 : Int32)), .val (.int (0 : Int32)), .val (.int (0 : Int32)), .val .null, .val (.ref wKINDS), .val (.int (7 : Int32)), .val (.int (0 : Int32)), .unset] [])) _
    refine XS.aload X1.here hx rfl (hb hby own_d1_22) rfl rfl ?_
    show Steps p.tables e below (T1.setTop (mkF m 24 #[.val (.int (0 : Int32)), .val (.int (0 : Int32)), .val (.int (0 : Int32)), .val .null, .val (.ref wKINDS), .val (.int (7 : Int32)), .val (.int (0 : Int32)), .unset] [(.ref wKINDS)])) _
    refine XS.iload X1.here hx rfl (hb hby own_d1_24) rfl ?_
    show Steps p.tables e below (T1.setTop (mkF m 26 #[.val (.int (0 : Int32)), .val (.int (0 : Int32)), .val (.int (0 : Int32)), .val .null, .val (.ref wKINDS), .val (.int (7 : Int32)), .val (.int (0 : Int32)), .unset] [(.int (0 : Int32)), (.ref wKINDS)])) _
    refine X1.aaload hx (j := (0 : Int32)) (v := (.ref wSUBJECT_PREDICATE_OBJECT)) (by rw [e1]; exact Ar2.1) (State.isArrayOf_alike hZ.alike Ar2.2.1) rfl Ar2.2.2 hin3 hat3 (g := (mkF m 26 #[.val (.int (0 : Int32)), .val (.int (0 : Int32)), .val (.int (0 : Int32)), .val .null, .val (.ref wKINDS), .val (.int (7 : Int32)), .val (.int (0 : Int32)), .unset] [(.int (0 : Int32)), (.ref wKINDS)])) rfl rfl (hb hby own_d1_26) _ ?_
    show Steps p.tables e below (T1.setTop (mkF m 27 #[.val (.int (0 : Int32)), .val (.int (0 : Int32)), .val (.int (0 : Int32)), .val .null, .val (.ref wKINDS), .val (.int (7 : Int32)), .val (.int (0 : Int32)), .unset] [(.ref wSUBJECT_PREDICATE_OBJECT)])) _
    refine XS.astore X1.here hx rfl (hb hby own_d1_27) rfl rfl (l' := #[.val (.int (0 : Int32)), .val (.int (0 : Int32)), .val (.int (0 : Int32)), .val .null, .val (.ref wKINDS), .val (.int (7 : Int32)), .val (.int (0 : Int32)), .val (.ref wSUBJECT_PREDICATE_OBJECT)]) rfl ?_
    show Steps p.tables e below (T1.setTop (mkF m 29 #[.val (.int (0 : Int32)), .val (.int (0 : Int32)), .val (.int (0 : Int32)), .val .null, .val (.ref wKINDS), .val (.int (7 : Int32)), .val (.int (0 : Int32)), .val (.ref wSUBJECT_PREDICATE_OBJECT)] [])) _
    refine XS.aload X1.here hx rfl (hb hby own_d1_29) rfl rfl ?_
    show Steps p.tables e below (T1.setTop (mkF m 31 #[.val (.int (0 : Int32)), .val (.int (0 : Int32)), .val (.int (0 : Int32)), .val .null, .val (.ref wKINDS), .val (.int (7 : Int32)), .val (.int (0 : Int32)), .val (.ref wSUBJECT_PREDICATE_OBJECT)] [(.ref wSUBJECT_PREDICATE_OBJECT)])) _
    refine st4 _ ?_
    show Steps p.tables e below (T4.setTop (mkF m 34 #[.val (.int (0 : Int32)), .val (.int (0 : Int32)), .val (.int (0 : Int32)), .val .null, .val (.ref wKINDS), .val (.int (7 : Int32)), .val (.int (0 : Int32)), .val (.ref wSUBJECT_PREDICATE_OBJECT)] [(.int (1 : Int32))])) _
    refine XS.iloadN X4.here hx rfl (hb hby own_d1_34) rfl ?_
    show Steps p.tables e below (T4.setTop (mkF m 35 #[.val (.int (0 : Int32)), .val (.int (0 : Int32)), .val (.int (0 : Int32)), .val .null, .val (.ref wKINDS), .val (.int (7 : Int32)), .val (.int (0 : Int32)), .val (.ref wSUBJECT_PREDICATE_OBJECT)] [(.int (0 : Int32)), (.int (1 : Int32))])) _
    refine XS.icmpYes X4.here hx rfl (pc0 := 35) (pc' := 59) rfl (hb hby own_d1_35) rfl (by decide) (by decide) (by decide) ?_
    show Steps p.tables e below (T4.setTop (mkF m 59 #[.val (.int (0 : Int32)), .val (.int (0 : Int32)), .val (.int (0 : Int32)), .val .null, .val (.ref wKINDS), .val (.int (7 : Int32)), .val (.int (0 : Int32)), .val (.ref wSUBJECT_PREDICATE_OBJECT)] [])) _
    refine XS.iinc X4.here hx rfl (hb hby own_d1_59) rfl (l' := #[.val (.int (0 : Int32)), .val (.int (0 : Int32)), .val (.int (0 : Int32)), .val .null, .val (.ref wKINDS), .val (.int (7 : Int32)), .val (.int (1 : Int32)), .val (.ref wSUBJECT_PREDICATE_OBJECT)]) rfl ?_
    show Steps p.tables e below (T4.setTop (mkF m 62 #[.val (.int (0 : Int32)), .val (.int (0 : Int32)), .val (.int (0 : Int32)), .val .null, .val (.ref wKINDS), .val (.int (7 : Int32)), .val (.int (1 : Int32)), .val (.ref wSUBJECT_PREDICATE_OBJECT)] [])) _
    refine XS.goto X4.here hx rfl (pc0 := 62) (pc' := 15) rfl (hb hby own_d1_62) (by decide) (by decide) ?_
    show Steps p.tables e below (T4.setTop (mkF m 15 #[.val (.int (0 : Int32)), .val (.int (0 : Int32)), .val (.int (0 : Int32)), .val .null, .val (.ref wKINDS), .val (.int (7 : Int32)), .val (.int (1 : Int32)), .val (.ref wSUBJECT_PREDICATE_OBJECT)] [])) _
    refine XS.iload X4.here hx rfl (hb hby own_d1_15) rfl ?_
    show Steps p.tables e below (T4.setTop (mkF m 17 #[.val (.int (0 : Int32)), .val (.int (0 : Int32)), .val (.int (0 : Int32)), .val .null, .val (.ref wKINDS), .val (.int (7 : Int32)), .val (.int (1 : Int32)), .val (.ref wSUBJECT_PREDICATE_OBJECT)] [(.int (1 : Int32))])) _
    refine XS.iload X4.here hx rfl (hb hby own_d1_17) rfl ?_
    show Steps p.tables e below (T4.setTop (mkF m 19 #[.val (.int (0 : Int32)), .val (.int (0 : Int32)), .val (.int (0 : Int32)), .val .null, .val (.ref wKINDS), .val (.int (7 : Int32)), .val (.int (1 : Int32)), .val (.ref wSUBJECT_PREDICATE_OBJECT)] [(.int (7 : Int32)), (.int (1 : Int32))])) _
    refine XS.icmpNo X4.here hx rfl (hb hby own_d1_19) rfl (by decide) ?_
    show Steps p.tables e below (T4.setTop (mkF m 22 #[.val (.int (0 : Int32)), .val (.int (0 : Int32)), .val (.int (0 : Int32)), .val .null, .val (.ref wKINDS), .val (.int (7 : Int32)), .val (.int (1 : Int32)), .val (.ref wSUBJECT_PREDICATE_OBJECT)] [])) _
    refine XS.aload X4.here hx rfl (hb hby own_d1_22) rfl rfl ?_
    show Steps p.tables e below (T4.setTop (mkF m 24 #[.val (.int (0 : Int32)), .val (.int (0 : Int32)), .val (.int (0 : Int32)), .val .null, .val (.ref wKINDS), .val (.int (7 : Int32)), .val (.int (1 : Int32)), .val (.ref wSUBJECT_PREDICATE_OBJECT)] [(.ref wKINDS)])) _
    refine XS.iload X4.here hx rfl (hb hby own_d1_24) rfl ?_
    show Steps p.tables e below (T4.setTop (mkF m 26 #[.val (.int (0 : Int32)), .val (.int (0 : Int32)), .val (.int (0 : Int32)), .val .null, .val (.ref wKINDS), .val (.int (7 : Int32)), .val (.int (1 : Int32)), .val (.ref wSUBJECT_PREDICATE_OBJECT)] [(.int (1 : Int32)), (.ref wKINDS)])) _
    refine X4.aaload hx (j := (1 : Int32)) (v := (.ref wSUBJECT_PREDICATE)) (by rw [e4]; exact Ar2.1) (State.isArrayOf_alike hZ.alike Ar2.2.1) rfl Ar2.2.2 hin5 hat5 (g := (mkF m 26 #[.val (.int (0 : Int32)), .val (.int (0 : Int32)), .val (.int (0 : Int32)), .val .null, .val (.ref wKINDS), .val (.int (7 : Int32)), .val (.int (1 : Int32)), .val (.ref wSUBJECT_PREDICATE_OBJECT)] [(.int (1 : Int32)), (.ref wKINDS)])) rfl rfl (hb hby own_d1_26) _ ?_
    show Steps p.tables e below (T4.setTop (mkF m 27 #[.val (.int (0 : Int32)), .val (.int (0 : Int32)), .val (.int (0 : Int32)), .val .null, .val (.ref wKINDS), .val (.int (7 : Int32)), .val (.int (1 : Int32)), .val (.ref wSUBJECT_PREDICATE_OBJECT)] [(.ref wSUBJECT_PREDICATE)])) _
    refine XS.astore X4.here hx rfl (hb hby own_d1_27) rfl rfl (l' := #[.val (.int (0 : Int32)), .val (.int (0 : Int32)), .val (.int (0 : Int32)), .val .null, .val (.ref wKINDS), .val (.int (7 : Int32)), .val (.int (1 : Int32)), .val (.ref wSUBJECT_PREDICATE)]) rfl ?_
    show Steps p.tables e below (T4.setTop (mkF m 29 #[.val (.int (0 : Int32)), .val (.int (0 : Int32)), .val (.int (0 : Int32)), .val .null, .val (.ref wKINDS), .val (.int (7 : Int32)), .val (.int (1 : Int32)), .val (.ref wSUBJECT_PREDICATE)] [])) _
    refine XS.aload X4.here hx rfl (hb hby own_d1_29) rfl rfl ?_
    show Steps p.tables e below (T4.setTop (mkF m 31 #[.val (.int (0 : Int32)), .val (.int (0 : Int32)), .val (.int (0 : Int32)), .val .null, .val (.ref wKINDS), .val (.int (7 : Int32)), .val (.int (1 : Int32)), .val (.ref wSUBJECT_PREDICATE)] [(.ref wSUBJECT_PREDICATE)])) _
    refine st6 _ ?_
    show Steps p.tables e below (T6.setTop (mkF m 34 #[.val (.int (0 : Int32)), .val (.int (0 : Int32)), .val (.int (0 : Int32)), .val .null, .val (.ref wKINDS), .val (.int (7 : Int32)), .val (.int (1 : Int32)), .val (.ref wSUBJECT_PREDICATE)] [(.int (1 : Int32))])) _
    refine XS.iloadN X6.here hx rfl (hb hby own_d1_34) rfl ?_
    show Steps p.tables e below (T6.setTop (mkF m 35 #[.val (.int (0 : Int32)), .val (.int (0 : Int32)), .val (.int (0 : Int32)), .val .null, .val (.ref wKINDS), .val (.int (7 : Int32)), .val (.int (1 : Int32)), .val (.ref wSUBJECT_PREDICATE)] [(.int (0 : Int32)), (.int (1 : Int32))])) _
    refine XS.icmpYes X6.here hx rfl (pc0 := 35) (pc' := 59) rfl (hb hby own_d1_35) rfl (by decide) (by decide) (by decide) ?_
    show Steps p.tables e below (T6.setTop (mkF m 59 #[.val (.int (0 : Int32)), .val (.int (0 : Int32)), .val (.int (0 : Int32)), .val .null, .val (.ref wKINDS), .val (.int (7 : Int32)), .val (.int (1 : Int32)), .val (.ref wSUBJECT_PREDICATE)] [])) _
    refine XS.iinc X6.here hx rfl (hb hby own_d1_59) rfl (l' := #[.val (.int (0 : Int32)), .val (.int (0 : Int32)), .val (.int (0 : Int32)), .val .null, .val (.ref wKINDS), .val (.int (7 : Int32)), .val (.int (2 : Int32)), .val (.ref wSUBJECT_PREDICATE)]) rfl ?_
    show Steps p.tables e below (T6.setTop (mkF m 62 #[.val (.int (0 : Int32)), .val (.int (0 : Int32)), .val (.int (0 : Int32)), .val .null, .val (.ref wKINDS), .val (.int (7 : Int32)), .val (.int (2 : Int32)), .val (.ref wSUBJECT_PREDICATE)] [])) _
    refine XS.goto X6.here hx rfl (pc0 := 62) (pc' := 15) rfl (hb hby own_d1_62) (by decide) (by decide) ?_
    show Steps p.tables e below (T6.setTop (mkF m 15 #[.val (.int (0 : Int32)), .val (.int (0 : Int32)), .val (.int (0 : Int32)), .val .null, .val (.ref wKINDS), .val (.int (7 : Int32)), .val (.int (2 : Int32)), .val (.ref wSUBJECT_PREDICATE)] [])) _
    refine XS.iload X6.here hx rfl (hb hby own_d1_15) rfl ?_
    show Steps p.tables e below (T6.setTop (mkF m 17 #[.val (.int (0 : Int32)), .val (.int (0 : Int32)), .val (.int (0 : Int32)), .val .null, .val (.ref wKINDS), .val (.int (7 : Int32)), .val (.int (2 : Int32)), .val (.ref wSUBJECT_PREDICATE)] [(.int (2 : Int32))])) _
    refine XS.iload X6.here hx rfl (hb hby own_d1_17) rfl ?_
    show Steps p.tables e below (T6.setTop (mkF m 19 #[.val (.int (0 : Int32)), .val (.int (0 : Int32)), .val (.int (0 : Int32)), .val .null, .val (.ref wKINDS), .val (.int (7 : Int32)), .val (.int (2 : Int32)), .val (.ref wSUBJECT_PREDICATE)] [(.int (7 : Int32)), (.int (2 : Int32))])) _
    refine XS.icmpNo X6.here hx rfl (hb hby own_d1_19) rfl (by decide) ?_
    show Steps p.tables e below (T6.setTop (mkF m 22 #[.val (.int (0 : Int32)), .val (.int (0 : Int32)), .val (.int (0 : Int32)), .val .null, .val (.ref wKINDS), .val (.int (7 : Int32)), .val (.int (2 : Int32)), .val (.ref wSUBJECT_PREDICATE)] [])) _
    refine XS.aload X6.here hx rfl (hb hby own_d1_22) rfl rfl ?_
    show Steps p.tables e below (T6.setTop (mkF m 24 #[.val (.int (0 : Int32)), .val (.int (0 : Int32)), .val (.int (0 : Int32)), .val .null, .val (.ref wKINDS), .val (.int (7 : Int32)), .val (.int (2 : Int32)), .val (.ref wSUBJECT_PREDICATE)] [(.ref wKINDS)])) _
    refine XS.iload X6.here hx rfl (hb hby own_d1_24) rfl ?_
    show Steps p.tables e below (T6.setTop (mkF m 26 #[.val (.int (0 : Int32)), .val (.int (0 : Int32)), .val (.int (0 : Int32)), .val .null, .val (.ref wKINDS), .val (.int (7 : Int32)), .val (.int (2 : Int32)), .val (.ref wSUBJECT_PREDICATE)] [(.int (2 : Int32)), (.ref wKINDS)])) _
    refine X6.aaload hx (j := (2 : Int32)) (v := (.ref wSUBJECT_OBJECT)) (by rw [e6]; exact Ar2.1) (State.isArrayOf_alike hZ.alike Ar2.2.1) rfl Ar2.2.2 hin7 hat7 (g := (mkF m 26 #[.val (.int (0 : Int32)), .val (.int (0 : Int32)), .val (.int (0 : Int32)), .val .null, .val (.ref wKINDS), .val (.int (7 : Int32)), .val (.int (2 : Int32)), .val (.ref wSUBJECT_PREDICATE)] [(.int (2 : Int32)), (.ref wKINDS)])) rfl rfl (hb hby own_d1_26) _ ?_
    show Steps p.tables e below (T6.setTop (mkF m 27 #[.val (.int (0 : Int32)), .val (.int (0 : Int32)), .val (.int (0 : Int32)), .val .null, .val (.ref wKINDS), .val (.int (7 : Int32)), .val (.int (2 : Int32)), .val (.ref wSUBJECT_PREDICATE)] [(.ref wSUBJECT_OBJECT)])) _
    refine XS.astore X6.here hx rfl (hb hby own_d1_27) rfl rfl (l' := #[.val (.int (0 : Int32)), .val (.int (0 : Int32)), .val (.int (0 : Int32)), .val .null, .val (.ref wKINDS), .val (.int (7 : Int32)), .val (.int (2 : Int32)), .val (.ref wSUBJECT_OBJECT)]) rfl ?_
    show Steps p.tables e below (T6.setTop (mkF m 29 #[.val (.int (0 : Int32)), .val (.int (0 : Int32)), .val (.int (0 : Int32)), .val .null, .val (.ref wKINDS), .val (.int (7 : Int32)), .val (.int (2 : Int32)), .val (.ref wSUBJECT_OBJECT)] [])) _
    refine XS.aload X6.here hx rfl (hb hby own_d1_29) rfl rfl ?_
    show Steps p.tables e below (T6.setTop (mkF m 31 #[.val (.int (0 : Int32)), .val (.int (0 : Int32)), .val (.int (0 : Int32)), .val .null, .val (.ref wKINDS), .val (.int (7 : Int32)), .val (.int (2 : Int32)), .val (.ref wSUBJECT_OBJECT)] [(.ref wSUBJECT_OBJECT)])) _
    refine st8 _ ?_
    show Steps p.tables e below (T8.setTop (mkF m 34 #[.val (.int (0 : Int32)), .val (.int (0 : Int32)), .val (.int (0 : Int32)), .val .null, .val (.ref wKINDS), .val (.int (7 : Int32)), .val (.int (2 : Int32)), .val (.ref wSUBJECT_OBJECT)] [(.int (1 : Int32))])) _
    refine XS.iloadN X8.here hx rfl (hb hby own_d1_34) rfl ?_
    show Steps p.tables e below (T8.setTop (mkF m 35 #[.val (.int (0 : Int32)), .val (.int (0 : Int32)), .val (.int (0 : Int32)), .val .null, .val (.ref wKINDS), .val (.int (7 : Int32)), .val (.int (2 : Int32)), .val (.ref wSUBJECT_OBJECT)] [(.int (0 : Int32)), (.int (1 : Int32))])) _
    refine XS.icmpYes X8.here hx rfl (pc0 := 35) (pc' := 59) rfl (hb hby own_d1_35) rfl (by decide) (by decide) (by decide) ?_
    show Steps p.tables e below (T8.setTop (mkF m 59 #[.val (.int (0 : Int32)), .val (.int (0 : Int32)), .val (.int (0 : Int32)), .val .null, .val (.ref wKINDS), .val (.int (7 : Int32)), .val (.int (2 : Int32)), .val (.ref wSUBJECT_OBJECT)] [])) _
    refine XS.iinc X8.here hx rfl (hb hby own_d1_59) rfl (l' := #[.val (.int (0 : Int32)), .val (.int (0 : Int32)), .val (.int (0 : Int32)), .val .null, .val (.ref wKINDS), .val (.int (7 : Int32)), .val (.int (3 : Int32)), .val (.ref wSUBJECT_OBJECT)]) rfl ?_
    show Steps p.tables e below (T8.setTop (mkF m 62 #[.val (.int (0 : Int32)), .val (.int (0 : Int32)), .val (.int (0 : Int32)), .val .null, .val (.ref wKINDS), .val (.int (7 : Int32)), .val (.int (3 : Int32)), .val (.ref wSUBJECT_OBJECT)] [])) _
    refine XS.goto X8.here hx rfl (pc0 := 62) (pc' := 15) rfl (hb hby own_d1_62) (by decide) (by decide) ?_
    show Steps p.tables e below (T8.setTop (mkF m 15 #[.val (.int (0 : Int32)), .val (.int (0 : Int32)), .val (.int (0 : Int32)), .val .null, .val (.ref wKINDS), .val (.int (7 : Int32)), .val (.int (3 : Int32)), .val (.ref wSUBJECT_OBJECT)] [])) _
    refine XS.iload X8.here hx rfl (hb hby own_d1_15) rfl ?_
    show Steps p.tables e below (T8.setTop (mkF m 17 #[.val (.int (0 : Int32)), .val (.int (0 : Int32)), .val (.int (0 : Int32)), .val .null, .val (.ref wKINDS), .val (.int (7 : Int32)), .val (.int (3 : Int32)), .val (.ref wSUBJECT_OBJECT)] [(.int (3 : Int32))])) _
    refine XS.iload X8.here hx rfl (hb hby own_d1_17) rfl ?_
    show Steps p.tables e below (T8.setTop (mkF m 19 #[.val (.int (0 : Int32)), .val (.int (0 : Int32)), .val (.int (0 : Int32)), .val .null, .val (.ref wKINDS), .val (.int (7 : Int32)), .val (.int (3 : Int32)), .val (.ref wSUBJECT_OBJECT)] [(.int (7 : Int32)), (.int (3 : Int32))])) _
    refine XS.icmpNo X8.here hx rfl (hb hby own_d1_19) rfl (by decide) ?_
    show Steps p.tables e below (T8.setTop (mkF m 22 #[.val (.int (0 : Int32)), .val (.int (0 : Int32)), .val (.int (0 : Int32)), .val .null, .val (.ref wKINDS), .val (.int (7 : Int32)), .val (.int (3 : Int32)), .val (.ref wSUBJECT_OBJECT)] [])) _
    refine XS.aload X8.here hx rfl (hb hby own_d1_22) rfl rfl ?_
    show Steps p.tables e below (T8.setTop (mkF m 24 #[.val (.int (0 : Int32)), .val (.int (0 : Int32)), .val (.int (0 : Int32)), .val .null, .val (.ref wKINDS), .val (.int (7 : Int32)), .val (.int (3 : Int32)), .val (.ref wSUBJECT_OBJECT)] [(.ref wKINDS)])) _
    refine XS.iload X8.here hx rfl (hb hby own_d1_24) rfl ?_
    show Steps p.tables e below (T8.setTop (mkF m 26 #[.val (.int (0 : Int32)), .val (.int (0 : Int32)), .val (.int (0 : Int32)), .val .null, .val (.ref wKINDS), .val (.int (7 : Int32)), .val (.int (3 : Int32)), .val (.ref wSUBJECT_OBJECT)] [(.int (3 : Int32)), (.ref wKINDS)])) _
    refine X8.aaload hx (j := (3 : Int32)) (v := (.ref wPREDICATE_OBJECT)) (by rw [e8]; exact Ar2.1) (State.isArrayOf_alike hZ.alike Ar2.2.1) rfl Ar2.2.2 hin9 hat9 (g := (mkF m 26 #[.val (.int (0 : Int32)), .val (.int (0 : Int32)), .val (.int (0 : Int32)), .val .null, .val (.ref wKINDS), .val (.int (7 : Int32)), .val (.int (3 : Int32)), .val (.ref wSUBJECT_OBJECT)] [(.int (3 : Int32)), (.ref wKINDS)])) rfl rfl (hb hby own_d1_26) _ ?_
    show Steps p.tables e below (T8.setTop (mkF m 27 #[.val (.int (0 : Int32)), .val (.int (0 : Int32)), .val (.int (0 : Int32)), .val .null, .val (.ref wKINDS), .val (.int (7 : Int32)), .val (.int (3 : Int32)), .val (.ref wSUBJECT_OBJECT)] [(.ref wPREDICATE_OBJECT)])) _
    refine XS.astore X8.here hx rfl (hb hby own_d1_27) rfl rfl (l' := #[.val (.int (0 : Int32)), .val (.int (0 : Int32)), .val (.int (0 : Int32)), .val .null, .val (.ref wKINDS), .val (.int (7 : Int32)), .val (.int (3 : Int32)), .val (.ref wPREDICATE_OBJECT)]) rfl ?_
    show Steps p.tables e below (T8.setTop (mkF m 29 #[.val (.int (0 : Int32)), .val (.int (0 : Int32)), .val (.int (0 : Int32)), .val .null, .val (.ref wKINDS), .val (.int (7 : Int32)), .val (.int (3 : Int32)), .val (.ref wPREDICATE_OBJECT)] [])) _
    refine XS.aload X8.here hx rfl (hb hby own_d1_29) rfl rfl ?_
    show Steps p.tables e below (T8.setTop (mkF m 31 #[.val (.int (0 : Int32)), .val (.int (0 : Int32)), .val (.int (0 : Int32)), .val .null, .val (.ref wKINDS), .val (.int (7 : Int32)), .val (.int (3 : Int32)), .val (.ref wPREDICATE_OBJECT)] [(.ref wPREDICATE_OBJECT)])) _
    refine st10 _ ?_
    show Steps p.tables e below (T10.setTop (mkF m 34 #[.val (.int (0 : Int32)), .val (.int (0 : Int32)), .val (.int (0 : Int32)), .val .null, .val (.ref wKINDS), .val (.int (7 : Int32)), .val (.int (3 : Int32)), .val (.ref wPREDICATE_OBJECT)] [(.int (0 : Int32))])) _
    refine XS.iloadN X10.here hx rfl (hb hby own_d1_34) rfl ?_
    show Steps p.tables e below (T10.setTop (mkF m 35 #[.val (.int (0 : Int32)), .val (.int (0 : Int32)), .val (.int (0 : Int32)), .val .null, .val (.ref wKINDS), .val (.int (7 : Int32)), .val (.int (3 : Int32)), .val (.ref wPREDICATE_OBJECT)] [(.int (0 : Int32)), (.int (0 : Int32))])) _
    refine XS.icmpNo X10.here hx rfl (hb hby own_d1_35) rfl (by decide) ?_
    show Steps p.tables e below (T10.setTop (mkF m 38 #[.val (.int (0 : Int32)), .val (.int (0 : Int32)), .val (.int (0 : Int32)), .val .null, .val (.ref wKINDS), .val (.int (7 : Int32)), .val (.int (3 : Int32)), .val (.ref wPREDICATE_OBJECT)] [])) _
    refine XS.aload X10.here hx rfl (hb hby own_d1_38) rfl rfl ?_
    show Steps p.tables e below (T10.setTop (mkF m 40 #[.val (.int (0 : Int32)), .val (.int (0 : Int32)), .val (.int (0 : Int32)), .val .null, .val (.ref wKINDS), .val (.int (7 : Int32)), .val (.int (3 : Int32)), .val (.ref wPREDICATE_OBJECT)] [(.ref wPREDICATE_OBJECT)])) _
    refine st11 _ ?_
    show Steps p.tables e below (T11.setTop (mkF m 43 #[.val (.int (0 : Int32)), .val (.int (0 : Int32)), .val (.int (0 : Int32)), .val .null, .val (.ref wKINDS), .val (.int (7 : Int32)), .val (.int (3 : Int32)), .val (.ref wPREDICATE_OBJECT)] [(.int (1 : Int32))])) _
    refine XS.iloadN X11.here hx rfl (hb hby own_d1_43) rfl ?_
    show Steps p.tables e below (T11.setTop (mkF m 44 #[.val (.int (0 : Int32)), .val (.int (0 : Int32)), .val (.int (0 : Int32)), .val .null, .val (.ref wKINDS), .val (.int (7 : Int32)), .val (.int (3 : Int32)), .val (.ref wPREDICATE_OBJECT)] [(.int (0 : Int32)), (.int (1 : Int32))])) _
    refine XS.icmpYes X11.here hx rfl (pc0 := 44) (pc' := 59) rfl (hb hby own_d1_44) rfl (by decide) (by decide) (by decide) ?_
    show Steps p.tables e below (T11.setTop (mkF m 59 #[.val (.int (0 : Int32)), .val (.int (0 : Int32)), .val (.int (0 : Int32)), .val .null, .val (.ref wKINDS), .val (.int (7 : Int32)), .val (.int (3 : Int32)), .val (.ref wPREDICATE_OBJECT)] [])) _
    refine XS.iinc X11.here hx rfl (hb hby own_d1_59) rfl (l' := #[.val (.int (0 : Int32)), .val (.int (0 : Int32)), .val (.int (0 : Int32)), .val .null, .val (.ref wKINDS), .val (.int (7 : Int32)), .val (.int (4 : Int32)), .val (.ref wPREDICATE_OBJECT)]) rfl ?_
    show Steps p.tables e below (T11.setTop (mkF m 62 #[.val (.int (0 : Int32)), .val (.int (0 : Int32)), .val (.int (0 : Int32)), .val .null, .val (.ref wKINDS), .val (.int (7 : Int32)), .val (.int (4 : Int32)), .val (.ref wPREDICATE_OBJECT)] [])) _
    refine XS.goto X11.here hx rfl (pc0 := 62) (pc' := 15) rfl (hb hby own_d1_62) (by decide) (by decide) ?_
    show Steps p.tables e below (T11.setTop (mkF m 15 #[.val (.int (0 : Int32)), .val (.int (0 : Int32)), .val (.int (0 : Int32)), .val .null, .val (.ref wKINDS), .val (.int (7 : Int32)), .val (.int (4 : Int32)), .val (.ref wPREDICATE_OBJECT)] [])) _
    refine XS.iload X11.here hx rfl (hb hby own_d1_15) rfl ?_
    show Steps p.tables e below (T11.setTop (mkF m 17 #[.val (.int (0 : Int32)), .val (.int (0 : Int32)), .val (.int (0 : Int32)), .val .null, .val (.ref wKINDS), .val (.int (7 : Int32)), .val (.int (4 : Int32)), .val (.ref wPREDICATE_OBJECT)] [(.int (4 : Int32))])) _
    refine XS.iload X11.here hx rfl (hb hby own_d1_17) rfl ?_
    show Steps p.tables e below (T11.setTop (mkF m 19 #[.val (.int (0 : Int32)), .val (.int (0 : Int32)), .val (.int (0 : Int32)), .val .null, .val (.ref wKINDS), .val (.int (7 : Int32)), .val (.int (4 : Int32)), .val (.ref wPREDICATE_OBJECT)] [(.int (7 : Int32)), (.int (4 : Int32))])) _
    refine XS.icmpNo X11.here hx rfl (hb hby own_d1_19) rfl (by decide) ?_
    show Steps p.tables e below (T11.setTop (mkF m 22 #[.val (.int (0 : Int32)), .val (.int (0 : Int32)), .val (.int (0 : Int32)), .val .null, .val (.ref wKINDS), .val (.int (7 : Int32)), .val (.int (4 : Int32)), .val (.ref wPREDICATE_OBJECT)] [])) _
    refine XS.aload X11.here hx rfl (hb hby own_d1_22) rfl rfl ?_
    show Steps p.tables e below (T11.setTop (mkF m 24 #[.val (.int (0 : Int32)), .val (.int (0 : Int32)), .val (.int (0 : Int32)), .val .null, .val (.ref wKINDS), .val (.int (7 : Int32)), .val (.int (4 : Int32)), .val (.ref wPREDICATE_OBJECT)] [(.ref wKINDS)])) _
    refine XS.iload X11.here hx rfl (hb hby own_d1_24) rfl ?_
    show Steps p.tables e below (T11.setTop (mkF m 26 #[.val (.int (0 : Int32)), .val (.int (0 : Int32)), .val (.int (0 : Int32)), .val .null, .val (.ref wKINDS), .val (.int (7 : Int32)), .val (.int (4 : Int32)), .val (.ref wPREDICATE_OBJECT)] [(.int (4 : Int32)), (.ref wKINDS)])) _
    refine X11.aaload hx (j := (4 : Int32)) (v := (.ref wSUBJECT)) (by rw [e11]; exact Ar2.1) (State.isArrayOf_alike hZ.alike Ar2.2.1) rfl Ar2.2.2 hin12 hat12 (g := (mkF m 26 #[.val (.int (0 : Int32)), .val (.int (0 : Int32)), .val (.int (0 : Int32)), .val .null, .val (.ref wKINDS), .val (.int (7 : Int32)), .val (.int (4 : Int32)), .val (.ref wPREDICATE_OBJECT)] [(.int (4 : Int32)), (.ref wKINDS)])) rfl rfl (hb hby own_d1_26) _ ?_
    show Steps p.tables e below (T11.setTop (mkF m 27 #[.val (.int (0 : Int32)), .val (.int (0 : Int32)), .val (.int (0 : Int32)), .val .null, .val (.ref wKINDS), .val (.int (7 : Int32)), .val (.int (4 : Int32)), .val (.ref wPREDICATE_OBJECT)] [(.ref wSUBJECT)])) _
    refine XS.astore X11.here hx rfl (hb hby own_d1_27) rfl rfl (l' := #[.val (.int (0 : Int32)), .val (.int (0 : Int32)), .val (.int (0 : Int32)), .val .null, .val (.ref wKINDS), .val (.int (7 : Int32)), .val (.int (4 : Int32)), .val (.ref wSUBJECT)]) rfl ?_
    show Steps p.tables e below (T11.setTop (mkF m 29 #[.val (.int (0 : Int32)), .val (.int (0 : Int32)), .val (.int (0 : Int32)), .val .null, .val (.ref wKINDS), .val (.int (7 : Int32)), .val (.int (4 : Int32)), .val (.ref wSUBJECT)] [])) _
    refine XS.aload X11.here hx rfl (hb hby own_d1_29) rfl rfl ?_
    show Steps p.tables e below (T11.setTop (mkF m 31 #[.val (.int (0 : Int32)), .val (.int (0 : Int32)), .val (.int (0 : Int32)), .val .null, .val (.ref wKINDS), .val (.int (7 : Int32)), .val (.int (4 : Int32)), .val (.ref wSUBJECT)] [(.ref wSUBJECT)])) _
    refine st13 _ ?_
    show Steps p.tables e below (T13.setTop (mkF m 34 #[.val (.int (0 : Int32)), .val (.int (0 : Int32)), .val (.int (0 : Int32)), .val .null, .val (.ref wKINDS), .val (.int (7 : Int32)), .val (.int (4 : Int32)), .val (.ref wSUBJECT)] [(.int (1 : Int32))])) _
    refine XS.iloadN X13.here hx rfl (hb hby own_d1_34) rfl ?_
    show Steps p.tables e below (T13.setTop (mkF m 35 #[.val (.int (0 : Int32)), .val (.int (0 : Int32)), .val (.int (0 : Int32)), .val .null, .val (.ref wKINDS), .val (.int (7 : Int32)), .val (.int (4 : Int32)), .val (.ref wSUBJECT)] [(.int (0 : Int32)), (.int (1 : Int32))])) _
    refine XS.icmpYes X13.here hx rfl (pc0 := 35) (pc' := 59) rfl (hb hby own_d1_35) rfl (by decide) (by decide) (by decide) ?_
    show Steps p.tables e below (T13.setTop (mkF m 59 #[.val (.int (0 : Int32)), .val (.int (0 : Int32)), .val (.int (0 : Int32)), .val .null, .val (.ref wKINDS), .val (.int (7 : Int32)), .val (.int (4 : Int32)), .val (.ref wSUBJECT)] [])) _
    refine XS.iinc X13.here hx rfl (hb hby own_d1_59) rfl (l' := #[.val (.int (0 : Int32)), .val (.int (0 : Int32)), .val (.int (0 : Int32)), .val .null, .val (.ref wKINDS), .val (.int (7 : Int32)), .val (.int (5 : Int32)), .val (.ref wSUBJECT)]) rfl ?_
    show Steps p.tables e below (T13.setTop (mkF m 62 #[.val (.int (0 : Int32)), .val (.int (0 : Int32)), .val (.int (0 : Int32)), .val .null, .val (.ref wKINDS), .val (.int (7 : Int32)), .val (.int (5 : Int32)), .val (.ref wSUBJECT)] [])) _
    refine XS.goto X13.here hx rfl (pc0 := 62) (pc' := 15) rfl (hb hby own_d1_62) (by decide) (by decide) ?_
    show Steps p.tables e below (T13.setTop (mkF m 15 #[.val (.int (0 : Int32)), .val (.int (0 : Int32)), .val (.int (0 : Int32)), .val .null, .val (.ref wKINDS), .val (.int (7 : Int32)), .val (.int (5 : Int32)), .val (.ref wSUBJECT)] [])) _
    refine XS.iload X13.here hx rfl (hb hby own_d1_15) rfl ?_
    show Steps p.tables e below (T13.setTop (mkF m 17 #[.val (.int (0 : Int32)), .val (.int (0 : Int32)), .val (.int (0 : Int32)), .val .null, .val (.ref wKINDS), .val (.int (7 : Int32)), .val (.int (5 : Int32)), .val (.ref wSUBJECT)] [(.int (5 : Int32))])) _
    refine XS.iload X13.here hx rfl (hb hby own_d1_17) rfl ?_
    show Steps p.tables e below (T13.setTop (mkF m 19 #[.val (.int (0 : Int32)), .val (.int (0 : Int32)), .val (.int (0 : Int32)), .val .null, .val (.ref wKINDS), .val (.int (7 : Int32)), .val (.int (5 : Int32)), .val (.ref wSUBJECT)] [(.int (7 : Int32)), (.int (5 : Int32))])) _
    refine XS.icmpNo X13.here hx rfl (hb hby own_d1_19) rfl (by decide) ?_
    show Steps p.tables e below (T13.setTop (mkF m 22 #[.val (.int (0 : Int32)), .val (.int (0 : Int32)), .val (.int (0 : Int32)), .val .null, .val (.ref wKINDS), .val (.int (7 : Int32)), .val (.int (5 : Int32)), .val (.ref wSUBJECT)] [])) _
    refine XS.aload X13.here hx rfl (hb hby own_d1_22) rfl rfl ?_
    show Steps p.tables e below (T13.setTop (mkF m 24 #[.val (.int (0 : Int32)), .val (.int (0 : Int32)), .val (.int (0 : Int32)), .val .null, .val (.ref wKINDS), .val (.int (7 : Int32)), .val (.int (5 : Int32)), .val (.ref wSUBJECT)] [(.ref wKINDS)])) _
    refine XS.iload X13.here hx rfl (hb hby own_d1_24) rfl ?_
    show Steps p.tables e below (T13.setTop (mkF m 26 #[.val (.int (0 : Int32)), .val (.int (0 : Int32)), .val (.int (0 : Int32)), .val .null, .val (.ref wKINDS), .val (.int (7 : Int32)), .val (.int (5 : Int32)), .val (.ref wSUBJECT)] [(.int (5 : Int32)), (.ref wKINDS)])) _
    refine X13.aaload hx (j := (5 : Int32)) (v := (.ref wPREDICATE)) (by rw [e13]; exact Ar2.1) (State.isArrayOf_alike hZ.alike Ar2.2.1) rfl Ar2.2.2 hin14 hat14 (g := (mkF m 26 #[.val (.int (0 : Int32)), .val (.int (0 : Int32)), .val (.int (0 : Int32)), .val .null, .val (.ref wKINDS), .val (.int (7 : Int32)), .val (.int (5 : Int32)), .val (.ref wSUBJECT)] [(.int (5 : Int32)), (.ref wKINDS)])) rfl rfl (hb hby own_d1_26) _ ?_
    show Steps p.tables e below (T13.setTop (mkF m 27 #[.val (.int (0 : Int32)), .val (.int (0 : Int32)), .val (.int (0 : Int32)), .val .null, .val (.ref wKINDS), .val (.int (7 : Int32)), .val (.int (5 : Int32)), .val (.ref wSUBJECT)] [(.ref wPREDICATE)])) _
    refine XS.astore X13.here hx rfl (hb hby own_d1_27) rfl rfl (l' := #[.val (.int (0 : Int32)), .val (.int (0 : Int32)), .val (.int (0 : Int32)), .val .null, .val (.ref wKINDS), .val (.int (7 : Int32)), .val (.int (5 : Int32)), .val (.ref wPREDICATE)]) rfl ?_
    show Steps p.tables e below (T13.setTop (mkF m 29 #[.val (.int (0 : Int32)), .val (.int (0 : Int32)), .val (.int (0 : Int32)), .val .null, .val (.ref wKINDS), .val (.int (7 : Int32)), .val (.int (5 : Int32)), .val (.ref wPREDICATE)] [])) _
    refine XS.aload X13.here hx rfl (hb hby own_d1_29) rfl rfl ?_
    show Steps p.tables e below (T13.setTop (mkF m 31 #[.val (.int (0 : Int32)), .val (.int (0 : Int32)), .val (.int (0 : Int32)), .val .null, .val (.ref wKINDS), .val (.int (7 : Int32)), .val (.int (5 : Int32)), .val (.ref wPREDICATE)] [(.ref wPREDICATE)])) _
    refine st15 _ ?_
    show Steps p.tables e below (T15.setTop (mkF m 34 #[.val (.int (0 : Int32)), .val (.int (0 : Int32)), .val (.int (0 : Int32)), .val .null, .val (.ref wKINDS), .val (.int (7 : Int32)), .val (.int (5 : Int32)), .val (.ref wPREDICATE)] [(.int (0 : Int32))])) _
    refine XS.iloadN X15.here hx rfl (hb hby own_d1_34) rfl ?_
    show Steps p.tables e below (T15.setTop (mkF m 35 #[.val (.int (0 : Int32)), .val (.int (0 : Int32)), .val (.int (0 : Int32)), .val .null, .val (.ref wKINDS), .val (.int (7 : Int32)), .val (.int (5 : Int32)), .val (.ref wPREDICATE)] [(.int (0 : Int32)), (.int (0 : Int32))])) _
    refine XS.icmpNo X15.here hx rfl (hb hby own_d1_35) rfl (by decide) ?_
    show Steps p.tables e below (T15.setTop (mkF m 38 #[.val (.int (0 : Int32)), .val (.int (0 : Int32)), .val (.int (0 : Int32)), .val .null, .val (.ref wKINDS), .val (.int (7 : Int32)), .val (.int (5 : Int32)), .val (.ref wPREDICATE)] [])) _
    refine XS.aload X15.here hx rfl (hb hby own_d1_38) rfl rfl ?_
    show Steps p.tables e below (T15.setTop (mkF m 40 #[.val (.int (0 : Int32)), .val (.int (0 : Int32)), .val (.int (0 : Int32)), .val .null, .val (.ref wKINDS), .val (.int (7 : Int32)), .val (.int (5 : Int32)), .val (.ref wPREDICATE)] [(.ref wPREDICATE)])) _
    refine st16 _ ?_
    show Steps p.tables e below (T16.setTop (mkF m 43 #[.val (.int (0 : Int32)), .val (.int (0 : Int32)), .val (.int (0 : Int32)), .val .null, .val (.ref wKINDS), .val (.int (7 : Int32)), .val (.int (5 : Int32)), .val (.ref wPREDICATE)] [(.int (1 : Int32))])) _
    refine XS.iloadN X16.here hx rfl (hb hby own_d1_43) rfl ?_
    show Steps p.tables e below (T16.setTop (mkF m 44 #[.val (.int (0 : Int32)), .val (.int (0 : Int32)), .val (.int (0 : Int32)), .val .null, .val (.ref wKINDS), .val (.int (7 : Int32)), .val (.int (5 : Int32)), .val (.ref wPREDICATE)] [(.int (0 : Int32)), (.int (1 : Int32))])) _
    refine XS.icmpYes X16.here hx rfl (pc0 := 44) (pc' := 59) rfl (hb hby own_d1_44) rfl (by decide) (by decide) (by decide) ?_
    show Steps p.tables e below (T16.setTop (mkF m 59 #[.val (.int (0 : Int32)), .val (.int (0 : Int32)), .val (.int (0 : Int32)), .val .null, .val (.ref wKINDS), .val (.int (7 : Int32)), .val (.int (5 : Int32)), .val (.ref wPREDICATE)] [])) _
    refine XS.iinc X16.here hx rfl (hb hby own_d1_59) rfl (l' := #[.val (.int (0 : Int32)), .val (.int (0 : Int32)), .val (.int (0 : Int32)), .val .null, .val (.ref wKINDS), .val (.int (7 : Int32)), .val (.int (6 : Int32)), .val (.ref wPREDICATE)]) rfl ?_
    show Steps p.tables e below (T16.setTop (mkF m 62 #[.val (.int (0 : Int32)), .val (.int (0 : Int32)), .val (.int (0 : Int32)), .val .null, .val (.ref wKINDS), .val (.int (7 : Int32)), .val (.int (6 : Int32)), .val (.ref wPREDICATE)] [])) _
    refine XS.goto X16.here hx rfl (pc0 := 62) (pc' := 15) rfl (hb hby own_d1_62) (by decide) (by decide) ?_
    show Steps p.tables e below (T16.setTop (mkF m 15 #[.val (.int (0 : Int32)), .val (.int (0 : Int32)), .val (.int (0 : Int32)), .val .null, .val (.ref wKINDS), .val (.int (7 : Int32)), .val (.int (6 : Int32)), .val (.ref wPREDICATE)] [])) _
    refine XS.iload X16.here hx rfl (hb hby own_d1_15) rfl ?_
    show Steps p.tables e below (T16.setTop (mkF m 17 #[.val (.int (0 : Int32)), .val (.int (0 : Int32)), .val (.int (0 : Int32)), .val .null, .val (.ref wKINDS), .val (.int (7 : Int32)), .val (.int (6 : Int32)), .val (.ref wPREDICATE)] [(.int (6 : Int32))])) _
    refine XS.iload X16.here hx rfl (hb hby own_d1_17) rfl ?_
    show Steps p.tables e below (T16.setTop (mkF m 19 #[.val (.int (0 : Int32)), .val (.int (0 : Int32)), .val (.int (0 : Int32)), .val .null, .val (.ref wKINDS), .val (.int (7 : Int32)), .val (.int (6 : Int32)), .val (.ref wPREDICATE)] [(.int (7 : Int32)), (.int (6 : Int32))])) _
    refine XS.icmpNo X16.here hx rfl (hb hby own_d1_19) rfl (by decide) ?_
    show Steps p.tables e below (T16.setTop (mkF m 22 #[.val (.int (0 : Int32)), .val (.int (0 : Int32)), .val (.int (0 : Int32)), .val .null, .val (.ref wKINDS), .val (.int (7 : Int32)), .val (.int (6 : Int32)), .val (.ref wPREDICATE)] [])) _
    refine XS.aload X16.here hx rfl (hb hby own_d1_22) rfl rfl ?_
    show Steps p.tables e below (T16.setTop (mkF m 24 #[.val (.int (0 : Int32)), .val (.int (0 : Int32)), .val (.int (0 : Int32)), .val .null, .val (.ref wKINDS), .val (.int (7 : Int32)), .val (.int (6 : Int32)), .val (.ref wPREDICATE)] [(.ref wKINDS)])) _
    refine XS.iload X16.here hx rfl (hb hby own_d1_24) rfl ?_
    show Steps p.tables e below (T16.setTop (mkF m 26 #[.val (.int (0 : Int32)), .val (.int (0 : Int32)), .val (.int (0 : Int32)), .val .null, .val (.ref wKINDS), .val (.int (7 : Int32)), .val (.int (6 : Int32)), .val (.ref wPREDICATE)] [(.int (6 : Int32)), (.ref wKINDS)])) _
    refine X16.aaload hx (j := (6 : Int32)) (v := (.ref wOBJECT)) (by rw [e16]; exact Ar2.1) (State.isArrayOf_alike hZ.alike Ar2.2.1) rfl Ar2.2.2 hin17 hat17 (g := (mkF m 26 #[.val (.int (0 : Int32)), .val (.int (0 : Int32)), .val (.int (0 : Int32)), .val .null, .val (.ref wKINDS), .val (.int (7 : Int32)), .val (.int (6 : Int32)), .val (.ref wPREDICATE)] [(.int (6 : Int32)), (.ref wKINDS)])) rfl rfl (hb hby own_d1_26) _ ?_
    show Steps p.tables e below (T16.setTop (mkF m 27 #[.val (.int (0 : Int32)), .val (.int (0 : Int32)), .val (.int (0 : Int32)), .val .null, .val (.ref wKINDS), .val (.int (7 : Int32)), .val (.int (6 : Int32)), .val (.ref wPREDICATE)] [(.ref wOBJECT)])) _
    refine XS.astore X16.here hx rfl (hb hby own_d1_27) rfl rfl (l' := #[.val (.int (0 : Int32)), .val (.int (0 : Int32)), .val (.int (0 : Int32)), .val .null, .val (.ref wKINDS), .val (.int (7 : Int32)), .val (.int (6 : Int32)), .val (.ref wOBJECT)]) rfl ?_
    show Steps p.tables e below (T16.setTop (mkF m 29 #[.val (.int (0 : Int32)), .val (.int (0 : Int32)), .val (.int (0 : Int32)), .val .null, .val (.ref wKINDS), .val (.int (7 : Int32)), .val (.int (6 : Int32)), .val (.ref wOBJECT)] [])) _
    refine XS.aload X16.here hx rfl (hb hby own_d1_29) rfl rfl ?_
    show Steps p.tables e below (T16.setTop (mkF m 31 #[.val (.int (0 : Int32)), .val (.int (0 : Int32)), .val (.int (0 : Int32)), .val .null, .val (.ref wKINDS), .val (.int (7 : Int32)), .val (.int (6 : Int32)), .val (.ref wOBJECT)] [(.ref wOBJECT)])) _
    refine st18 _ ?_
    show Steps p.tables e below (T18.setTop (mkF m 34 #[.val (.int (0 : Int32)), .val (.int (0 : Int32)), .val (.int (0 : Int32)), .val .null, .val (.ref wKINDS), .val (.int (7 : Int32)), .val (.int (6 : Int32)), .val (.ref wOBJECT)] [(.int (0 : Int32))])) _
    refine XS.iloadN X18.here hx rfl (hb hby own_d1_34) rfl ?_
    show Steps p.tables e below (T18.setTop (mkF m 35 #[.val (.int (0 : Int32)), .val (.int (0 : Int32)), .val (.int (0 : Int32)), .val .null, .val (.ref wKINDS), .val (.int (7 : Int32)), .val (.int (6 : Int32)), .val (.ref wOBJECT)] [(.int (0 : Int32)), (.int (0 : Int32))])) _
    refine XS.icmpNo X18.here hx rfl (hb hby own_d1_35) rfl (by decide) ?_
    show Steps p.tables e below (T18.setTop (mkF m 38 #[.val (.int (0 : Int32)), .val (.int (0 : Int32)), .val (.int (0 : Int32)), .val .null, .val (.ref wKINDS), .val (.int (7 : Int32)), .val (.int (6 : Int32)), .val (.ref wOBJECT)] [])) _
    refine XS.aload X18.here hx rfl (hb hby own_d1_38) rfl rfl ?_
    show Steps p.tables e below (T18.setTop (mkF m 40 #[.val (.int (0 : Int32)), .val (.int (0 : Int32)), .val (.int (0 : Int32)), .val .null, .val (.ref wKINDS), .val (.int (7 : Int32)), .val (.int (6 : Int32)), .val (.ref wOBJECT)] [(.ref wOBJECT)])) _
    refine st19 _ ?_
    show Steps p.tables e below (T19.setTop (mkF m 43 #[.val (.int (0 : Int32)), .val (.int (0 : Int32)), .val (.int (0 : Int32)), .val .null, .val (.ref wKINDS), .val (.int (7 : Int32)), .val (.int (6 : Int32)), .val (.ref wOBJECT)] [(.int (0 : Int32))])) _
    refine XS.iloadN X19.here hx rfl (hb hby own_d1_43) rfl ?_
    show Steps p.tables e below (T19.setTop (mkF m 44 #[.val (.int (0 : Int32)), .val (.int (0 : Int32)), .val (.int (0 : Int32)), .val .null, .val (.ref wKINDS), .val (.int (7 : Int32)), .val (.int (6 : Int32)), .val (.ref wOBJECT)] [(.int (0 : Int32)), (.int (0 : Int32))])) _
    refine XS.icmpNo X19.here hx rfl (hb hby own_d1_44) rfl (by decide) ?_
    show Steps p.tables e below (T19.setTop (mkF m 47 #[.val (.int (0 : Int32)), .val (.int (0 : Int32)), .val (.int (0 : Int32)), .val .null, .val (.ref wKINDS), .val (.int (7 : Int32)), .val (.int (6 : Int32)), .val (.ref wOBJECT)] [])) _
    refine XS.aload X19.here hx rfl (hb hby own_d1_47) rfl rfl ?_
    show Steps p.tables e below (T19.setTop (mkF m 49 #[.val (.int (0 : Int32)), .val (.int (0 : Int32)), .val (.int (0 : Int32)), .val .null, .val (.ref wKINDS), .val (.int (7 : Int32)), .val (.int (6 : Int32)), .val (.ref wOBJECT)] [(.ref wOBJECT)])) _
    refine st20 _ ?_
    show Steps p.tables e below (T20.setTop (mkF m 52 #[.val (.int (0 : Int32)), .val (.int (0 : Int32)), .val (.int (0 : Int32)), .val .null, .val (.ref wKINDS), .val (.int (7 : Int32)), .val (.int (6 : Int32)), .val (.ref wOBJECT)] [(.int (1 : Int32))])) _
    refine XS.iloadN X20.here hx rfl (hb hby own_d1_52) rfl ?_
    show Steps p.tables e below (T20.setTop (mkF m 53 #[.val (.int (0 : Int32)), .val (.int (0 : Int32)), .val (.int (0 : Int32)), .val .null, .val (.ref wKINDS), .val (.int (7 : Int32)), .val (.int (6 : Int32)), .val (.ref wOBJECT)] [(.int (0 : Int32)), (.int (1 : Int32))])) _
    refine XS.icmpYes X20.here hx rfl (pc0 := 53) (pc' := 59) rfl (hb hby own_d1_53) rfl (by decide) (by decide) (by decide) ?_
    show Steps p.tables e below (T20.setTop (mkF m 59 #[.val (.int (0 : Int32)), .val (.int (0 : Int32)), .val (.int (0 : Int32)), .val .null, .val (.ref wKINDS), .val (.int (7 : Int32)), .val (.int (6 : Int32)), .val (.ref wOBJECT)] [])) _
    refine XS.iinc X20.here hx rfl (hb hby own_d1_59) rfl (l' := #[.val (.int (0 : Int32)), .val (.int (0 : Int32)), .val (.int (0 : Int32)), .val .null, .val (.ref wKINDS), .val (.int (7 : Int32)), .val (.int (7 : Int32)), .val (.ref wOBJECT)]) rfl ?_
    show Steps p.tables e below (T20.setTop (mkF m 62 #[.val (.int (0 : Int32)), .val (.int (0 : Int32)), .val (.int (0 : Int32)), .val .null, .val (.ref wKINDS), .val (.int (7 : Int32)), .val (.int (7 : Int32)), .val (.ref wOBJECT)] [])) _
    refine XS.goto X20.here hx rfl (pc0 := 62) (pc' := 15) rfl (hb hby own_d1_62) (by decide) (by decide) ?_
    show Steps p.tables e below (T20.setTop (mkF m 15 #[.val (.int (0 : Int32)), .val (.int (0 : Int32)), .val (.int (0 : Int32)), .val .null, .val (.ref wKINDS), .val (.int (7 : Int32)), .val (.int (7 : Int32)), .val (.ref wOBJECT)] [])) _
    refine XS.iload X20.here hx rfl (hb hby own_d1_15) rfl ?_
    show Steps p.tables e below (T20.setTop (mkF m 17 #[.val (.int (0 : Int32)), .val (.int (0 : Int32)), .val (.int (0 : Int32)), .val .null, .val (.ref wKINDS), .val (.int (7 : Int32)), .val (.int (7 : Int32)), .val (.ref wOBJECT)] [(.int (7 : Int32))])) _
    refine XS.iload X20.here hx rfl (hb hby own_d1_17) rfl ?_
    show Steps p.tables e below (T20.setTop (mkF m 19 #[.val (.int (0 : Int32)), .val (.int (0 : Int32)), .val (.int (0 : Int32)), .val .null, .val (.ref wKINDS), .val (.int (7 : Int32)), .val (.int (7 : Int32)), .val (.ref wOBJECT)] [(.int (7 : Int32)), (.int (7 : Int32))])) _
    refine XS.icmpYes X20.here hx rfl (pc0 := 19) (pc' := 65) rfl (hb hby own_d1_19) rfl (by decide) (by decide) (by decide) ?_
    show Steps p.tables e below (T20.setTop (mkF m 65 #[.val (.int (0 : Int32)), .val (.int (0 : Int32)), .val (.int (0 : Int32)), .val .null, .val (.ref wKINDS), .val (.int (7 : Int32)), .val (.int (7 : Int32)), .val (.ref wOBJECT)] [])) _
    refine XS.aloadN X20.here hx rfl (hb hby own_d1_65) rfl rfl ?_
    show Steps p.tables e below (T20.setTop (mkF m 66 #[.val (.int (0 : Int32)), .val (.int (0 : Int32)), .val (.int (0 : Int32)), .val .null, .val (.ref wKINDS), .val (.int (7 : Int32)), .val (.int (7 : Int32)), .val (.ref wOBJECT)] [.null])) _
    jvm_step X20.here [X20.here.top, hx, (hb hby own_d1_66), X20.method', Bd.returns, Value.isRef, FieldType.isReference]
    first | (intro acts; rw [hr _ acts rfl rfl rfl]) | rw [hr _ _ rfl rfl rfl]
    exact Steps.refl _
  · show OwnQ _ h0 n0 _ T20.heap _
    exact ⟨rfl, N0, e20⟩
theorem own_pd_0 : parseMethodDescriptor "(ZZZ)Lcom/example/quadrille/quadrille/graphfilter/PatternKind;" = some ⟨[.boolean, .boolean, .boolean], some (.object "com/example/quadrille/quadrille/graphfilter/PatternKind")⟩ := by decide +kernel
theorem own_ef_2_III (m : MethodId) (x0 : Int32) (x1 : Int32) (x2 : Int32) : entryFrame m #[(.int x0), (.int x1), (.int x2)] 3 = mkF m 0 #[.val (.int x0), .val (.int x1), .val (.int x2)] [] := by first | (simp [entryFrame, mkF, argsToLocals, Value.category]; done) | rfl
theorem own_d2_0 : decode method_2_code 0 = .ok (.iload_n 0, 1) := by decide +kernel
theorem own_d2_1 : decode method_2_code 1 = .ok (.ifCond .eq 31, 3) := by decide +kernel
theorem own_d2_32 : decode method_2_code 32 = .ok (.iload_n 1, 1) := by decide +kernel
theorem own_d2_33 : decode method_2_code 33 = .ok (.ifCond .eq 15, 3) := by decide +kernel
theorem own_d2_48 : decode method_2_code 48 = .ok (.iload_n 2, 1) := by decide +kernel
theorem own_d2_49 : decode method_2_code 49 = .ok (.ifCond .eq 7, 3) := by decide +kernel
theorem own_d2_56 : decode method_2_code 56 = .ok (.aconst_null, 1) := by decide +kernel
theorem own_d2_57 : decode method_2_code 57 = .ok (.areturn, 1) := by decide +kernel
set_option maxRecDepth 65536 in
set_option maxHeartbeats 40000000 in
theorem own_expected_1 (l : Launch) (Z : State) (a0 : Array Value) (hw : ∀ d ∈ tables_1, d.before a0 Z = true) (ws : List Jvm.Cond) (wKINDS : Addr) (wSUBJECT_PREDICATE_OBJECT : Addr) (wSUBJECT_PREDICATE : Addr) (wSUBJECT_OBJECT : Addr) (wPREDICATE_OBJECT : Addr) (wSUBJECT : Addr) (wPREDICATE : Addr) (wOBJECT : Addr) (kKINDS : ClassId) (G : OwnG Z wKINDS wSUBJECT_PREDICATE_OBJECT wSUBJECT_PREDICATE wSUBJECT_OBJECT wPREDICATE_OBJECT wSUBJECT wPREDICATE wOBJECT kKINDS) (h0 : Heap) (n0 : Nat) (O0 : Old Z n0 h0) :
    MetFree l (⟨"com/example/quadrille/quadrille/graphfilter/PatternKindKeepingPinLaw", "expected", "(ZZZ)Lcom/example/quadrille/quadrille/graphfilter/PatternKind;"⟩ : MethodName) (head1 (Jvm.Cond.code (⟨"com/example/quadrille/quadrille/graphfilter/PatternKindKeepingPinLaw", "expected", "(ZZZ)Lcom/example/quadrille/quadrille/graphfilter/PatternKind;"⟩ : MethodName) method_2_code 3 (some (.object "com/example/quadrille/quadrille/graphfilter/PatternKind")) :: ws) ({ frames := 0, cells := 0, slots := 0, locals := 0 } : Room)) (fun a U => a = #[(.int (0 : Int32)), (.int (0 : Int32)), (.int (0 : Int32))] ∧ Z.Warmed39 U.vm ∧ U.heap = h0) (fun _ _ _ _ _ => True) (fun _ U o U' => ∃ v L, o = .returned v ∧ OwnQ (some .null) h0 n0 v U'.heap L ∧ FrameEnd U o U' L ({ frames := 0, cells := 0, slots := 0, locals := 0 } : Room).cells ({ frames := 0, cells := 0, slots := 0, locals := 0 } : Room).slots) := by
  refine MetFree.of_bodySF (plainFor_of_name own_pn_0) hisR ?_
  intro p e s m args below meth c s₁ Bd hml0 hP hK
  obtain ⟨rfl, hZ, hh⟩ := hP
  have hx := Bd.exec
  have hby := Bd.bytes
  have hml : c.maxLocals = 3 := hml0
  have hown : s.vm.findClass "com/example/quadrille/quadrille/graphfilter/PatternKindKeepingPinLaw" = some m.cls := findClass_of_methodNamed Bd.named
  have hnm := (name_of_methodNamed Bd.named Bd.method).1
  have X0 : Stand p l e ({ frames := 0, cells := 0, slots := 0, locals := 0 } : Room) s m #[(.int (0 : Int32)), (.int (0 : Int32)), (.int (0 : Int32))] below meth c s₁ [] 0 0 := Stand.of_body Bd
  have e0 : s₁.heap = h0 := by rw [← hh, Bd.state]; rfl
  have N0 := Fr.nil n0
  have pre0 : ∀ t, Steps p.tables e below (s₁.setTop (mkF m 0 #[.val (.int (0 : Int32)), .val (.int (0 : Int32)), .val (.int (0 : Int32))] [])) t → Steps p.tables e below (s₁.setTop (entryFrame m #[(.int (0 : Int32)), (.int (0 : Int32)), (.int (0 : Int32))] 3)) t := fun t k => castTop (own_ef_2_III m (0 : Int32) (0 : Int32) (0 : Int32)) k
  obtain ⟨fs, hr, hrun, hended, hW, hsame⟩ := X0.leave (v := some .null) (fun h => by rw [Bd.returns] at h; cases h)
  refine ⟨_, _, pre0 _ ?_, hrun, hended, _, _, rfl, ?_, ⟨_, rfl⟩, hW, hsame.mono (by decide) (by decide)⟩
  · show Steps p.tables e below (s₁.setTop (mkF m 0 #[.val (.int (0 : Int32)), .val (.int (0 : Int32)), .val (.int (0 : Int32))] [])) _
    refine XS.iloadN X0.here hx rfl (hb hby own_d2_0) rfl ?_
    show Steps p.tables e below (s₁.setTop (mkF m 1 #[.val (.int (0 : Int32)), .val (.int (0 : Int32)), .val (.int (0 : Int32))] [(.int (0 : Int32))])) _
    refine XS.ifYes X0.here hx rfl (pc0 := 1) (pc' := 32) rfl (hb hby own_d2_1) rfl (by decide) (by decide) (by decide) ?_
    show Steps p.tables e below (s₁.setTop (mkF m 32 #[.val (.int (0 : Int32)), .val (.int (0 : Int32)), .val (.int (0 : Int32))] [])) _
    refine XS.iloadN X0.here hx rfl (hb hby own_d2_32) rfl ?_
    show Steps p.tables e below (s₁.setTop (mkF m 33 #[.val (.int (0 : Int32)), .val (.int (0 : Int32)), .val (.int (0 : Int32))] [(.int (0 : Int32))])) _
    refine XS.ifYes X0.here hx rfl (pc0 := 33) (pc' := 48) rfl (hb hby own_d2_33) rfl (by decide) (by decide) (by decide) ?_
    show Steps p.tables e below (s₁.setTop (mkF m 48 #[.val (.int (0 : Int32)), .val (.int (0 : Int32)), .val (.int (0 : Int32))] [])) _
    refine XS.iloadN X0.here hx rfl (hb hby own_d2_48) rfl ?_
    show Steps p.tables e below (s₁.setTop (mkF m 49 #[.val (.int (0 : Int32)), .val (.int (0 : Int32)), .val (.int (0 : Int32))] [(.int (0 : Int32))])) _
    refine XS.ifYes X0.here hx rfl (pc0 := 49) (pc' := 56) rfl (hb hby own_d2_49) rfl (by decide) (by decide) (by decide) ?_
    show Steps p.tables e below (s₁.setTop (mkF m 56 #[.val (.int (0 : Int32)), .val (.int (0 : Int32)), .val (.int (0 : Int32))] [])) _
    refine XS.aconstNull X0.here hx rfl (hb hby own_d2_56) ?_
    show Steps p.tables e below (s₁.setTop (mkF m 57 #[.val (.int (0 : Int32)), .val (.int (0 : Int32)), .val (.int (0 : Int32))] [.null])) _
    jvm_step X0.here [X0.here.top, hx, (hb hby own_d2_57), X0.method', Bd.returns, Value.isRef, FieldType.isReference]
    first | (intro acts; rw [hr _ acts rfl rfl rfl]) | rw [hr _ _ rfl rfl rfl]
    exact Steps.refl _
  · show OwnQ _ h0 n0 _ s₁.heap _
    exact ⟨rfl, N0, e0⟩
set_option maxRecDepth 65536 in
set_option maxHeartbeats 40000000 in
theorem own_law_0 (l : Launch) (Z : State) (a0 : Array Value) (hw : ∀ d ∈ tables_1, d.before a0 Z = true) (ws : List Jvm.Cond) (wKINDS : Addr) (wSUBJECT_PREDICATE_OBJECT : Addr) (wSUBJECT_PREDICATE : Addr) (wSUBJECT_OBJECT : Addr) (wPREDICATE_OBJECT : Addr) (wSUBJECT : Addr) (wPREDICATE : Addr) (wOBJECT : Addr) (kKINDS : ClassId) (G : OwnG Z wKINDS wSUBJECT_PREDICATE_OBJECT wSUBJECT_PREDICATE wSUBJECT_OBJECT wPREDICATE_OBJECT wSUBJECT wPREDICATE wOBJECT kKINDS) (h0 : Heap) (n0 : Nat) (O0 : Old Z n0 h0) (p1 : Int32) (h1 : (p1 &&& (1 : Int32)) = (0 : Int32)) (h2 : (p1 &&& (2 : Int32)) = (0 : Int32)) (h4 : (p1 &&& (4 : Int32)) = (0 : Int32)) :
    MetFree l x (head1 (Jvm.Cond.code x code maxLocals ret :: ws) room_1) (fun a U => a = #[(.int p1)] ∧ Z.Warmed39 U.vm ∧ U.heap = h0) (fun _ _ _ _ _ => True) (fun _ U o U' => ∃ v L, o = .returned v ∧ (v = some (.int 1) ∧ Fr n0 L) ∧ FrameEnd U o U' L room_1.cells room_1.slots) := by
  refine MetFree.of_bodySF (plainFor_of_name own_pn_0) hisR ?_
  intro p e s m args below meth c s₁ Bd hml0 hP hK
  obtain ⟨rfl, hZ, hh⟩ := hP
  have hx := Bd.exec
  have hby := Bd.bytes
  have hml : c.maxLocals = 5 := hml0
  have hown : s.vm.findClass "com/example/quadrille/quadrille/graphfilter/PatternKindKeepingPinLaw" = some m.cls := findClass_of_methodNamed Bd.named
  have hnm := (name_of_methodNamed Bd.named Bd.method).1
  have X0 : Stand p l e room_1 s m #[(.int p1)] below meth c s₁ [] 0 0 := Stand.of_body Bd
  have e0 : s₁.heap = h0 := by rw [← hh, Bd.state]; rfl
  have N0 := Fr.nil n0
  have pre0 : ∀ t, Steps p.tables e below (s₁.setTop (mkF m 0 #[.val (.int p1), .unset, .unset, .unset, .unset] [])) t → Steps p.tables e below (s₁.setTop (entryFrame m #[(.int p1)] maxLocals)) t := fun t k => castTop (own_ef_0_I m p1) k
  obtain ⟨_, _, ⟨T1, L1, k1, n1⟩, -, X1, ⟨Lc1, hQ1, l1, y1, z1⟩, st1⟩ := Jvm.LawKit.callS X0 hx (y := (⟨"com/example/quadrille/quadrille/graphfilter/PatternKind", "keeping", "(ZZZ)Lcom/example/quadrille/quadrille/graphfilter/PatternKind;"⟩ : MethodName)) hown (mvT hZ (hw _ (List.mem_of_getElem? (i := 0) rfl))) (mvT hZ (hw _ (List.mem_of_getElem? (i := 1) rfl))) (mvT hZ (hw _ (List.mem_of_getElem? (i := 2) rfl))) (mvT hZ (hw _ (List.mem_of_getElem? (i := 3) rfl))) (by decide) (backOf (W := 0) (own_keeping_0 l Z a0 hw [] wKINDS wSUBJECT_PREDICATE_OBJECT wSUBJECT_PREDICATE wSUBJECT_OBJECT wPREDICATE_OBJECT wSUBJECT wPREDICATE wOBJECT kKINDS G h0 n0 O0) hZ (hw _ (List.mem_of_getElem? (i := 3) rfl)) (hw _ (List.mem_of_getElem? (i := 2) rfl)) (by decide) (by decide)) (g := (mkF m 39 #[.val (.int p1), .val (.int (0 : Int32)), .val (.int (0 : Int32)), .val (.int (0 : Int32)), .unset] [(.int (0 : Int32)), (.int (0 : Int32)), (.int (0 : Int32))])) rfl (by rw [hml]; rfl) (argsL := [(.int (0 : Int32)), (.int (0 : Int32)), (.int (0 : Int32))]) (rest := []) (lenOf own_pd_0 rfl) rfl (by show 2 * 0 + _ ≤ _; exact Nat.le_of_eq rfl) (hb hby at_39) (fun _ _ => ⟨rfl, e0, (by decide : 0 + 0 ≤ _), (by decide : 0 + 0 ≤ _)⟩)
  dsimp only [Pt.U, Pt.locs, Pt.cells, Pt.slots] at X1 l1 y1 z1 st1 hQ1
  subst l1 y1 z1
  obtain ⟨rfl, N1q, e1⟩ := hQ1
  have N1 := Fr.app N0 N1q
  obtain ⟨_, _, ⟨T2, L2, k2, n2⟩, -, X2, ⟨Lc2, hQ2, l2, y2, z2⟩, st2⟩ := Jvm.LawKit.callS X1 hx (y := (⟨"com/example/quadrille/quadrille/graphfilter/PatternKindKeepingPinLaw", "expected", "(ZZZ)Lcom/example/quadrille/quadrille/graphfilter/PatternKind;"⟩ : MethodName)) hown (mvT hZ (hw _ (List.mem_of_getElem? (i := 19) rfl))) (mvT hZ (hw _ (List.mem_of_getElem? (i := 20) rfl))) (mvT hZ (hw _ (List.mem_of_getElem? (i := 21) rfl))) (mvT hZ (hw _ (List.mem_of_getElem? (i := 22) rfl))) (by decide) (backOf (W := 1) (own_expected_1 l Z a0 hw [] wKINDS wSUBJECT_PREDICATE_OBJECT wSUBJECT_PREDICATE wSUBJECT_OBJECT wPREDICATE_OBJECT wSUBJECT wPREDICATE wOBJECT kKINDS G h0 n0 O0) hZ (hw _ (List.mem_of_getElem? (i := 22) rfl)) (hw _ (List.mem_of_getElem? (i := 21) rfl)) (by decide) (by decide)) (g := (mkF m 49 #[.val (.int p1), .val (.int (0 : Int32)), .val (.int (0 : Int32)), .val (.int (0 : Int32)), .val .null] [(.int (0 : Int32)), (.int (0 : Int32)), (.int (0 : Int32)), .null])) rfl (by rw [hml]; rfl) (argsL := [(.int (0 : Int32)), (.int (0 : Int32)), (.int (0 : Int32))]) (rest := [.null]) (lenOf own_pd_0 rfl) rfl (by show 2 * 0 + _ ≤ _; exact Nat.le_of_eq rfl) (hb hby at_49) (fun _ _ => ⟨rfl, e1, (by decide : 0 + 0 ≤ _), (by decide : 0 + 0 ≤ _)⟩)
  dsimp only [Pt.U, Pt.locs, Pt.cells, Pt.slots] at X2 l2 y2 z2 st2 hQ2
  subst l2 y2 z2
  obtain ⟨rfl, N2q, e2⟩ := hQ2
  have N2 := Fr.app N1 N2q
  obtain ⟨fs, hr, hrun, hended, hW, hsame⟩ := X2.leave (v := some (.int (1 : Int32))) (fun h => by rw [Bd.returns] at h; cases h)
  refine ⟨_, _, pre0 _ ?_, hrun, hended, _, _, rfl, ?_, ⟨_, rfl⟩, hW, hsame.mono (by decide) (by decide)⟩
  · show Steps p.tables e below (s₁.setTop (mkF m 0 #[.val (.int p1), .unset, .unset, .unset, .unset] [])) _
    refine XS.iloadN X0.here hx rfl (hb hby at_0) rfl ?_
    show Steps p.tables e below (s₁.setTop (mkF m 1 #[.val (.int p1), .unset, .unset, .unset, .unset] [(.int p1)])) _
    refine XS.iconst X0.here hx rfl (hb hby at_1) ?_
    show Steps p.tables e below (s₁.setTop (mkF m 2 #[.val (.int p1), .unset, .unset, .unset, .unset] [(.int (1 : Int32)), (.int p1)])) _
    refine XS.iand X0.here hx rfl (hb hby at_2) rfl ?_
    show Steps p.tables e below (s₁.setTop (mkF m 3 #[.val (.int p1), .unset, .unset, .unset, .unset] [(.int (p1 &&& (1 : Int32)))])) _
    refine XS.ifYes X0.here hx rfl (pc0 := 3) (pc' := 10) rfl (hb hby at_3) rfl ((if0 _ _).trans (teq (h1 : (p1 &&& (1 : Int32)) = (0 : Int32))).1) (by decide) (by decide) ?_
    show Steps p.tables e below (s₁.setTop (mkF m 10 #[.val (.int p1), .unset, .unset, .unset, .unset] [])) _
    refine XS.iconst X0.here hx rfl (hb hby at_10) ?_
    show Steps p.tables e below (s₁.setTop (mkF m 11 #[.val (.int p1), .unset, .unset, .unset, .unset] [(.int (0 : Int32))])) _
    refine XS.istoreN X0.here hx rfl (hb hby at_11) rfl (l' := #[.val (.int p1), .val (.int (0 : Int32)), .unset, .unset, .unset]) rfl ?_
    show Steps p.tables e below (s₁.setTop (mkF m 12 #[.val (.int p1), .val (.int (0 : Int32)), .unset, .unset, .unset] [])) _
    refine XS.iloadN X0.here hx rfl (hb hby at_12) rfl ?_
    show Steps p.tables e below (s₁.setTop (mkF m 13 #[.val (.int p1), .val (.int (0 : Int32)), .unset, .unset, .unset] [(.int p1)])) _
    refine XS.iconst X0.here hx rfl (hb hby at_13) ?_
    show Steps p.tables e below (s₁.setTop (mkF m 14 #[.val (.int p1), .val (.int (0 : Int32)), .unset, .unset, .unset] [(.int (2 : Int32)), (.int p1)])) _
    refine XS.iand X0.here hx rfl (hb hby at_14) rfl ?_
    show Steps p.tables e below (s₁.setTop (mkF m 15 #[.val (.int p1), .val (.int (0 : Int32)), .unset, .unset, .unset] [(.int (p1 &&& (2 : Int32)))])) _
    refine XS.ifYes X0.here hx rfl (pc0 := 15) (pc' := 22) rfl (hb hby at_15) rfl ((if0 _ _).trans (teq (h2 : (p1 &&& (2 : Int32)) = (0 : Int32))).1) (by decide) (by decide) ?_
    show Steps p.tables e below (s₁.setTop (mkF m 22 #[.val (.int p1), .val (.int (0 : Int32)), .unset, .unset, .unset] [])) _
    refine XS.iconst X0.here hx rfl (hb hby at_22) ?_
    show Steps p.tables e below (s₁.setTop (mkF m 23 #[.val (.int p1), .val (.int (0 : Int32)), .unset, .unset, .unset] [(.int (0 : Int32))])) _
    refine XS.istoreN X0.here hx rfl (hb hby at_23) rfl (l' := #[.val (.int p1), .val (.int (0 : Int32)), .val (.int (0 : Int32)), .unset, .unset]) rfl ?_
    show Steps p.tables e below (s₁.setTop (mkF m 24 #[.val (.int p1), .val (.int (0 : Int32)), .val (.int (0 : Int32)), .unset, .unset] [])) _
    refine XS.iloadN X0.here hx rfl (hb hby at_24) rfl ?_
    show Steps p.tables e below (s₁.setTop (mkF m 25 #[.val (.int p1), .val (.int (0 : Int32)), .val (.int (0 : Int32)), .unset, .unset] [(.int p1)])) _
    refine XS.iconst X0.here hx rfl (hb hby at_25) ?_
    show Steps p.tables e below (s₁.setTop (mkF m 26 #[.val (.int p1), .val (.int (0 : Int32)), .val (.int (0 : Int32)), .unset, .unset] [(.int (4 : Int32)), (.int p1)])) _
    refine XS.iand X0.here hx rfl (hb hby at_26) rfl ?_
    show Steps p.tables e below (s₁.setTop (mkF m 27 #[.val (.int p1), .val (.int (0 : Int32)), .val (.int (0 : Int32)), .unset, .unset] [(.int (p1 &&& (4 : Int32)))])) _
    refine XS.ifYes X0.here hx rfl (pc0 := 27) (pc' := 34) rfl (hb hby at_27) rfl ((if0 _ _).trans (teq (h4 : (p1 &&& (4 : Int32)) = (0 : Int32))).1) (by decide) (by decide) ?_
    show Steps p.tables e below (s₁.setTop (mkF m 34 #[.val (.int p1), .val (.int (0 : Int32)), .val (.int (0 : Int32)), .unset, .unset] [])) _
    refine XS.iconst X0.here hx rfl (hb hby at_34) ?_
    show Steps p.tables e below (s₁.setTop (mkF m 35 #[.val (.int p1), .val (.int (0 : Int32)), .val (.int (0 : Int32)), .unset, .unset] [(.int (0 : Int32))])) _
    refine XS.istoreN X0.here hx rfl (hb hby at_35) rfl (l' := #[.val (.int p1), .val (.int (0 : Int32)), .val (.int (0 : Int32)), .val (.int (0 : Int32)), .unset]) rfl ?_
    show Steps p.tables e below (s₁.setTop (mkF m 36 #[.val (.int p1), .val (.int (0 : Int32)), .val (.int (0 : Int32)), .val (.int (0 : Int32)), .unset] [])) _
    refine XS.iloadN X0.here hx rfl (hb hby at_36) rfl ?_
    show Steps p.tables e below (s₁.setTop (mkF m 37 #[.val (.int p1), .val (.int (0 : Int32)), .val (.int (0 : Int32)), .val (.int (0 : Int32)), .unset] [(.int (0 : Int32))])) _
    refine XS.iloadN X0.here hx rfl (hb hby at_37) rfl ?_
    show Steps p.tables e below (s₁.setTop (mkF m 38 #[.val (.int p1), .val (.int (0 : Int32)), .val (.int (0 : Int32)), .val (.int (0 : Int32)), .unset] [(.int (0 : Int32)), (.int (0 : Int32))])) _
    refine XS.iloadN X0.here hx rfl (hb hby at_38) rfl ?_
    show Steps p.tables e below (s₁.setTop (mkF m 39 #[.val (.int p1), .val (.int (0 : Int32)), .val (.int (0 : Int32)), .val (.int (0 : Int32)), .unset] [(.int (0 : Int32)), (.int (0 : Int32)), (.int (0 : Int32))])) _
    refine st1 _ ?_
    show Steps p.tables e below (T1.setTop (mkF m 42 #[.val (.int p1), .val (.int (0 : Int32)), .val (.int (0 : Int32)), .val (.int (0 : Int32)), .unset] [.null])) _
    refine XS.astore X1.here hx rfl (hb hby at_42) rfl rfl (l' := #[.val (.int p1), .val (.int (0 : Int32)), .val (.int (0 : Int32)), .val (.int (0 : Int32)), .val .null]) rfl ?_
    show Steps p.tables e below (T1.setTop (mkF m 44 #[.val (.int p1), .val (.int (0 : Int32)), .val (.int (0 : Int32)), .val (.int (0 : Int32)), .val .null] [])) _
    refine XS.aload X1.here hx rfl (hb hby at_44) rfl rfl ?_
    show Steps p.tables e below (T1.setTop (mkF m 46 #[.val (.int p1), .val (.int (0 : Int32)), .val (.int (0 : Int32)), .val (.int (0 : Int32)), .val .null] [.null])) _
    refine XS.iloadN X1.here hx rfl (hb hby at_46) rfl ?_
    show Steps p.tables e below (T1.setTop (mkF m 47 #[.val (.int p1), .val (.int (0 : Int32)), .val (.int (0 : Int32)), .val (.int (0 : Int32)), .val .null] [(.int (0 : Int32)), .null])) _
    refine XS.iloadN X1.here hx rfl (hb hby at_47) rfl ?_
    show Steps p.tables e below (T1.setTop (mkF m 48 #[.val (.int p1), .val (.int (0 : Int32)), .val (.int (0 : Int32)), .val (.int (0 : Int32)), .val .null] [(.int (0 : Int32)), (.int (0 : Int32)), .null])) _
    refine XS.iloadN X1.here hx rfl (hb hby at_48) rfl ?_
    show Steps p.tables e below (T1.setTop (mkF m 49 #[.val (.int p1), .val (.int (0 : Int32)), .val (.int (0 : Int32)), .val (.int (0 : Int32)), .val .null] [(.int (0 : Int32)), (.int (0 : Int32)), (.int (0 : Int32)), .null])) _
    refine st2 _ ?_
    show Steps p.tables e below (T2.setTop (mkF m 52 #[.val (.int p1), .val (.int (0 : Int32)), .val (.int (0 : Int32)), .val (.int (0 : Int32)), .val .null] [.null, .null])) _
    refine Jvm.RoadKit.acmp (g := (mkF m 52 #[.val (.int p1), .val (.int (0 : Int32)), .val (.int (0 : Int32)), .val (.int (0 : Int32)), .val .null] [.null, .null])) X2 hx rfl rfl rfl (pc0 := 52) (pc' := 55) (same := true) rfl (hb hby at_52) rfl (decide_eq_true rfl) (by decide) (by decide) ?_
    show Steps p.tables e below (T2.setTop (mkF m 55 #[.val (.int p1), .val (.int (0 : Int32)), .val (.int (0 : Int32)), .val (.int (0 : Int32)), .val .null] [])) _
    refine XS.iconst X2.here hx rfl (hb hby at_55) ?_
    show Steps p.tables e below (T2.setTop (mkF m 56 #[.val (.int p1), .val (.int (0 : Int32)), .val (.int (0 : Int32)), .val (.int (0 : Int32)), .val .null] [(.int (1 : Int32))])) _
    refine XS.goto X2.here hx rfl (pc0 := 56) (pc' := 60) rfl (hb hby at_56) (by decide) (by decide) ?_
    show Steps p.tables e below (T2.setTop (mkF m 60 #[.val (.int p1), .val (.int (0 : Int32)), .val (.int (0 : Int32)), .val (.int (0 : Int32)), .val .null] [(.int (1 : Int32))])) _
    exact retN X2 hx (t := .boolean) Bd.returns (by simp) (hb hby at_60) hr
  · exact ⟨rfl, N2⟩
theorem own_d1_56 : decode prog_67_method_4_code 56 = .ok (.aload 7, 2) := by decide +kernel
theorem own_d1_58 : decode prog_67_method_4_code 58 = .ok (.astore_n 3, 1) := by decide +kernel
set_option maxRecDepth 65536 in
set_option maxHeartbeats 40000000 in
theorem own_keeping_2 (l : Launch) (Z : State) (a0 : Array Value) (hw : ∀ d ∈ tables_1, d.before a0 Z = true) (ws : List Jvm.Cond) (wKINDS : Addr) (wSUBJECT_PREDICATE_OBJECT : Addr) (wSUBJECT_PREDICATE : Addr) (wSUBJECT_OBJECT : Addr) (wPREDICATE_OBJECT : Addr) (wSUBJECT : Addr) (wPREDICATE : Addr) (wOBJECT : Addr) (kKINDS : ClassId) (G : OwnG Z wKINDS wSUBJECT_PREDICATE_OBJECT wSUBJECT_PREDICATE wSUBJECT_OBJECT wPREDICATE_OBJECT wSUBJECT wPREDICATE wOBJECT kKINDS) (h0 : Heap) (n0 : Nat) (O0 : Old Z n0 h0) :
    MetFree l (⟨"com/example/quadrille/quadrille/graphfilter/PatternKind", "keeping", "(ZZZ)Lcom/example/quadrille/quadrille/graphfilter/PatternKind;"⟩ : MethodName) (head1 (Jvm.Cond.code (⟨"com/example/quadrille/quadrille/graphfilter/PatternKind", "keeping", "(ZZZ)Lcom/example/quadrille/quadrille/graphfilter/PatternKind;"⟩ : MethodName) prog_67_method_4_code 8 (some (.object "com/example/quadrille/quadrille/graphfilter/PatternKind")) :: ws) ({ frames := 0, cells := 0, slots := 0, locals := 0 } : Room)) (fun a U => a = #[(.int (1 : Int32)), (.int (0 : Int32)), (.int (0 : Int32))] ∧ Z.Warmed39 U.vm ∧ U.heap = h0) (fun _ _ _ _ _ => True) (fun _ U o U' => ∃ v L, o = .returned v ∧ OwnQ (some (.ref wSUBJECT)) h0 n0 v U'.heap L ∧ FrameEnd U o U' L ({ frames := 0, cells := 0, slots := 0, locals := 0 } : Room).cells ({ frames := 0, cells := 0, slots := 0, locals := 0 } : Room).slots) := by
  refine MetFree.of_bodySF (plainFor_of_name own_pn_1) hisR ?_
  intro p e s m args below meth c s₁ Bd hml0 hP hK
  obtain ⟨rfl, hZ, hh⟩ := hP
  have hx := Bd.exec
  have hby := Bd.bytes
  have hml : c.maxLocals = 8 := hml0
  have hown : s.vm.findClass "com/example/quadrille/quadrille/graphfilter/PatternKind" = some m.cls := findClass_of_methodNamed Bd.named
  have hnm := (name_of_methodNamed Bd.named Bd.method).1
  have X0 : Stand p l e ({ frames := 0, cells := 0, slots := 0, locals := 0 } : Room) s m #[(.int (1 : Int32)), (.int (0 : Int32)), (.int (0 : Int32))] below meth c s₁ [] 0 0 := Stand.of_body Bd
  have e0 : s₁.heap = h0 := by rw [← hh, Bd.state]; rfl
  have N0 := Fr.nil n0
  have pre0 : ∀ t, Steps p.tables e below (s₁.setTop (mkF m 0 #[.val (.int (1 : Int32)), .val (.int (0 : Int32)), .val (.int (0 : Int32)), .unset, .unset, .unset, .unset, .unset] [])) t → Steps p.tables e below (s₁.setTop (entryFrame m #[(.int (1 : Int32)), (.int (0 : Int32)), (.int (0 : Int32))] 8)) t := fun t k => castTop (own_ef_1_III m (1 : Int32) (0 : Int32) (0 : Int32)) k
  obtain ⟨T1, X1, e1, st1⟩ := getS2 X0 hx hZ hown (host := "") (Or.inl (hw _ (List.mem_of_getElem? (i := 4) rfl))) Via.refl e0 (G.1.ext O0.2) (g := (mkF m 2 #[.val (.int (1 : Int32)), .val (.int (0 : Int32)), .val (.int (0 : Int32)), .val .null, .unset, .unset, .unset, .unset] [])) rfl (hb hby own_d1_2)
  obtain ⟨cl2, Ar2, qk2, Sz2, Nn2, Hs2, Gs2⟩ := id ((G.2.2.2.2.2.2.2.2.2.2.2.2.2.2.2.2.2.2.2.2.2.2.2.2.2.2.2.2.2.2.2.2.2.2.2.2.1.ext O0.2))
  have hin3 : ¬ ((0 : Int32) < 0 ∨ cl2.slots.size ≤ ((0 : Int32)).toNatClampNeg) := inb_of Sz2 ⟨by decide, by decide⟩
  have hat3 : cl2.slots[((0 : Int32)).toNatClampNeg]? = some (.ref wSUBJECT_PREDICATE_OBJECT) := Hs2.at hin3 rfl
  obtain ⟨T4, X4, e4, st4⟩ := getF X1 hx hZ hown (host := "") (Or.inl (hw _ (List.mem_of_getElem? (i := 7) rfl))) Via.refl e1 (G.2.2.2.2.2.2.2.2.2.2.2.2.2.2.2.1.ext O0.2) (g := (mkF m 31 #[.val (.int (1 : Int32)), .val (.int (0 : Int32)), .val (.int (0 : Int32)), .val .null, .val (.ref wKINDS), .val (.int (7 : Int32)), .val (.int (0 : Int32)), .val (.ref wSUBJECT_PREDICATE_OBJECT)] [(.ref wSUBJECT_PREDICATE_OBJECT)])) rfl rfl (hb hby own_d1_31)
  obtain ⟨T5, X5, e5, st5⟩ := getF X4 hx hZ hown (host := "") (Or.inl (hw _ (List.mem_of_getElem? (i := 12) rfl))) Via.refl e4 (G.2.2.2.2.2.2.2.2.2.2.2.2.2.2.2.2.2.2.2.2.2.2.2.2.2.2.1.ext O0.2) (g := (mkF m 40 #[.val (.int (1 : Int32)), .val (.int (0 : Int32)), .val (.int (0 : Int32)), .val .null, .val (.ref wKINDS), .val (.int (7 : Int32)), .val (.int (0 : Int32)), .val (.ref wSUBJECT_PREDICATE_OBJECT)] [(.ref wSUBJECT_PREDICATE_OBJECT)])) rfl rfl (hb hby own_d1_40)
  have hin6 : ¬ ((1 : Int32) < 0 ∨ cl2.slots.size ≤ ((1 : Int32)).toNatClampNeg) := inb_of Sz2 ⟨by decide, by decide⟩
  have hat6 : cl2.slots[((1 : Int32)).toNatClampNeg]? = some (.ref wSUBJECT_PREDICATE) := Hs2.at hin6 rfl
  obtain ⟨T7, X7, e7, st7⟩ := getF X5 hx hZ hown (host := "") (Or.inl (hw _ (List.mem_of_getElem? (i := 7) rfl))) Via.refl e5 (G.2.2.2.2.2.2.2.2.2.2.2.2.2.2.2.2.1.ext O0.2) (g := (mkF m 31 #[.val (.int (1 : Int32)), .val (.int (0 : Int32)), .val (.int (0 : Int32)), .val .null, .val (.ref wKINDS), .val (.int (7 : Int32)), .val (.int (1 : Int32)), .val (.ref wSUBJECT_PREDICATE)] [(.ref wSUBJECT_PREDICATE)])) rfl rfl (hb hby own_d1_31)
  obtain ⟨T8, X8, e8, st8⟩ := getF X7 hx hZ hown (host := "") (Or.inl (hw _ (List.mem_of_getElem? (i := 12) rfl))) Via.refl e7 (G.2.2.2.2.2.2.2.2.2.2.2.2.2.2.2.2.2.2.2.2.2.2.2.2.2.2.2.2.1.ext O0.2) (g := (mkF m 40 #[.val (.int (1 : Int32)), .val (.int (0 : Int32)), .val (.int (0 : Int32)), .val .null, .val (.ref wKINDS), .val (.int (7 : Int32)), .val (.int (1 : Int32)), .val (.ref wSUBJECT_PREDICATE)] [(.ref wSUBJECT_PREDICATE)])) rfl rfl (hb hby own_d1_40)
  have hin9 : ¬ ((2 : Int32) < 0 ∨ cl2.slots.size ≤ ((2 : Int32)).toNatClampNeg) := inb_of Sz2 ⟨by decide, by decide⟩
  have hat9 : cl2.slots[((2 : Int32)).toNatClampNeg]? = some (.ref wSUBJECT_OBJECT) := Hs2.at hin9 rfl
  obtain ⟨T10, X10, e10, st10⟩ := getF X8 hx hZ hown (host := "") (Or.inl (hw _ (List.mem_of_getElem? (i := 7) rfl))) Via.refl e8 (G.2.2.2.2.2.2.2.2.2.2.2.2.2.2.2.2.2.1.ext O0.2) (g := (mkF m 31 #[.val (.int (1 : Int32)), .val (.int (0 : Int32)), .val (.int (0 : Int32)), .val .null, .val (.ref wKINDS), .val (.int (7 : Int32)), .val (.int (2 : Int32)), .val (.ref wSUBJECT_OBJECT)] [(.ref wSUBJECT_OBJECT)])) rfl rfl (hb hby own_d1_31)
  obtain ⟨T11, X11, e11, st11⟩ := getF X10 hx hZ hown (host := "") (Or.inl (hw _ (List.mem_of_getElem? (i := 12) rfl))) Via.refl e10 (G.2.2.2.2.2.2.2.2.2.2.2.2.2.2.2.2.2.2.2.2.2.2.2.2.2.2.2.2.2.2.1.ext O0.2) (g := (mkF m 40 #[.val (.int (1 : Int32)), .val (.int (0 : Int32)), .val (.int (0 : Int32)), .val .null, .val (.ref wKINDS), .val (.int (7 : Int32)), .val (.int (2 : Int32)), .val (.ref wSUBJECT_OBJECT)] [(.ref wSUBJECT_OBJECT)])) rfl rfl (hb hby own_d1_40)
  obtain ⟨T12, X12, e12, st12⟩ := getF X11 hx hZ hown (host := "") (Or.inl (hw _ (List.mem_of_getElem? (i := 17) rfl))) Via.refl e11 (G.2.2.2.2.2.2.2.2.2.2.2.2.2.2.2.2.2.2.2.2.2.2.2.2.2.2.2.2.2.2.2.2.2.2.1.ext O0.2) (g := (mkF m 49 #[.val (.int (1 : Int32)), .val (.int (0 : Int32)), .val (.int (0 : Int32)), .val .null, .val (.ref wKINDS), .val (.int (7 : Int32)), .val (.int (2 : Int32)), .val (.ref wSUBJECT_OBJECT)] [(.ref wSUBJECT_OBJECT)])) rfl rfl (hb hby own_d1_49)
  have hin13 : ¬ ((3 : Int32) < 0 ∨ cl2.slots.size ≤ ((3 : Int32)).toNatClampNeg) := inb_of Sz2 ⟨by decide, by decide⟩
  have hat13 : cl2.slots[((3 : Int32)).toNatClampNeg]? = some (.ref wPREDICATE_OBJECT) := Hs2.at hin13 rfl
  obtain ⟨T14, X14, e14, st14⟩ := getF X12 hx hZ hown (host := "") (Or.inl (hw _ (List.mem_of_getElem? (i := 7) rfl))) Via.refl e12 (G.2.2.2.2.2.2.2.2.2.2.2.2.2.2.2.2.2.2.1.ext O0.2) (g := (mkF m 31 #[.val (.int (1 : Int32)), .val (.int (0 : Int32)), .val (.int (0 : Int32)), .val .null, .val (.ref wKINDS), .val (.int (7 : Int32)), .val (.int (3 : Int32)), .val (.ref wPREDICATE_OBJECT)] [(.ref wPREDICATE_OBJECT)])) rfl rfl (hb hby own_d1_31)
  have hin15 : ¬ ((4 : Int32) < 0 ∨ cl2.slots.size ≤ ((4 : Int32)).toNatClampNeg) := inb_of Sz2 ⟨by decide, by decide⟩
  have hat15 : cl2.slots[((4 : Int32)).toNatClampNeg]? = some (.ref wSUBJECT) := Hs2.at hin15 rfl
  obtain ⟨T16, X16, e16, st16⟩ := getF X14 hx hZ hown (host := "") (Or.inl (hw _ (List.mem_of_getElem? (i := 7) rfl))) Via.refl e14 (G.2.2.2.2.2.2.2.2.2.2.2.2.2.2.2.2.2.2.2.2.1.ext O0.2) (g := (mkF m 31 #[.val (.int (1 : Int32)), .val (.int (0 : Int32)), .val (.int (0 : Int32)), .val .null, .val (.ref wKINDS), .val (.int (7 : Int32)), .val (.int (4 : Int32)), .val (.ref wSUBJECT)] [(.ref wSUBJECT)])) rfl rfl (hb hby own_d1_31)
  obtain ⟨T17, X17, e17, st17⟩ := getF X16 hx hZ hown (host := "") (Or.inl (hw _ (List.mem_of_getElem? (i := 12) rfl))) Via.refl e16 (G.2.2.2.2.2.2.2.2.2.2.2.2.2.2.2.2.2.2.2.2.2.2.2.2.2.2.2.2.2.2.2.1.ext O0.2) (g := (mkF m 40 #[.val (.int (1 : Int32)), .val (.int (0 : Int32)), .val (.int (0 : Int32)), .val .null, .val (.ref wKINDS), .val (.int (7 : Int32)), .val (.int (4 : Int32)), .val (.ref wSUBJECT)] [(.ref wSUBJECT)])) rfl rfl (hb hby own_d1_40)
  obtain ⟨T18, X18, e18, st18⟩ := getF X17 hx hZ hown (host := "") (Or.inl (hw _ (List.mem_of_getElem? (i := 17) rfl))) Via.refl e17 (G.2.2.2.2.2.2.2.2.2.2.2.2.2.2.2.2.2.2.2.2.2.2.2.2.2.2.2.2.2.2.2.2.2.2.2.1.ext O0.2) (g := (mkF m 49 #[.val (.int (1 : Int32)), .val (.int (0 : Int32)), .val (.int (0 : Int32)), .val .null, .val (.ref wKINDS), .val (.int (7 : Int32)), .val (.int (4 : Int32)), .val (.ref wSUBJECT)] [(.ref wSUBJECT)])) rfl rfl (hb hby own_d1_49)
  have hin19 : ¬ ((5 : Int32) < 0 ∨ cl2.slots.size ≤ ((5 : Int32)).toNatClampNeg) := inb_of Sz2 ⟨by decide, by decide⟩
  have hat19 : cl2.slots[((5 : Int32)).toNatClampNeg]? = some (.ref wPREDICATE) := Hs2.at hin19 rfl
  obtain ⟨T20, X20, e20, st20⟩ := getF X18 hx hZ hown (host := "") (Or.inl (hw _ (List.mem_of_getElem? (i := 7) rfl))) Via.refl e18 (G.2.2.2.2.2.2.2.2.2.2.2.2.2.2.2.2.2.2.2.2.2.1.ext O0.2) (g := (mkF m 31 #[.val (.int (1 : Int32)), .val (.int (0 : Int32)), .val (.int (0 : Int32)), .val (.ref wSUBJECT), .val (.ref wKINDS), .val (.int (7 : Int32)), .val (.int (5 : Int32)), .val (.ref wPREDICATE)] [(.ref wPREDICATE)])) rfl rfl (hb hby own_d1_31)
  have hin21 : ¬ ((6 : Int32) < 0 ∨ cl2.slots.size ≤ ((6 : Int32)).toNatClampNeg) := inb_of Sz2 ⟨by decide, by decide⟩
  have hat21 : cl2.slots[((6 : Int32)).toNatClampNeg]? = some (.ref wOBJECT) := Hs2.at hin21 rfl
  obtain ⟨T22, X22, e22, st22⟩ := getF X20 hx hZ hown (host := "") (Or.inl (hw _ (List.mem_of_getElem? (i := 7) rfl))) Via.refl e20 (G.2.2.2.2.2.2.2.2.2.2.2.2.2.2.2.2.2.2.2.2.2.2.2.1.ext O0.2) (g := (mkF m 31 #[.val (.int (1 : Int32)), .val (.int (0 : Int32)), .val (.int (0 : Int32)), .val (.ref wSUBJECT), .val (.ref wKINDS), .val (.int (7 : Int32)), .val (.int (6 : Int32)), .val (.ref wOBJECT)] [(.ref wOBJECT)])) rfl rfl (hb hby own_d1_31)
  obtain ⟨fs, hr, hrun, hended, hW, hsame⟩ := X22.leave (v := some (.ref wSUBJECT)) (fun h => by rw [Bd.returns] at h; cases h)
  refine ⟨_, _, pre0 _ ?_, hrun, hended, _, _, rfl, ?_, ⟨_, rfl⟩, hW, hsame.mono (by decide) (by decide)⟩
  · show Steps p.tables e below (s₁.setTop (mkF m 0 #[.val (.int (1 : Int32)), .val (.int (0 : Int32)), .val (.int (0 : Int32)), .unset, .unset, .unset, .unset, .unset] [])) _
    refine XS.aconstNull X0.here hx rfl (hb hby own_d1_0) ?_
    show Steps p.tables e below (s₁.setTop (mkF m 1 #[.val (.int (1 : Int32)), .val (.int (0 : Int32)), .val (.int (0 : Int32)), .unset, .unset, .unset, .unset, .unset] [.null])) _
    refine XS.astoreN X0.here hx rfl (hb hby own_d1_1) rfl rfl (l' := #[.val (.int (1 : Int32)), .val (.int (0 : Int32)), .val (.int (0 : Int32)), .val .null, .unset, .unset, .unset, .unset]) rfl ?_
    show Steps p.tables e below (s₁.setTop (mkF m 2 #[.val (.int (1 : Int32)), .val (.int (0 : Int32)), .val (.int (0 : Int32)), .val .null, .unset, .unset, .unset, .unset] [])) _
    refine st1 _ ?_
    show Steps p.tables e below (T1.setTop (mkF m 5 #[.val (.int (1 : Int32)), .val (.int (0 : Int32)), .val (.int (0 : Int32)), .val .null, .unset, .unset, .unset, .unset] [(.ref wKINDS)])) _
    refine XS.astore X1.here hx rfl (hb hby own_d1_5) rfl rfl (l' := #[.val (.int (1 : Int32)), .val (.int (0 : Int32)), .val (.int (0 : Int32)), .val .null, .val (.ref wKINDS), .unset, .unset, .unset]) rfl ?_
    show Steps p.tables e below (T1.setTop (mkF m 7 #[.val (.int (1 : Int32)), .val (.int (0 : Int32)), .val (.int (0 : Int32)), .val .null, .val (.ref wKINDS), .unset, .unset, .unset] [])) _
    refine XS.aload X1.here hx rfl (hb hby own_d1_7) rfl rfl ?_
    show Steps p.tables e below (T1.setTop (mkF m 9 #[.val (.int (1 : Int32)), .val (.int (0 : Int32)), .val (.int (0 : Int32)), .val .null, .val (.ref wKINDS), .unset, .unset, .unset] [(.ref wKINDS)])) _
    refine X1.arraylength hx (by rw [e1]; exact Ar2.1) (State.isArrayOf_alike hZ.alike Ar2.2.1) (g := (mkF m 9 #[.val (.int (1 : Int32)), .val (.int (0 : Int32)), .val (.int (0 : Int32)), .val .null, .val (.ref wKINDS), .unset, .unset, .unset] [(.ref wKINDS)])) rfl rfl (hb hby own_d1_9) _ ?_
    rw [len_of Sz2 Nn2]
    show Steps p.tables e below (T1.setTop (mkF m 10 #[.val (.int (1 : Int32)), .val (.int (0 : Int32)), .val (.int (0 : Int32)), .val .null, .val (.ref wKINDS), .unset, .unset, .unset] [(.int (7 : Int32))])) _
    refine XS.istore X1.here hx rfl (hb hby own_d1_10) rfl (l' := #[.val (.int (1 : Int32)), .val (.int (0 : Int32)), .val (.int (0 : Int32)), .val .null, .val (.ref wKINDS), .val (.int (7 : Int32)), .unset, .unset]) rfl ?_
    show Steps p.tables e below (T1.setTop (mkF m 12 #[.val (.int (1 : Int32)), .val (.int (0 : Int32)), .val (.int (0 : Int32)), .val .null, .val (.ref wKINDS), .val (.int (7 : Int32)), .unset, .unset] [])) _
    refine XS.iconst X1.here hx rfl (hb hby own_d1_12) ?_
    show Steps p.tables e below (T1.setTop (mkF m 13 #[.val (.int (1 : Int32)), .val (.int (0 : Int32)), .val (.int (0 : Int32)), .val .null, .val (.ref wKINDS), .val (.int (7 : Int32)), .unset, .unset] [(.int (0 : Int32))])) _
    refine XS.istore X1.here hx rfl (hb hby own_d1_13) rfl (l' := #[.val (.int (1 : Int32)), .val (.int (0 : Int32)), .val (.int (0 : Int32)), .val .null, .val (.ref wKINDS), .val (.int (7 : Int32)), .val (.int (0 : Int32)), .unset]) rfl ?_
    show Steps p.tables e below (T1.setTop (mkF m 15 #[.val (.int (1 : Int32)), .val (.int (0 : Int32)), .val (.int (0 : Int32)), .val .null, .val (.ref wKINDS), .val (.int (7 : Int32)), .val (.int (0 : Int32)), .unset] [])) _
    refine XS.iload X1.here hx rfl (hb hby own_d1_15) rfl ?_
    show Steps p.tables e below (T1.setTop (mkF m 17 #[.val (.int (1 : Int32)), .val (.int (0 : Int32)), .val (.int (0 : Int32)), .val .null, .val (.ref wKINDS), .val (.int (7 : Int32)), .val (.int (0 : Int32)), .unset] [(.int (0 : Int32))])) _
    refine XS.iload X1.here hx rfl (hb hby own_d1_17) rfl ?_
    show Steps p.tables e below (T1.setTop (mkF m 19 #[.val (.int (1 : Int32)), .val (.int (0 : Int32)), .val (.int (0 : Int32)), .val .null, .val (.ref wKINDS), .val (.int (7 : Int32)), .val (.int (0 : Int32)), .unset] [(.int (7 : Int32)), (.int (0 : Int32))])) _
    refine XS.icmpNo X1.here hx rfl (hb hby own_d1_19) rfl (by decide) ?_
    show Steps p.tables e below (T1.setTop (mkF m 22 #[.val (.int (1 : Int32)), .val (.int (0 : Int32)), .val (.int (0 : Int32)), .val .null, .val (.ref wKINDS), .val (.int (7 : Int32)), .val (.int (0 : Int32)), .unset] [])) _
    refine XS.aload X1.here hx rfl (hb hby own_d1_22) rfl rfl ?_
    show Steps p.tables e below (T1.setTop (mkF m 24 #[.val (.int (1 : Int32)), .val (.int (0 : Int32)), .val (.int (0 : Int32)), .val .null, .val (.ref wKINDS), .val (.int (7 : Int32)), .val (.int (0 : Int32)), .unset] [(.ref wKINDS)])) _
    refine XS.iload X1.here hx rfl (hb hby own_d1_24) rfl ?_
    show Steps p.tables e below (T1.setTop (mkF m 26 #[.val (.int (1 : Int32)), .val (.int (0 : Int32)), .val (.int (0 : Int32)), .val .null, .val (.ref wKINDS), .val (.int (7 : Int32)), .val (.int (0 : Int32)), .unset] [(.int (0 : Int32)), (.ref wKINDS)])) _
    refine X1.aaload hx (j := (0 : Int32)) (v := (.ref wSUBJECT_PREDICATE_OBJECT)) (by rw [e1]; exact Ar2.1) (State.isArrayOf_alike hZ.alike Ar2.2.1) rfl Ar2.2.2 hin3 hat3 (g := (mkF m 26 #[.val (.int (1 : Int32)), .val (.int (0 : Int32)), .val (.int (0 : Int32)), .val .null, .val (.ref wKINDS), .val (.int (7 : Int32)), .val (.int (0 : Int32)), .unset] [(.int (0 : Int32)), (.ref wKINDS)])) rfl rfl (hb hby own_d1_26) _ ?_
    show Steps p.tables e below (T1.setTop (mkF m 27 #[.val (.int (1 : Int32)), .val (.int (0 : Int32)), .val (.int (0 : Int32)), .val .null, .val (.ref wKINDS), .val (.int (7 : Int32)), .val (.int (0 : Int32)), .unset] [(.ref wSUBJECT_PREDICATE_OBJECT)])) _
    refine XS.astore X1.here hx rfl (hb hby own_d1_27) rfl rfl (l' := #[.val (.int (1 : Int32)), .val (.int (0 : Int32)), .val (.int (0 : Int32)), .val .null, .val (.ref wKINDS), .val (.int (7 : Int32)), .val (.int (0 : Int32)), .val (.ref wSUBJECT_PREDICATE_OBJECT)]) rfl ?_
    show Steps p.tables e below (T1.setTop (mkF m 29 #[.val (.int (1 : Int32)), .val (.int (0 : Int32)), .val (.int (0 : Int32)), .val .null, .val (.ref wKINDS), .val (.int (7 : Int32)), .val (.int (0 : Int32)), .val (.ref wSUBJECT_PREDICATE_OBJECT)] [])) _
    refine XS.aload X1.here hx rfl (hb hby own_d1_29) rfl rfl ?_
    show Steps p.tables e below (T1.setTop (mkF m 31 #[.val (.int (1 : Int32)), .val (.int (0 : Int32)), .val (.int (0 : Int32)), .val .null, .val (.ref wKINDS), .val (.int (7 : Int32)), .val (.int (0 : Int32)), .val (.ref wSUBJECT_PREDICATE_OBJECT)] [(.ref wSUBJECT_PREDICATE_OBJECT)])) _
    refine st4 _ ?_
    show Steps p.tables e below (T4.setTop (mkF m 34 #[.val (.int (1 : Int32)), .val (.int (0 : Int32)), .val (.int (0 : Int32)), .val .null, .val (.ref wKINDS), .val (.int (7 : Int32)), .val (.int (0 : Int32)), .val (.ref wSUBJECT_PREDICATE_OBJECT)] [(.int (1 : Int32))])) _
    refine XS.iloadN X4.here hx rfl (hb hby own_d1_34) rfl ?_
    show Steps p.tables e below (T4.setTop (mkF m 35 #[.val (.int (1 : Int32)), .val (.int (0 : Int32)), .val (.int (0 : Int32)), .val .null, .val (.ref wKINDS), .val (.int (7 : Int32)), .val (.int (0 : Int32)), .val (.ref wSUBJECT_PREDICATE_OBJECT)] [(.int (1 : Int32)), (.int (1 : Int32))])) _
    refine XS.icmpNo X4.here hx rfl (hb hby own_d1_35) rfl (by decide) ?_
    show Steps p.tables e below (T4.setTop (mkF m 38 #[.val (.int (1 : Int32)), .val (.int (0 : Int32)), .val (.int (0 : Int32)), .val .null, .val (.ref wKINDS), .val (.int (7 : Int32)), .val (.int (0 : Int32)), .val (.ref wSUBJECT_PREDICATE_OBJECT)] [])) _
    refine XS.aload X4.here hx rfl (hb hby own_d1_38) rfl rfl ?_
    show Steps p.tables e below (T4.setTop (mkF m 40 #[.val (.int (1 : Int32)), .val (.int (0 : Int32)), .val (.int (0 : Int32)), .val .null, .val (.ref wKINDS), .val (.int (7 : Int32)), .val (.int (0 : Int32)), .val (.ref wSUBJECT_PREDICATE_OBJECT)] [(.ref wSUBJECT_PREDICATE_OBJECT)])) _
    refine st5 _ ?_
    show Steps p.tables e below (T5.setTop (mkF m 43 #[.val (.int (1 : Int32)), .val (.int (0 : Int32)), .val (.int (0 : Int32)), .val .null, .val (.ref wKINDS), .val (.int (7 : Int32)), .val (.int (0 : Int32)), .val (.ref wSUBJECT_PREDICATE_OBJECT)] [(.int (1 : Int32))])) _
    refine XS.iloadN X5.here hx rfl (hb hby own_d1_43) rfl ?_
    show Steps p.tables e below (T5.setTop (mkF m 44 #[.val (.int (1 : Int32)), .val (.int (0 : Int32)), .val (.int (0 : Int32)), .val .null, .val (.ref wKINDS), .val (.int (7 : Int32)), .val (.int (0 : Int32)), .val (.ref wSUBJECT_PREDICATE_OBJECT)] [(.int (0 : Int32)), (.int (1 : Int32))])) _
    refine XS.icmpYes X5.here hx rfl (pc0 := 44) (pc' := 59) rfl (hb hby own_d1_44) rfl (by decide) (by decide) (by decide) ?_
    show Steps p.tables e below (T5.setTop (mkF m 59 #[.val (.int (1 : Int32)), .val (.int (0 : Int32)), .val (.int (0 : Int32)), .val .null, .val (.ref wKINDS), .val (.int (7 : Int32)), .val (.int (0 : Int32)), .val (.ref wSUBJECT_PREDICATE_OBJECT)] [])) _
    refine XS.iinc X5.here hx rfl (hb hby own_d1_59) rfl (l' := #[.val (.int (1 : Int32)), .val (.int (0 : Int32)), .val (.int (0 : Int32)), .val .null, .val (.ref wKINDS), .val (.int (7 : Int32)), .val (.int (1 : Int32)), .val (.ref wSUBJECT_PREDICATE_OBJECT)]) rfl ?_
    show Steps p.tables e below (T5.setTop (mkF m 62 #[.val (.int (1 : Int32)), .val (.int (0 : Int32)), .val (.int (0 : Int32)), .val .null, .val (.ref wKINDS), .val (.int (7 : Int32)), .val (.int (1 : Int32)), .val (.ref wSUBJECT_PREDICATE_OBJECT)] [])) _
    refine XS.goto X5.here hx rfl (pc0 := 62) (pc' := 15) rfl (hb hby own_d1_62) (by decide) (by decide) ?_
    show Steps p.tables e below (T5.setTop (mkF m 15 #[.val (.int (1 : Int32)), .val (.int (0 : Int32)), .val (.int (0 : Int32)), .val .null, .val (.ref wKINDS), .val (.int (7 : Int32)), .val (.int (1 : Int32)), .val (.ref wSUBJECT_PREDICATE_OBJECT)] [])) _
    refine XS.iload X5.here hx rfl (hb hby own_d1_15) rfl ?_
    show Steps p.tables e below (T5.setTop (mkF m 17 #[.val (.int (1 : Int32)), .val (.int (0 : Int32)), .val (.int (0 : Int32)), .val .null, .val (.ref wKINDS), .val (.int (7 : Int32)), .val (.int (1 : Int32)), .val (.ref wSUBJECT_PREDICATE_OBJECT)] [(.int (1 : Int32))])) _
    refine XS.iload X5.here hx rfl (hb hby own_d1_17) rfl ?_
    show Steps p.tables e below (T5.setTop (mkF m 19 #[.val (.int (1 : Int32)), .val (.int (0 : Int32)), .val (.int (0 : Int32)), .val .null, .val (.ref wKINDS), .val (.int (7 : Int32)), .val (.int (1 : Int32)), .val (.ref wSUBJECT_PREDICATE_OBJECT)] [(.int (7 : Int32)), (.int (1 : Int32))])) _
    refine XS.icmpNo X5.here hx rfl (hb hby own_d1_19) rfl (by decide) ?_
    show Steps p.tables e below (T5.setTop (mkF m 22 #[.val (.int (1 : Int32)), .val (.int (0 : Int32)), .val (.int (0 : Int32)), .val .null, .val (.ref wKINDS), .val (.int (7 : Int32)), .val (.int (1 : Int32)), .val (.ref wSUBJECT_PREDICATE_OBJECT)] [])) _
    refine XS.aload X5.here hx rfl (hb hby own_d1_22) rfl rfl ?_
    show Steps p.tables e below (T5.setTop (mkF m 24 #[.val (.int (1 : Int32)), .val (.int (0 : Int32)), .val (.int (0 : Int32)), .val .null, .val (.ref wKINDS), .val (.int (7 : Int32)), .val (.int (1 : Int32)), .val (.ref wSUBJECT_PREDICATE_OBJECT)] [(.ref wKINDS)])) _
    refine XS.iload X5.here hx rfl (hb hby own_d1_24) rfl ?_
    show Steps p.tables e below (T5.setTop (mkF m 26 #[.val (.int (1 : Int32)), .val (.int (0 : Int32)), .val (.int (0 : Int32)), .val .null, .val (.ref wKINDS), .val (.int (7 : Int32)), .val (.int (1 : Int32)), .val (.ref wSUBJECT_PREDICATE_OBJECT)] [(.int (1 : Int32)), (.ref wKINDS)])) _
    refine X5.aaload hx (j := (1 : Int32)) (v := (.ref wSUBJECT_PREDICATE)) (by rw [e5]; exact Ar2.1) (State.isArrayOf_alike hZ.alike Ar2.2.1) rfl Ar2.2.2 hin6 hat6 (g := (mkF m 26 #[.val (.int (1 : Int32)), .val (.int (0 : Int32)), .val (.int (0 : Int32)), .val .null, .val (.ref wKINDS), .val (.int (7 : Int32)), .val (.int (1 : Int32)), .val (.ref wSUBJECT_PREDICATE_OBJECT)] [(.int (1 : Int32)), (.ref wKINDS)])) rfl rfl (hb hby own_d1_26) _ ?_
    show Steps p.tables e below (T5.setTop (mkF m 27 #[.val (.int (1 : Int32)), .val (.int (0 : Int32)), .val (.int (0 : Int32)), .val .null, .val (.ref wKINDS), .val (.int (7 : Int32)), .val (.int (1 : Int32)), .val (.ref wSUBJECT_PREDICATE_OBJECT)] [(.ref wSUBJECT_PREDICATE)])) _
    refine XS.astore X5.here hx rfl (hb hby own_d1_27) rfl rfl (l' := #[.val (.int (1 : Int32)), .val (.int (0 : Int32)), .val (.int (0 : Int32)), .val .null, .val (.ref wKINDS), .val (.int (7 : Int32)), .val (.int (1 : Int32)), .val (.ref wSUBJECT_PREDICATE)]) rfl ?_
    show Steps p.tables e below (T5.setTop (mkF m 29 #[.val (.int (1 : Int32)), .val (.int (0 : Int32)), .val (.int (0 : Int32)), .val .null, .val (.ref wKINDS), .val (.int (7 : Int32)), .val (.int (1 : Int32)), .val (.ref wSUBJECT_PREDICATE)] [])) _
    refine XS.aload X5.here hx rfl (hb hby own_d1_29) rfl rfl ?_
    show Steps p.tables e below (T5.setTop (mkF m 31 #[.val (.int (1 : Int32)), .val (.int (0 : Int32)), .val (.int (0 : Int32)), .val .null, .val (.ref wKINDS), .val (.int (7 : Int32)), .val (.int (1 : Int32)), .val (.ref wSUBJECT_PREDICATE)] [(.ref wSUBJECT_PREDICATE)])) _
    refine st7 _ ?_
    show Steps p.tables e below (T7.setTop (mkF m 34 #[.val (.int (1 : Int32)), .val (.int (0 : Int32)), .val (.int (0 : Int32)), .val .null, .val (.ref wKINDS), .val (.int (7 : Int32)), .val (.int (1 : Int32)), .val (.ref wSUBJECT_PREDICATE)] [(.int (1 : Int32))])) _
    refine XS.iloadN X7.here hx rfl (hb hby own_d1_34) rfl ?_
    show Steps p.tables e below (T7.setTop (mkF m 35 #[.val (.int (1 : Int32)), .val (.int (0 : Int32)), .val (.int (0 : Int32)), .val .null, .val (.ref wKINDS), .val (.int (7 : Int32)), .val (.int (1 : Int32)), .val (.ref wSUBJECT_PREDICATE)] [(.int (1 : Int32)), (.int (1 : Int32))])) _
    refine XS.icmpNo X7.here hx rfl (hb hby own_d1_35) rfl (by decide) ?_
    show Steps p.tables e below (T7.setTop (mkF m 38 #[.val (.int (1 : Int32)), .val (.int (0 : Int32)), .val (.int (0 : Int32)), .val .null, .val (.ref wKINDS), .val (.int (7 : Int32)), .val (.int (1 : Int32)), .val (.ref wSUBJECT_PREDICATE)] [])) _
    refine XS.aload X7.here hx rfl (hb hby own_d1_38) rfl rfl ?_
    show Steps p.tables e below (T7.setTop (mkF m 40 #[.val (.int (1 : Int32)), .val (.int (0 : Int32)), .val (.int (0 : Int32)), .val .null, .val (.ref wKINDS), .val (.int (7 : Int32)), .val (.int (1 : Int32)), .val (.ref wSUBJECT_PREDICATE)] [(.ref wSUBJECT_PREDICATE)])) _
    refine st8 _ ?_
    show Steps p.tables e below (T8.setTop (mkF m 43 #[.val (.int (1 : Int32)), .val (.int (0 : Int32)), .val (.int (0 : Int32)), .val .null, .val (.ref wKINDS), .val (.int (7 : Int32)), .val (.int (1 : Int32)), .val (.ref wSUBJECT_PREDICATE)] [(.int (1 : Int32))])) _
    refine XS.iloadN X8.here hx rfl (hb hby own_d1_43) rfl ?_
    show Steps p.tables e below (T8.setTop (mkF m 44 #[.val (.int (1 : Int32)), .val (.int (0 : Int32)), .val (.int (0 : Int32)), .val .null, .val (.ref wKINDS), .val (.int (7 : Int32)), .val (.int (1 : Int32)), .val (.ref wSUBJECT_PREDICATE)] [(.int (0 : Int32)), (.int (1 : Int32))])) _
    refine XS.icmpYes X8.here hx rfl (pc0 := 44) (pc' := 59) rfl (hb hby own_d1_44) rfl (by decide) (by decide) (by decide) ?_
    show Steps p.tables e below (T8.setTop (mkF m 59 #[.val (.int (1 : Int32)), .val (.int (0 : Int32)), .val (.int (0 : Int32)), .val .null, .val (.ref wKINDS), .val (.int (7 : Int32)), .val (.int (1 : Int32)), .val (.ref wSUBJECT_PREDICATE)] [])) _
    refine XS.iinc X8.here hx rfl (hb hby own_d1_59) rfl (l' := #[.val (.int (1 : Int32)), .val (.int (0 : Int32)), .val (.int (0 : Int32)), .val .null, .val (.ref wKINDS), .val (.int (7 : Int32)), .val (.int (2 : Int32)), .val (.ref wSUBJECT_PREDICATE)]) rfl ?_
    show Steps p.tables e below (T8.setTop (mkF m 62 #[.val (.int (1 : Int32)), .val (.int (0 : Int32)), .val (.int (0 : Int32)), .val .null, .val (.ref wKINDS), .val (.int (7 : Int32)), .val (.int (2 : Int32)), .val (.ref wSUBJECT_PREDICATE)] [])) _
    refine XS.goto X8.here hx rfl (pc0 := 62) (pc' := 15) rfl (hb hby own_d1_62) (by decide) (by decide) ?_
    show Steps p.tables e below (T8.setTop (mkF m 15 #[.val (.int (1 : Int32)), .val (.int (0 : Int32)), .val (.int (0 : Int32)), .val .null, .val (.ref wKINDS), .val (.int (7 : Int32)), .val (.int (2 : Int32)), .val (.ref wSUBJECT_PREDICATE)] [])) _
    refine XS.iload X8.here hx rfl (hb hby own_d1_15) rfl ?_
    show Steps p.tables e below (T8.setTop (mkF m 17 #[.val (.int (1 : Int32)), .val (.int (0 : Int32)), .val (.int (0 : Int32)), .val .null, .val (.ref wKINDS), .val (.int (7 : Int32)), .val (.int (2 : Int32)), .val (.ref wSUBJECT_PREDICATE)] [(.int (2 : Int32))])) _
    refine XS.iload X8.here hx rfl (hb hby own_d1_17) rfl ?_
    show Steps p.tables e below (T8.setTop (mkF m 19 #[.val (.int (1 : Int32)), .val (.int (0 : Int32)), .val (.int (0 : Int32)), .val .null, .val (.ref wKINDS), .val (.int (7 : Int32)), .val (.int (2 : Int32)), .val (.ref wSUBJECT_PREDICATE)] [(.int (7 : Int32)), (.int (2 : Int32))])) _
    refine XS.icmpNo X8.here hx rfl (hb hby own_d1_19) rfl (by decide) ?_
    show Steps p.tables e below (T8.setTop (mkF m 22 #[.val (.int (1 : Int32)), .val (.int (0 : Int32)), .val (.int (0 : Int32)), .val .null, .val (.ref wKINDS), .val (.int (7 : Int32)), .val (.int (2 : Int32)), .val (.ref wSUBJECT_PREDICATE)] [])) _
    refine XS.aload X8.here hx rfl (hb hby own_d1_22) rfl rfl ?_
    show Steps p.tables e below (T8.setTop (mkF m 24 #[.val (.int (1 : Int32)), .val (.int (0 : Int32)), .val (.int (0 : Int32)), .val .null, .val (.ref wKINDS), .val (.int (7 : Int32)), .val (.int (2 : Int32)), .val (.ref wSUBJECT_PREDICATE)] [(.ref wKINDS)])) _
    refine XS.iload X8.here hx rfl (hb hby own_d1_24) rfl ?_
    show Steps p.tables e below (T8.setTop (mkF m 26 #[.val (.int (1 : Int32)), .val (.int (0 : Int32)), .val (.int (0 : Int32)), .val .null, .val (.ref wKINDS), .val (.int (7 : Int32)), .val (.int (2 : Int32)), .val (.ref wSUBJECT_PREDICATE)] [(.int (2 : Int32)), (.ref wKINDS)])) _
    refine X8.aaload hx (j := (2 : Int32)) (v := (.ref wSUBJECT_OBJECT)) (by rw [e8]; exact Ar2.1) (State.isArrayOf_alike hZ.alike Ar2.2.1) rfl Ar2.2.2 hin9 hat9 (g := (mkF m 26 #[.val (.int (1 : Int32)), .val (.int (0 : Int32)), .val (.int (0 : Int32)), .val .null, .val (.ref wKINDS), .val (.int (7 : Int32)), .val (.int (2 : Int32)), .val (.ref wSUBJECT_PREDICATE)] [(.int (2 : Int32)), (.ref wKINDS)])) rfl rfl (hb hby own_d1_26) _ ?_
    show Steps p.tables e below (T8.setTop (mkF m 27 #[.val (.int (1 : Int32)), .val (.int (0 : Int32)), .val (.int (0 : Int32)), .val .null, .val (.ref wKINDS), .val (.int (7 : Int32)), .val (.int (2 : Int32)), .val (.ref wSUBJECT_PREDICATE)] [(.ref wSUBJECT_OBJECT)])) _
    refine XS.astore X8.here hx rfl (hb hby own_d1_27) rfl rfl (l' := #[.val (.int (1 : Int32)), .val (.int (0 : Int32)), .val (.int (0 : Int32)), .val .null, .val (.ref wKINDS), .val (.int (7 : Int32)), .val (.int (2 : Int32)), .val (.ref wSUBJECT_OBJECT)]) rfl ?_
    show Steps p.tables e below (T8.setTop (mkF m 29 #[.val (.int (1 : Int32)), .val (.int (0 : Int32)), .val (.int (0 : Int32)), .val .null, .val (.ref wKINDS), .val (.int (7 : Int32)), .val (.int (2 : Int32)), .val (.ref wSUBJECT_OBJECT)] [])) _
    refine XS.aload X8.here hx rfl (hb hby own_d1_29) rfl rfl ?_
    show Steps p.tables e below (T8.setTop (mkF m 31 #[.val (.int (1 : Int32)), .val (.int (0 : Int32)), .val (.int (0 : Int32)), .val .null, .val (.ref wKINDS), .val (.int (7 : Int32)), .val (.int (2 : Int32)), .val (.ref wSUBJECT_OBJECT)] [(.ref wSUBJECT_OBJECT)])) _
    refine st10 _ ?_
    show Steps p.tables e below (T10.setTop (mkF m 34 #[.val (.int (1 : Int32)), .val (.int (0 : Int32)), .val (.int (0 : Int32)), .val .null, .val (.ref wKINDS), .val (.int (7 : Int32)), .val (.int (2 : Int32)), .val (.ref wSUBJECT_OBJECT)] [(.int (1 : Int32))])) _
    refine XS.iloadN X10.here hx rfl (hb hby own_d1_34) rfl ?_
    show Steps p.tables e below (T10.setTop (mkF m 35 #[.val (.int (1 : Int32)), .val (.int (0 : Int32)), .val (.int (0 : Int32)), .val .null, .val (.ref wKINDS), .val (.int (7 : Int32)), .val (.int (2 : Int32)), .val (.ref wSUBJECT_OBJECT)] [(.int (1 : Int32)), (.int (1 : Int32))])) _
    refine XS.icmpNo X10.here hx rfl (hb hby own_d1_35) rfl (by decide) ?_
    show Steps p.tables e below (T10.setTop (mkF m 38 #[.val (.int (1 : Int32)), .val (.int (0 : Int32)), .val (.int (0 : Int32)), .val .null, .val (.ref wKINDS), .val (.int (7 : Int32)), .val (.int (2 : Int32)), .val (.ref wSUBJECT_OBJECT)] [])) _
    refine XS.aload X10.here hx rfl (hb hby own_d1_38) rfl rfl ?_
    show Steps p.tables e below (T10.setTop (mkF m 40 #[.val (.int (1 : Int32)), .val (.int (0 : Int32)), .val (.int (0 : Int32)), .val .null, .val (.ref wKINDS), .val (.int (7 : Int32)), .val (.int (2 : Int32)), .val (.ref wSUBJECT_OBJECT)] [(.ref wSUBJECT_OBJECT)])) _
    refine st11 _ ?_
    show Steps p.tables e below (T11.setTop (mkF m 43 #[.val (.int (1 : Int32)), .val (.int (0 : Int32)), .val (.int (0 : Int32)), .val .null, .val (.ref wKINDS), .val (.int (7 : Int32)), .val (.int (2 : Int32)), .val (.ref wSUBJECT_OBJECT)] [(.int (0 : Int32))])) _
    refine XS.iloadN X11.here hx rfl (hb hby own_d1_43) rfl ?_
    show Steps p.tables e below (T11.setTop (mkF m 44 #[.val (.int (1 : Int32)), .val (.int (0 : Int32)), .val (.int (0 : Int32)), .val .null, .val (.ref wKINDS), .val (.int (7 : Int32)), .val (.int (2 : Int32)), .val (.ref wSUBJECT_OBJECT)] [(.int (0 : Int32)), (.int (0 : Int32))])) _
    refine XS.icmpNo X11.here hx rfl (hb hby own_d1_44) rfl (by decide) ?_
    show Steps p.tables e below (T11.setTop (mkF m 47 #[.val (.int (1 : Int32)), .val (.int (0 : Int32)), .val (.int (0 : Int32)), .val .null, .val (.ref wKINDS), .val (.int (7 : Int32)), .val (.int (2 : Int32)), .val (.ref wSUBJECT_OBJECT)] [])) _
    refine XS.aload X11.here hx rfl (hb hby own_d1_47) rfl rfl ?_
    show Steps p.tables e below (T11.setTop (mkF m 49 #[.val (.int (1 : Int32)), .val (.int (0 : Int32)), .val (.int (0 : Int32)), .val .null, .val (.ref wKINDS), .val (.int (7 : Int32)), .val (.int (2 : Int32)), .val (.ref wSUBJECT_OBJECT)] [(.ref wSUBJECT_OBJECT)])) _
    refine st12 _ ?_
    show Steps p.tables e below (T12.setTop (mkF m 52 #[.val (.int (1 : Int32)), .val (.int (0 : Int32)), .val (.int (0 : Int32)), .val .null, .val (.ref wKINDS), .val (.int (7 : Int32)), .val (.int (2 : Int32)), .val (.ref wSUBJECT_OBJECT)] [(.int (1 : Int32))])) _
    refine XS.iloadN X12.here hx rfl (hb hby own_d1_52) rfl ?_
    show Steps p.tables e below (T12.setTop (mkF m 53 #[.val (.int (1 : Int32)), .val (.int (0 : Int32)), .val (.int (0 : Int32)), .val .null, .val (.ref wKINDS), .val (.int (7 : Int32)), .val (.int (2 : Int32)), .val (.ref wSUBJECT_OBJECT)] [(.int (0 : Int32)), (.int (1 : Int32))])) _
    refine XS.icmpYes X12.here hx rfl (pc0 := 53) (pc' := 59) rfl (hb hby own_d1_53) rfl (by decide) (by decide) (by decide) ?_
    show Steps p.tables e below (T12.setTop (mkF m 59 #[.val (.int (1 : Int32)), .val (.int (0 : Int32)), .val (.int (0 : Int32)), .val .null, .val (.ref wKINDS), .val (.int (7 : Int32)), .val (.int (2 : Int32)), .val (.ref wSUBJECT_OBJECT)] [])) _
    refine XS.iinc X12.here hx rfl (hb hby own_d1_59) rfl (l' := #[.val (.int (1 : Int32)), .val (.int (0 : Int32)), .val (.int (0 : Int32)), .val .null, .val (.ref wKINDS), .val (.int (7 : Int32)), .val (.int (3 : Int32)), .val (.ref wSUBJECT_OBJECT)]) rfl ?_
    show Steps p.tables e below (T12.setTop (mkF m 62 #[.val (.int (1 : Int32)), .val (.int (0 : Int32)), .val (.int (0 : Int32)), .val .null, .val (.ref wKINDS), .val (.int (7 : Int32)), .val (.int (3 : Int32)), .val (.ref wSUBJECT_OBJECT)] [])) _
    refine XS.goto X12.here hx rfl (pc0 := 62) (pc' := 15) rfl (hb hby own_d1_62) (by decide) (by decide) ?_
    show Steps p.tables e below (T12.setTop (mkF m 15 #[.val (.int (1 : Int32)), .val (.int (0 : Int32)), .val (.int (0 : Int32)), .val .null, .val (.ref wKINDS), .val (.int (7 : Int32)), .val (.int (3 : Int32)), .val (.ref wSUBJECT_OBJECT)] [])) _
    refine XS.iload X12.here hx rfl (hb hby own_d1_15) rfl ?_
    show Steps p.tables e below (T12.setTop (mkF m 17 #[.val (.int (1 : Int32)), .val (.int (0 : Int32)), .val (.int (0 : Int32)), .val .null, .val (.ref wKINDS), .val (.int (7 : Int32)), .val (.int (3 : Int32)), .val (.ref wSUBJECT_OBJECT)] [(.int (3 : Int32))])) _
    refine XS.iload X12.here hx rfl (hb hby own_d1_17) rfl ?_
    show Steps p.tables e below (T12.setTop (mkF m 19 #[.val (.int (1 : Int32)), .val (.int (0 : Int32)), .val (.int (0 : Int32)), .val .null, .val (.ref wKINDS), .val (.int (7 : Int32)), .val (.int (3 : Int32)), .val (.ref wSUBJECT_OBJECT)] [(.int (7 : Int32)), (.int (3 : Int32))])) _
    refine XS.icmpNo X12.here hx rfl (hb hby own_d1_19) rfl (by decide) ?_
    show Steps p.tables e below (T12.setTop (mkF m 22 #[.val (.int (1 : Int32)), .val (.int (0 : Int32)), .val (.int (0 : Int32)), .val .null, .val (.ref wKINDS), .val (.int (7 : Int32)), .val (.int (3 : Int32)), .val (.ref wSUBJECT_OBJECT)] [])) _
    refine XS.aload X12.here hx rfl (hb hby own_d1_22) rfl rfl ?_
    show Steps p.tables e below (T12.setTop (mkF m 24 #[.val (.int (1 : Int32)), .val (.int (0 : Int32)), .val (.int (0 : Int32)), .val .null, .val (.ref wKINDS), .val (.int (7 : Int32)), .val (.int (3 : Int32)), .val (.ref wSUBJECT_OBJECT)] [(.ref wKINDS)])) _
    refine XS.iload X12.here hx rfl (hb hby own_d1_24) rfl ?_
    show Steps p.tables e below (T12.setTop (mkF m 26 #[.val (.int (1 : Int32)), .val (.int (0 : Int32)), .val (.int (0 : Int32)), .val .null, .val (.ref wKINDS), .val (.int (7 : Int32)), .val (.int (3 : Int32)), .val (.ref wSUBJECT_OBJECT)] [(.int (3 : Int32)), (.ref wKINDS)])) _
    refine X12.aaload hx (j := (3 : Int32)) (v := (.ref wPREDICATE_OBJECT)) (by rw [e12]; exact Ar2.1) (State.isArrayOf_alike hZ.alike Ar2.2.1) rfl Ar2.2.2 hin13 hat13 (g := (mkF m 26 #[.val (.int (1 : Int32)), .val (.int (0 : Int32)), .val (.int (0 : Int32)), .val .null, .val (.ref wKINDS), .val (.int (7 : Int32)), .val (.int (3 : Int32)), .val (.ref wSUBJECT_OBJECT)] [(.int (3 : Int32)), (.ref wKINDS)])) rfl rfl (hb hby own_d1_26) _ ?_
    show Steps p.tables e below (T12.setTop (mkF m 27 #[.val (.int (1 : Int32)), .val (.int (0 : Int32)), .val (.int (0 : Int32)), .val .null, .val (.ref wKINDS), .val (.int (7 : Int32)), .val (.int (3 : Int32)), .val (.ref wSUBJECT_OBJECT)] [(.ref wPREDICATE_OBJECT)])) _
    refine XS.astore X12.here hx rfl (hb hby own_d1_27) rfl rfl (l' := #[.val (.int (1 : Int32)), .val (.int (0 : Int32)), .val (.int (0 : Int32)), .val .null, .val (.ref wKINDS), .val (.int (7 : Int32)), .val (.int (3 : Int32)), .val (.ref wPREDICATE_OBJECT)]) rfl ?_
    show Steps p.tables e below (T12.setTop (mkF m 29 #[.val (.int (1 : Int32)), .val (.int (0 : Int32)), .val (.int (0 : Int32)), .val .null, .val (.ref wKINDS), .val (.int (7 : Int32)), .val (.int (3 : Int32)), .val (.ref wPREDICATE_OBJECT)] [])) _
    refine XS.aload X12.here hx rfl (hb hby own_d1_29) rfl rfl ?_
    show Steps p.tables e below (T12.setTop (mkF m 31 #[.val (.int (1 : Int32)), .val (.int (0 : Int32)), .val (.int (0 : Int32)), .val .null, .val (.ref wKINDS), .val (.int (7 : Int32)), .val (.int (3 : Int32)), .val (.ref wPREDICATE_OBJECT)] [(.ref wPREDICATE_OBJECT)])) _
    refine st14 _ ?_
    show Steps p.tables e below (T14.setTop (mkF m 34 #[.val (.int (1 : Int32)), .val (.int (0 : Int32)), .val (.int (0 : Int32)), .val .null, .val (.ref wKINDS), .val (.int (7 : Int32)), .val (.int (3 : Int32)), .val (.ref wPREDICATE_OBJECT)] [(.int (0 : Int32))])) _
    refine XS.iloadN X14.here hx rfl (hb hby own_d1_34) rfl ?_
    show Steps p.tables e below (T14.setTop (mkF m 35 #[.val (.int (1 : Int32)), .val (.int (0 : Int32)), .val (.int (0 : Int32)), .val .null, .val (.ref wKINDS), .val (.int (7 : Int32)), .val (.int (3 : Int32)), .val (.ref wPREDICATE_OBJECT)] [(.int (1 : Int32)), (.int (0 : Int32))])) _
    refine XS.icmpYes X14.here hx rfl (pc0 := 35) (pc' := 59) rfl (hb hby own_d1_35) rfl (by decide) (by decide) (by decide) ?_
    show Steps p.tables e below (T14.setTop (mkF m 59 #[.val (.int (1 : Int32)), .val (.int (0 : Int32)), .val (.int (0 : Int32)), .val .null, .val (.ref wKINDS), .val (.int (7 : Int32)), .val (.int (3 : Int32)), .val (.ref wPREDICATE_OBJECT)] [])) _
    refine XS.iinc X14.here hx rfl (hb hby own_d1_59) rfl (l' := #[.val (.int (1 : Int32)), .val (.int (0 : Int32)), .val (.int (0 : Int32)), .val .null, .val (.ref wKINDS), .val (.int (7 : Int32)), .val (.int (4 : Int32)), .val (.ref wPREDICATE_OBJECT)]) rfl ?_
    show Steps p.tables e below (T14.setTop (mkF m 62 #[.val (.int (1 : Int32)), .val (.int (0 : Int32)), .val (.int (0 : Int32)), .val .null, .val (.ref wKINDS), .val (.int (7 : Int32)), .val (.int (4 : Int32)), .val (.ref wPREDICATE_OBJECT)] [])) _
    refine XS.goto X14.here hx rfl (pc0 := 62) (pc' := 15) rfl (hb hby own_d1_62) (by decide) (by decide) ?_
    show Steps p.tables e below (T14.setTop (mkF m 15 #[.val (.int (1 : Int32)), .val (.int (0 : Int32)), .val (.int (0 : Int32)), .val .null, .val (.ref wKINDS), .val (.int (7 : Int32)), .val (.int (4 : Int32)), .val (.ref wPREDICATE_OBJECT)] [])) _
    refine XS.iload X14.here hx rfl (hb hby own_d1_15) rfl ?_
    show Steps p.tables e below (T14.setTop (mkF m 17 #[.val (.int (1 : Int32)), .val (.int (0 : Int32)), .val (.int (0 : Int32)), .val .null, .val (.ref wKINDS), .val (.int (7 : Int32)), .val (.int (4 : Int32)), .val (.ref wPREDICATE_OBJECT)] [(.int (4 : Int32))])) _
    refine XS.iload X14.here hx rfl (hb hby own_d1_17) rfl ?_
    show Steps p.tables e below (T14.setTop (mkF m 19 #[.val (.int (1 : Int32)), .val (.int (0 : Int32)), .val (.int (0 : Int32)), .val .null, .val (.ref wKINDS), .val (.int (7 : Int32)), .val (.int (4 : Int32)), .val (.ref wPREDICATE_OBJECT)] [(.int (7 : Int32)), (.int (4 : Int32))])) _
    refine XS.icmpNo X14.here hx rfl (hb hby own_d1_19) rfl (by decide) ?_
    show Steps p.tables e below (T14.setTop (mkF m 22 #[.val (.int (1 : Int32)), .val (.int (0 : Int32)), .val (.int (0 : Int32)), .val .null, .val (.ref wKINDS), .val (.int (7 : Int32)), .val (.int (4 : Int32)), .val (.ref wPREDICATE_OBJECT)] [])) _
    refine XS.aload X14.here hx rfl (hb hby own_d1_22) rfl rfl ?_
    show Steps p.tables e below (T14.setTop (mkF m 24 #[.val (.int (1 : Int32)), .val (.int (0 : Int32)), .val (.int (0 : Int32)), .val .null, .val (.ref wKINDS), .val (.int (7 : Int32)), .val (.int (4 : Int32)), .val (.ref wPREDICATE_OBJECT)] [(.ref wKINDS)])) _
    refine XS.iload X14.here hx rfl (hb hby own_d1_24) rfl ?_
    show Steps p.tables e below (T14.setTop (mkF m 26 #[.val (.int (1 : Int32)), .val (.int (0 : Int32)), .val (.int (0 : Int32)), .val .null, .val (.ref wKINDS), .val (.int (7 : Int32)), .val (.int (4 : Int32)), .val (.ref wPREDICATE_OBJECT)] [(.int (4 : Int32)), (.ref wKINDS)])) _
    refine X14.aaload hx (j := (4 : Int32)) (v := (.ref wSUBJECT)) (by rw [e14]; exact Ar2.1) (State.isArrayOf_alike hZ.alike Ar2.2.1) rfl Ar2.2.2 hin15 hat15 (g := (mkF m 26 #[.val (.int (1 : Int32)), .val (.int (0 : Int32)), .val (.int (0 : Int32)), .val .null, .val (.ref wKINDS), .val (.int (7 : Int32)), .val (.int (4 : Int32)), .val (.ref wPREDICATE_OBJECT)] [(.int (4 : Int32)), (.ref wKINDS)])) rfl rfl (hb hby own_d1_26) _ ?_
    show Steps p.tables e below (T14.setTop (mkF m 27 #[.val (.int (1 : Int32)), .val (.int (0 : Int32)), .val (.int (0 : Int32)), .val .null, .val (.ref wKINDS), .val (.int (7 : Int32)), .val (.int (4 : Int32)), .val (.ref wPREDICATE_OBJECT)] [(.ref wSUBJECT)])) _
    refine XS.astore X14.here hx rfl (hb hby own_d1_27) rfl rfl (l' := #[.val (.int (1 : Int32)), .val (.int (0 : Int32)), .val (.int (0 : Int32)), .val .null, .val (.ref wKINDS), .val (.int (7 : Int32)), .val (.int (4 : Int32)), .val (.ref wSUBJECT)]) rfl ?_
    show Steps p.tables e below (T14.setTop (mkF m 29 #[.val (.int (1 : Int32)), .val (.int (0 : Int32)), .val (.int (0 : Int32)), .val .null, .val (.ref wKINDS), .val (.int (7 : Int32)), .val (.int (4 : Int32)), .val (.ref wSUBJECT)] [])) _
    refine XS.aload X14.here hx rfl (hb hby own_d1_29) rfl rfl ?_
    show Steps p.tables e below (T14.setTop (mkF m 31 #[.val (.int (1 : Int32)), .val (.int (0 : Int32)), .val (.int (0 : Int32)), .val .null, .val (.ref wKINDS), .val (.int (7 : Int32)), .val (.int (4 : Int32)), .val (.ref wSUBJECT)] [(.ref wSUBJECT)])) _
    refine st16 _ ?_
    show Steps p.tables e below (T16.setTop (mkF m 34 #[.val (.int (1 : Int32)), .val (.int (0 : Int32)), .val (.int (0 : Int32)), .val .null, .val (.ref wKINDS), .val (.int (7 : Int32)), .val (.int (4 : Int32)), .val (.ref wSUBJECT)] [(.int (1 : Int32))])) _
    refine XS.iloadN X16.here hx rfl (hb hby own_d1_34) rfl ?_
    show Steps p.tables e below (T16.setTop (mkF m 35 #[.val (.int (1 : Int32)), .val (.int (0 : Int32)), .val (.int (0 : Int32)), .val .null, .val (.ref wKINDS), .val (.int (7 : Int32)), .val (.int (4 : Int32)), .val (.ref wSUBJECT)] [(.int (1 : Int32)), (.int (1 : Int32))])) _
    refine XS.icmpNo X16.here hx rfl (hb hby own_d1_35) rfl (by decide) ?_
    show Steps p.tables e below (T16.setTop (mkF m 38 #[.val (.int (1 : Int32)), .val (.int (0 : Int32)), .val (.int (0 : Int32)), .val .null, .val (.ref wKINDS), .val (.int (7 : Int32)), .val (.int (4 : Int32)), .val (.ref wSUBJECT)] [])) _
    refine XS.aload X16.here hx rfl (hb hby own_d1_38) rfl rfl ?_
    show Steps p.tables e below (T16.setTop (mkF m 40 #[.val (.int (1 : Int32)), .val (.int (0 : Int32)), .val (.int (0 : Int32)), .val .null, .val (.ref wKINDS), .val (.int (7 : Int32)), .val (.int (4 : Int32)), .val (.ref wSUBJECT)] [(.ref wSUBJECT)])) _
    refine st17 _ ?_
    show Steps p.tables e below (T17.setTop (mkF m 43 #[.val (.int (1 : Int32)), .val (.int (0 : Int32)), .val (.int (0 : Int32)), .val .null, .val (.ref wKINDS), .val (.int (7 : Int32)), .val (.int (4 : Int32)), .val (.ref wSUBJECT)] [(.int (0 : Int32))])) _
    refine XS.iloadN X17.here hx rfl (hb hby own_d1_43) rfl ?_
    show Steps p.tables e below (T17.setTop (mkF m 44 #[.val (.int (1 : Int32)), .val (.int (0 : Int32)), .val (.int (0 : Int32)), .val .null, .val (.ref wKINDS), .val (.int (7 : Int32)), .val (.int (4 : Int32)), .val (.ref wSUBJECT)] [(.int (0 : Int32)), (.int (0 : Int32))])) _
    refine XS.icmpNo X17.here hx rfl (hb hby own_d1_44) rfl (by decide) ?_
    show Steps p.tables e below (T17.setTop (mkF m 47 #[.val (.int (1 : Int32)), .val (.int (0 : Int32)), .val (.int (0 : Int32)), .val .null, .val (.ref wKINDS), .val (.int (7 : Int32)), .val (.int (4 : Int32)), .val (.ref wSUBJECT)] [])) _
    refine XS.aload X17.here hx rfl (hb hby own_d1_47) rfl rfl ?_
    show Steps p.tables e below (T17.setTop (mkF m 49 #[.val (.int (1 : Int32)), .val (.int (0 : Int32)), .val (.int (0 : Int32)), .val .null, .val (.ref wKINDS), .val (.int (7 : Int32)), .val (.int (4 : Int32)), .val (.ref wSUBJECT)] [(.ref wSUBJECT)])) _
    refine st18 _ ?_
    show Steps p.tables e below (T18.setTop (mkF m 52 #[.val (.int (1 : Int32)), .val (.int (0 : Int32)), .val (.int (0 : Int32)), .val .null, .val (.ref wKINDS), .val (.int (7 : Int32)), .val (.int (4 : Int32)), .val (.ref wSUBJECT)] [(.int (0 : Int32))])) _
    refine XS.iloadN X18.here hx rfl (hb hby own_d1_52) rfl ?_
    show Steps p.tables e below (T18.setTop (mkF m 53 #[.val (.int (1 : Int32)), .val (.int (0 : Int32)), .val (.int (0 : Int32)), .val .null, .val (.ref wKINDS), .val (.int (7 : Int32)), .val (.int (4 : Int32)), .val (.ref wSUBJECT)] [(.int (0 : Int32)), (.int (0 : Int32))])) _
    refine XS.icmpNo X18.here hx rfl (hb hby own_d1_53) rfl (by decide) ?_
    show Steps p.tables e below (T18.setTop (mkF m 56 #[.val (.int (1 : Int32)), .val (.int (0 : Int32)), .val (.int (0 : Int32)), .val .null, .val (.ref wKINDS), .val (.int (7 : Int32)), .val (.int (4 : Int32)), .val (.ref wSUBJECT)] [])) _
    refine XS.aload X18.here hx rfl (hb hby own_d1_56) rfl rfl ?_
    show Steps p.tables e below (T18.setTop (mkF m 58 #[.val (.int (1 : Int32)), .val (.int (0 : Int32)), .val (.int (0 : Int32)), .val .null, .val (.ref wKINDS), .val (.int (7 : Int32)), .val (.int (4 : Int32)), .val (.ref wSUBJECT)] [(.ref wSUBJECT)])) _
    refine XS.astoreN X18.here hx rfl (hb hby own_d1_58) rfl rfl (l' := #[.val (.int (1 : Int32)), .val (.int (0 : Int32)), .val (.int (0 : Int32)), .val (.ref wSUBJECT), .val (.ref wKINDS), .val (.int (7 : Int32)), .val (.int (4 : Int32)), .val (.ref wSUBJECT)]) rfl ?_
    show Steps p.tables e below (T18.setTop (mkF m 59 #[.val (.int (1 : Int32)), .val (.int (0 : Int32)), .val (.int (0 : Int32)), .val (.ref wSUBJECT), .val (.ref wKINDS), .val (.int (7 : Int32)), .val (.int (4 : Int32)), .val (.ref wSUBJECT)] [])) _
    refine XS.iinc X18.here hx rfl (hb hby own_d1_59) rfl (l' := #[.val (.int (1 : Int32)), .val (.int (0 : Int32)), .val (.int (0 : Int32)), .val (.ref wSUBJECT), .val (.ref wKINDS), .val (.int (7 : Int32)), .val (.int (5 : Int32)), .val (.ref wSUBJECT)]) rfl ?_
    show Steps p.tables e below (T18.setTop (mkF m 62 #[.val (.int (1 : Int32)), .val (.int (0 : Int32)), .val (.int (0 : Int32)), .val (.ref wSUBJECT), .val (.ref wKINDS), .val (.int (7 : Int32)), .val (.int (5 : Int32)), .val (.ref wSUBJECT)] [])) _
    refine XS.goto X18.here hx rfl (pc0 := 62) (pc' := 15) rfl (hb hby own_d1_62) (by decide) (by decide) ?_
    show Steps p.tables e below (T18.setTop (mkF m 15 #[.val (.int (1 : Int32)), .val (.int (0 : Int32)), .val (.int (0 : Int32)), .val (.ref wSUBJECT), .val (.ref wKINDS), .val (.int (7 : Int32)), .val (.int (5 : Int32)), .val (.ref wSUBJECT)] [])) _
    refine XS.iload X18.here hx rfl (hb hby own_d1_15) rfl ?_
    show Steps p.tables e below (T18.setTop (mkF m 17 #[.val (.int (1 : Int32)), .val (.int (0 : Int32)), .val (.int (0 : Int32)), .val (.ref wSUBJECT), .val (.ref wKINDS), .val (.int (7 : Int32)), .val (.int (5 : Int32)), .val (.ref wSUBJECT)] [(.int (5 : Int32))])) _
    refine XS.iload X18.here hx rfl (hb hby own_d1_17) rfl ?_
    show Steps p.tables e below (T18.setTop (mkF m 19 #[.val (.int (1 : Int32)), .val (.int (0 : Int32)), .val (.int (0 : Int32)), .val (.ref wSUBJECT), .val (.ref wKINDS), .val (.int (7 : Int32)), .val (.int (5 : Int32)), .val (.ref wSUBJECT)] [(.int (7 : Int32)), (.int (5 : Int32))])) _
    refine XS.icmpNo X18.here hx rfl (hb hby own_d1_19) rfl (by decide) ?_
    show Steps p.tables e below (T18.setTop (mkF m 22 #[.val (.int (1 : Int32)), .val (.int (0 : Int32)), .val (.int (0 : Int32)), .val (.ref wSUBJECT), .val (.ref wKINDS), .val (.int (7 : Int32)), .val (.int (5 : Int32)), .val (.ref wSUBJECT)] [])) _
    refine XS.aload X18.here hx rfl (hb hby own_d1_22) rfl rfl ?_
    show Steps p.tables e below (T18.setTop (mkF m 24 #[.val (.int (1 : Int32)), .val (.int (0 : Int32)), .val (.int (0 : Int32)), .val (.ref wSUBJECT), .val (.ref wKINDS), .val (.int (7 : Int32)), .val (.int (5 : Int32)), .val (.ref wSUBJECT)] [(.ref wKINDS)])) _
    refine XS.iload X18.here hx rfl (hb hby own_d1_24) rfl ?_
    show Steps p.tables e below (T18.setTop (mkF m 26 #[.val (.int (1 : Int32)), .val (.int (0 : Int32)), .val (.int (0 : Int32)), .val (.ref wSUBJECT), .val (.ref wKINDS), .val (.int (7 : Int32)), .val (.int (5 : Int32)), .val (.ref wSUBJECT)] [(.int (5 : Int32)), (.ref wKINDS)])) _
    refine X18.aaload hx (j := (5 : Int32)) (v := (.ref wPREDICATE)) (by rw [e18]; exact Ar2.1) (State.isArrayOf_alike hZ.alike Ar2.2.1) rfl Ar2.2.2 hin19 hat19 (g := (mkF m 26 #[.val (.int (1 : Int32)), .val (.int (0 : Int32)), .val (.int (0 : Int32)), .val (.ref wSUBJECT), .val (.ref wKINDS), .val (.int (7 : Int32)), .val (.int (5 : Int32)), .val (.ref wSUBJECT)] [(.int (5 : Int32)), (.ref wKINDS)])) rfl rfl (hb hby own_d1_26) _ ?_
    show Steps p.tables e below (T18.setTop (mkF m 27 #[.val (.int (1 : Int32)), .val (.int (0 : Int32)), .val (.int (0 : Int32)), .val (.ref wSUBJECT), .val (.ref wKINDS), .val (.int (7 : Int32)), .val (.int (5 : Int32)), .val (.ref wSUBJECT)] [(.ref wPREDICATE)])) _
    refine XS.astore X18.here hx rfl (hb hby own_d1_27) rfl rfl (l' := #[.val (.int (1 : Int32)), .val (.int (0 : Int32)), .val (.int (0 : Int32)), .val (.ref wSUBJECT), .val (.ref wKINDS), .val (.int (7 : Int32)), .val (.int (5 : Int32)), .val (.ref wPREDICATE)]) rfl ?_
    show Steps p.tables e below (T18.setTop (mkF m 29 #[.val (.int (1 : Int32)), .val (.int (0 : Int32)), .val (.int (0 : Int32)), .val (.ref wSUBJECT), .val (.ref wKINDS), .val (.int (7 : Int32)), .val (.int (5 : Int32)), .val (.ref wPREDICATE)] [])) _
    refine XS.aload X18.here hx rfl (hb hby own_d1_29) rfl rfl ?_
    show Steps p.tables e below (T18.setTop (mkF m 31 #[.val (.int (1 : Int32)), .val (.int (0 : Int32)), .val (.int (0 : Int32)), .val (.ref wSUBJECT), .val (.ref wKINDS), .val (.int (7 : Int32)), .val (.int (5 : Int32)), .val (.ref wPREDICATE)] [(.ref wPREDICATE)])) _
    refine st20 _ ?_
    show Steps p.tables e below (T20.setTop (mkF m 34 #[.val (.int (1 : Int32)), .val (.int (0 : Int32)), .val (.int (0 : Int32)), .val (.ref wSUBJECT), .val (.ref wKINDS), .val (.int (7 : Int32)), .val (.int (5 : Int32)), .val (.ref wPREDICATE)] [(.int (0 : Int32))])) _
    refine XS.iloadN X20.here hx rfl (hb hby own_d1_34) rfl ?_
    show Steps p.tables e below (T20.setTop (mkF m 35 #[.val (.int (1 : Int32)), .val (.int (0 : Int32)), .val (.int (0 : Int32)), .val (.ref wSUBJECT), .val (.ref wKINDS), .val (.int (7 : Int32)), .val (.int (5 : Int32)), .val (.ref wPREDICATE)] [(.int (1 : Int32)), (.int (0 : Int32))])) _
    refine XS.icmpYes X20.here hx rfl (pc0 := 35) (pc' := 59) rfl (hb hby own_d1_35) rfl (by decide) (by decide) (by decide) ?_
    show Steps p.tables e below (T20.setTop (mkF m 59 #[.val (.int (1 : Int32)), .val (.int (0 : Int32)), .val (.int (0 : Int32)), .val (.ref wSUBJECT), .val (.ref wKINDS), .val (.int (7 : Int32)), .val (.int (5 : Int32)), .val (.ref wPREDICATE)] [])) _
    refine XS.iinc X20.here hx rfl (hb hby own_d1_59) rfl (l' := #[.val (.int (1 : Int32)), .val (.int (0 : Int32)), .val (.int (0 : Int32)), .val (.ref wSUBJECT), .val (.ref wKINDS), .val (.int (7 : Int32)), .val (.int (6 : Int32)), .val (.ref wPREDICATE)]) rfl ?_
    show Steps p.tables e below (T20.setTop (mkF m 62 #[.val (.int (1 : Int32)), .val (.int (0 : Int32)), .val (.int (0 : Int32)), .val (.ref wSUBJECT), .val (.ref wKINDS), .val (.int (7 : Int32)), .val (.int (6 : Int32)), .val (.ref wPREDICATE)] [])) _
    refine XS.goto X20.here hx rfl (pc0 := 62) (pc' := 15) rfl (hb hby own_d1_62) (by decide) (by decide) ?_
    show Steps p.tables e below (T20.setTop (mkF m 15 #[.val (.int (1 : Int32)), .val (.int (0 : Int32)), .val (.int (0 : Int32)), .val (.ref wSUBJECT), .val (.ref wKINDS), .val (.int (7 : Int32)), .val (.int (6 : Int32)), .val (.ref wPREDICATE)] [])) _
    refine XS.iload X20.here hx rfl (hb hby own_d1_15) rfl ?_
    show Steps p.tables e below (T20.setTop (mkF m 17 #[.val (.int (1 : Int32)), .val (.int (0 : Int32)), .val (.int (0 : Int32)), .val (.ref wSUBJECT), .val (.ref wKINDS), .val (.int (7 : Int32)), .val (.int (6 : Int32)), .val (.ref wPREDICATE)] [(.int (6 : Int32))])) _
    refine XS.iload X20.here hx rfl (hb hby own_d1_17) rfl ?_
    show Steps p.tables e below (T20.setTop (mkF m 19 #[.val (.int (1 : Int32)), .val (.int (0 : Int32)), .val (.int (0 : Int32)), .val (.ref wSUBJECT), .val (.ref wKINDS), .val (.int (7 : Int32)), .val (.int (6 : Int32)), .val (.ref wPREDICATE)] [(.int (7 : Int32)), (.int (6 : Int32))])) _
    refine XS.icmpNo X20.here hx rfl (hb hby own_d1_19) rfl (by decide) ?_
    show Steps p.tables e below (T20.setTop (mkF m 22 #[.val (.int (1 : Int32)), .val (.int (0 : Int32)), .val (.int (0 : Int32)), .val (.ref wSUBJECT), .val (.ref wKINDS), .val (.int (7 : Int32)), .val (.int (6 : Int32)), .val (.ref wPREDICATE)] [])) _
    refine XS.aload X20.here hx rfl (hb hby own_d1_22) rfl rfl ?_
    show Steps p.tables e below (T20.setTop (mkF m 24 #[.val (.int (1 : Int32)), .val (.int (0 : Int32)), .val (.int (0 : Int32)), .val (.ref wSUBJECT), .val (.ref wKINDS), .val (.int (7 : Int32)), .val (.int (6 : Int32)), .val (.ref wPREDICATE)] [(.ref wKINDS)])) _
    refine XS.iload X20.here hx rfl (hb hby own_d1_24) rfl ?_
    show Steps p.tables e below (T20.setTop (mkF m 26 #[.val (.int (1 : Int32)), .val (.int (0 : Int32)), .val (.int (0 : Int32)), .val (.ref wSUBJECT), .val (.ref wKINDS), .val (.int (7 : Int32)), .val (.int (6 : Int32)), .val (.ref wPREDICATE)] [(.int (6 : Int32)), (.ref wKINDS)])) _
    refine X20.aaload hx (j := (6 : Int32)) (v := (.ref wOBJECT)) (by rw [e20]; exact Ar2.1) (State.isArrayOf_alike hZ.alike Ar2.2.1) rfl Ar2.2.2 hin21 hat21 (g := (mkF m 26 #[.val (.int (1 : Int32)), .val (.int (0 : Int32)), .val (.int (0 : Int32)), .val (.ref wSUBJECT), .val (.ref wKINDS), .val (.int (7 : Int32)), .val (.int (6 : Int32)), .val (.ref wPREDICATE)] [(.int (6 : Int32)), (.ref wKINDS)])) rfl rfl (hb hby own_d1_26) _ ?_
    show Steps p.tables e below (T20.setTop (mkF m 27 #[.val (.int (1 : Int32)), .val (.int (0 : Int32)), .val (.int (0 : Int32)), .val (.ref wSUBJECT), .val (.ref wKINDS), .val (.int (7 : Int32)), .val (.int (6 : Int32)), .val (.ref wPREDICATE)] [(.ref wOBJECT)])) _
    refine XS.astore X20.here hx rfl (hb hby own_d1_27) rfl rfl (l' := #[.val (.int (1 : Int32)), .val (.int (0 : Int32)), .val (.int (0 : Int32)), .val (.ref wSUBJECT), .val (.ref wKINDS), .val (.int (7 : Int32)), .val (.int (6 : Int32)), .val (.ref wOBJECT)]) rfl ?_
    show Steps p.tables e below (T20.setTop (mkF m 29 #[.val (.int (1 : Int32)), .val (.int (0 : Int32)), .val (.int (0 : Int32)), .val (.ref wSUBJECT), .val (.ref wKINDS), .val (.int (7 : Int32)), .val (.int (6 : Int32)), .val (.ref wOBJECT)] [])) _
    refine XS.aload X20.here hx rfl (hb hby own_d1_29) rfl rfl ?_
    show Steps p.tables e below (T20.setTop (mkF m 31 #[.val (.int (1 : Int32)), .val (.int (0 : Int32)), .val (.int (0 : Int32)), .val (.ref wSUBJECT), .val (.ref wKINDS), .val (.int (7 : Int32)), .val (.int (6 : Int32)), .val (.ref wOBJECT)] [(.ref wOBJECT)])) _
    refine st22 _ ?_
    show Steps p.tables e below (T22.setTop (mkF m 34 #[.val (.int (1 : Int32)), .val (.int (0 : Int32)), .val (.int (0 : Int32)), .val (.ref wSUBJECT), .val (.ref wKINDS), .val (.int (7 : Int32)), .val (.int (6 : Int32)), .val (.ref wOBJECT)] [(.int (0 : Int32))])) _
    refine XS.iloadN X22.here hx rfl (hb hby own_d1_34) rfl ?_
    show Steps p.tables e below (T22.setTop (mkF m 35 #[.val (.int (1 : Int32)), .val (.int (0 : Int32)), .val (.int (0 : Int32)), .val (.ref wSUBJECT), .val (.ref wKINDS), .val (.int (7 : Int32)), .val (.int (6 : Int32)), .val (.ref wOBJECT)] [(.int (1 : Int32)), (.int (0 : Int32))])) _
    refine XS.icmpYes X22.here hx rfl (pc0 := 35) (pc' := 59) rfl (hb hby own_d1_35) rfl (by decide) (by decide) (by decide) ?_
    show Steps p.tables e below (T22.setTop (mkF m 59 #[.val (.int (1 : Int32)), .val (.int (0 : Int32)), .val (.int (0 : Int32)), .val (.ref wSUBJECT), .val (.ref wKINDS), .val (.int (7 : Int32)), .val (.int (6 : Int32)), .val (.ref wOBJECT)] [])) _
    refine XS.iinc X22.here hx rfl (hb hby own_d1_59) rfl (l' := #[.val (.int (1 : Int32)), .val (.int (0 : Int32)), .val (.int (0 : Int32)), .val (.ref wSUBJECT), .val (.ref wKINDS), .val (.int (7 : Int32)), .val (.int (7 : Int32)), .val (.ref wOBJECT)]) rfl ?_
    show Steps p.tables e below (T22.setTop (mkF m 62 #[.val (.int (1 : Int32)), .val (.int (0 : Int32)), .val (.int (0 : Int32)), .val (.ref wSUBJECT), .val (.ref wKINDS), .val (.int (7 : Int32)), .val (.int (7 : Int32)), .val (.ref wOBJECT)] [])) _
    refine XS.goto X22.here hx rfl (pc0 := 62) (pc' := 15) rfl (hb hby own_d1_62) (by decide) (by decide) ?_
    show Steps p.tables e below (T22.setTop (mkF m 15 #[.val (.int (1 : Int32)), .val (.int (0 : Int32)), .val (.int (0 : Int32)), .val (.ref wSUBJECT), .val (.ref wKINDS), .val (.int (7 : Int32)), .val (.int (7 : Int32)), .val (.ref wOBJECT)] [])) _
    refine XS.iload X22.here hx rfl (hb hby own_d1_15) rfl ?_
    show Steps p.tables e below (T22.setTop (mkF m 17 #[.val (.int (1 : Int32)), .val (.int (0 : Int32)), .val (.int (0 : Int32)), .val (.ref wSUBJECT), .val (.ref wKINDS), .val (.int (7 : Int32)), .val (.int (7 : Int32)), .val (.ref wOBJECT)] [(.int (7 : Int32))])) _
    refine XS.iload X22.here hx rfl (hb hby own_d1_17) rfl ?_
    show Steps p.tables e below (T22.setTop (mkF m 19 #[.val (.int (1 : Int32)), .val (.int (0 : Int32)), .val (.int (0 : Int32)), .val (.ref wSUBJECT), .val (.ref wKINDS), .val (.int (7 : Int32)), .val (.int (7 : Int32)), .val (.ref wOBJECT)] [(.int (7 : Int32)), (.int (7 : Int32))])) _
    refine XS.icmpYes X22.here hx rfl (pc0 := 19) (pc' := 65) rfl (hb hby own_d1_19) rfl (by decide) (by decide) (by decide) ?_
    show Steps p.tables e below (T22.setTop (mkF m 65 #[.val (.int (1 : Int32)), .val (.int (0 : Int32)), .val (.int (0 : Int32)), .val (.ref wSUBJECT), .val (.ref wKINDS), .val (.int (7 : Int32)), .val (.int (7 : Int32)), .val (.ref wOBJECT)] [])) _
    refine XS.aloadN X22.here hx rfl (hb hby own_d1_65) rfl rfl ?_
    show Steps p.tables e below (T22.setTop (mkF m 66 #[.val (.int (1 : Int32)), .val (.int (0 : Int32)), .val (.int (0 : Int32)), .val (.ref wSUBJECT), .val (.ref wKINDS), .val (.int (7 : Int32)), .val (.int (7 : Int32)), .val (.ref wOBJECT)] [(.ref wSUBJECT)])) _
    jvm_step X22.here [X22.here.top, hx, (hb hby own_d1_66), X22.method', Bd.returns, Value.isRef, FieldType.isReference]
    first | (intro acts; rw [hr _ acts rfl rfl rfl]) | rw [hr _ _ rfl rfl rfl]
    exact Steps.refl _
  · show OwnQ _ h0 n0 _ T22.heap _
    exact ⟨rfl, N0, e22⟩
theorem own_d2_4 : decode method_2_code 4 = .ok (.iload_n 1, 1) := by decide +kernel
theorem own_d2_5 : decode method_2_code 5 = .ok (.ifCond .eq 15, 3) := by decide +kernel
theorem own_d2_20 : decode method_2_code 20 = .ok (.iload_n 2, 1) := by decide +kernel
theorem own_d2_21 : decode method_2_code 21 = .ok (.ifCond .eq 7, 3) := by decide +kernel
theorem own_d2_28 : decode method_2_code 28 = .ok (.getstatic 19, 3) := by decide +kernel
theorem own_d2_31 : decode method_2_code 31 = .ok (.areturn, 1) := by decide +kernel
set_option maxRecDepth 65536 in
set_option maxHeartbeats 40000000 in
theorem own_expected_3 (l : Launch) (Z : State) (a0 : Array Value) (hw : ∀ d ∈ tables_1, d.before a0 Z = true) (ws : List Jvm.Cond) (wKINDS : Addr) (wSUBJECT_PREDICATE_OBJECT : Addr) (wSUBJECT_PREDICATE : Addr) (wSUBJECT_OBJECT : Addr) (wPREDICATE_OBJECT : Addr) (wSUBJECT : Addr) (wPREDICATE : Addr) (wOBJECT : Addr) (kKINDS : ClassId) (G : OwnG Z wKINDS wSUBJECT_PREDICATE_OBJECT wSUBJECT_PREDICATE wSUBJECT_OBJECT wPREDICATE_OBJECT wSUBJECT wPREDICATE wOBJECT kKINDS) (h0 : Heap) (n0 : Nat) (O0 : Old Z n0 h0) :
    MetFree l (⟨"com/example/quadrille/quadrille/graphfilter/PatternKindKeepingPinLaw", "expected", "(ZZZ)Lcom/example/quadrille/quadrille/graphfilter/PatternKind;"⟩ : MethodName) (head1 (Jvm.Cond.code (⟨"com/example/quadrille/quadrille/graphfilter/PatternKindKeepingPinLaw", "expected", "(ZZZ)Lcom/example/quadrille/quadrille/graphfilter/PatternKind;"⟩ : MethodName) method_2_code 3 (some (.object "com/example/quadrille/quadrille/graphfilter/PatternKind")) :: ws) ({ frames := 0, cells := 0, slots := 0, locals := 0 } : Room)) (fun a U => a = #[(.int (1 : Int32)), (.int (0 : Int32)), (.int (0 : Int32))] ∧ Z.Warmed39 U.vm ∧ U.heap = h0) (fun _ _ _ _ _ => True) (fun _ U o U' => ∃ v L, o = .returned v ∧ OwnQ (some (.ref wSUBJECT)) h0 n0 v U'.heap L ∧ FrameEnd U o U' L ({ frames := 0, cells := 0, slots := 0, locals := 0 } : Room).cells ({ frames := 0, cells := 0, slots := 0, locals := 0 } : Room).slots) := by
  refine MetFree.of_bodySF (plainFor_of_name own_pn_0) hisR ?_
  intro p e s m args below meth c s₁ Bd hml0 hP hK
  obtain ⟨rfl, hZ, hh⟩ := hP
  have hx := Bd.exec
  have hby := Bd.bytes
  have hml : c.maxLocals = 3 := hml0
  have hown : s.vm.findClass "com/example/quadrille/quadrille/graphfilter/PatternKindKeepingPinLaw" = some m.cls := findClass_of_methodNamed Bd.named
  have hnm := (name_of_methodNamed Bd.named Bd.method).1
  have X0 : Stand p l e ({ frames := 0, cells := 0, slots := 0, locals := 0 } : Room) s m #[(.int (1 : Int32)), (.int (0 : Int32)), (.int (0 : Int32))] below meth c s₁ [] 0 0 := Stand.of_body Bd
  have e0 : s₁.heap = h0 := by rw [← hh, Bd.state]; rfl
  have N0 := Fr.nil n0
  have pre0 : ∀ t, Steps p.tables e below (s₁.setTop (mkF m 0 #[.val (.int (1 : Int32)), .val (.int (0 : Int32)), .val (.int (0 : Int32))] [])) t → Steps p.tables e below (s₁.setTop (entryFrame m #[(.int (1 : Int32)), (.int (0 : Int32)), (.int (0 : Int32))] 3)) t := fun t k => castTop (own_ef_2_III m (1 : Int32) (0 : Int32) (0 : Int32)) k
  obtain ⟨T1, X1, e1, st1⟩ := getS2 X0 hx hZ hown (host := "") (Or.inl (hw _ (List.mem_of_getElem? (i := 27) rfl))) Via.refl e0 (G.2.2.2.2.2.2.2.2.2.1.ext O0.2) (g := (mkF m 28 #[.val (.int (1 : Int32)), .val (.int (0 : Int32)), .val (.int (0 : Int32))] [])) rfl (hb hby own_d2_28)
  obtain ⟨fs, hr, hrun, hended, hW, hsame⟩ := X1.leave (v := some (.ref wSUBJECT)) (fun h => by rw [Bd.returns] at h; cases h)
  refine ⟨_, _, pre0 _ ?_, hrun, hended, _, _, rfl, ?_, ⟨_, rfl⟩, hW, hsame.mono (by decide) (by decide)⟩
  · show Steps p.tables e below (s₁.setTop (mkF m 0 #[.val (.int (1 : Int32)), .val (.int (0 : Int32)), .val (.int (0 : Int32))] [])) _
    refine XS.iloadN X0.here hx rfl (hb hby own_d2_0) rfl ?_
    show Steps p.tables e below (s₁.setTop (mkF m 1 #[.val (.int (1 : Int32)), .val (.int (0 : Int32)), .val (.int (0 : Int32))] [(.int (1 : Int32))])) _
    refine XS.ifNo X0.here hx rfl (hb hby own_d2_1) rfl (by decide) ?_
    show Steps p.tables e below (s₁.setTop (mkF m 4 #[.val (.int (1 : Int32)), .val (.int (0 : Int32)), .val (.int (0 : Int32))] [])) _
    refine XS.iloadN X0.here hx rfl (hb hby own_d2_4) rfl ?_
    show Steps p.tables e below (s₁.setTop (mkF m 5 #[.val (.int (1 : Int32)), .val (.int (0 : Int32)), .val (.int (0 : Int32))] [(.int (0 : Int32))])) _
    refine XS.ifYes X0.here hx rfl (pc0 := 5) (pc' := 20) rfl (hb hby own_d2_5) rfl (by decide) (by decide) (by decide) ?_
    show Steps p.tables e below (s₁.setTop (mkF m 20 #[.val (.int (1 : Int32)), .val (.int (0 : Int32)), .val (.int (0 : Int32))] [])) _
    refine XS.iloadN X0.here hx rfl (hb hby own_d2_20) rfl ?_
    show Steps p.tables e below (s₁.setTop (mkF m 21 #[.val (.int (1 : Int32)), .val (.int (0 : Int32)), .val (.int (0 : Int32))] [(.int (0 : Int32))])) _
    refine XS.ifYes X0.here hx rfl (pc0 := 21) (pc' := 28) rfl (hb hby own_d2_21) rfl (by decide) (by decide) (by decide) ?_
    show Steps p.tables e below (s₁.setTop (mkF m 28 #[.val (.int (1 : Int32)), .val (.int (0 : Int32)), .val (.int (0 : Int32))] [])) _
    refine st1 _ ?_
    show Steps p.tables e below (T1.setTop (mkF m 31 #[.val (.int (1 : Int32)), .val (.int (0 : Int32)), .val (.int (0 : Int32))] [(.ref wSUBJECT)])) _
    jvm_step X1.here [X1.here.top, hx, (hb hby own_d2_31), X1.method', Bd.returns, Value.isRef, FieldType.isReference]
    first | (intro acts; rw [hr _ acts rfl rfl rfl]) | rw [hr _ _ rfl rfl rfl]
    exact Steps.refl _
  · show OwnQ _ h0 n0 _ T1.heap _
    exact ⟨rfl, N0, e1⟩
set_option maxRecDepth 65536 in
set_option maxHeartbeats 40000000 in
theorem own_law_1 (l : Launch) (Z : State) (a0 : Array Value) (hw : ∀ d ∈ tables_1, d.before a0 Z = true) (ws : List Jvm.Cond) (wKINDS : Addr) (wSUBJECT_PREDICATE_OBJECT : Addr) (wSUBJECT_PREDICATE : Addr) (wSUBJECT_OBJECT : Addr) (wPREDICATE_OBJECT : Addr) (wSUBJECT : Addr) (wPREDICATE : Addr) (wOBJECT : Addr) (kKINDS : ClassId) (G : OwnG Z wKINDS wSUBJECT_PREDICATE_OBJECT wSUBJECT_PREDICATE wSUBJECT_OBJECT wPREDICATE_OBJECT wSUBJECT wPREDICATE wOBJECT kKINDS) (h0 : Heap) (n0 : Nat) (O0 : Old Z n0 h0) (p1 : Int32) (h1 : ¬ ((p1 &&& (1 : Int32)) = (0 : Int32))) (h2 : (p1 &&& (2 : Int32)) = (0 : Int32)) (h4 : (p1 &&& (4 : Int32)) = (0 : Int32)) :
    MetFree l x (head1 (Jvm.Cond.code x code maxLocals ret :: ws) room_1) (fun a U => a = #[(.int p1)] ∧ Z.Warmed39 U.vm ∧ U.heap = h0) (fun _ _ _ _ _ => True) (fun _ U o U' => ∃ v L, o = .returned v ∧ (v = some (.int 1) ∧ Fr n0 L) ∧ FrameEnd U o U' L room_1.cells room_1.slots) := by
  refine MetFree.of_bodySF (plainFor_of_name own_pn_0) hisR ?_
  intro p e s m args below meth c s₁ Bd hml0 hP hK
  obtain ⟨rfl, hZ, hh⟩ := hP
  have hx := Bd.exec
  have hby := Bd.bytes
  have hml : c.maxLocals = 5 := hml0
  have hown : s.vm.findClass "com/example/quadrille/quadrille/graphfilter/PatternKindKeepingPinLaw" = some m.cls := findClass_of_methodNamed Bd.named
  have hnm := (name_of_methodNamed Bd.named Bd.method).1
  have X0 : Stand p l e room_1 s m #[(.int p1)] below meth c s₁ [] 0 0 := Stand.of_body Bd
  have e0 : s₁.heap = h0 := by rw [← hh, Bd.state]; rfl
  have N0 := Fr.nil n0
  have pre0 : ∀ t, Steps p.tables e below (s₁.setTop (mkF m 0 #[.val (.int p1), .unset, .unset, .unset, .unset] [])) t → Steps p.tables e below (s₁.setTop (entryFrame m #[(.int p1)] maxLocals)) t := fun t k => castTop (own_ef_0_I m p1) k
  obtain ⟨_, _, ⟨T1, L1, k1, n1⟩, -, X1, ⟨Lc1, hQ1, l1, y1, z1⟩, st1⟩ := Jvm.LawKit.callS X0 hx (y := (⟨"com/example/quadrille/quadrille/graphfilter/PatternKind", "keeping", "(ZZZ)Lcom/example/quadrille/quadrille/graphfilter/PatternKind;"⟩ : MethodName)) hown (mvT hZ (hw _ (List.mem_of_getElem? (i := 0) rfl))) (mvT hZ (hw _ (List.mem_of_getElem? (i := 1) rfl))) (mvT hZ (hw _ (List.mem_of_getElem? (i := 2) rfl))) (mvT hZ (hw _ (List.mem_of_getElem? (i := 3) rfl))) (by decide) (backOf (W := 0) (own_keeping_2 l Z a0 hw [] wKINDS wSUBJECT_PREDICATE_OBJECT wSUBJECT_PREDICATE wSUBJECT_OBJECT wPREDICATE_OBJECT wSUBJECT wPREDICATE wOBJECT kKINDS G h0 n0 O0) hZ (hw _ (List.mem_of_getElem? (i := 3) rfl)) (hw _ (List.mem_of_getElem? (i := 2) rfl)) (by decide) (by decide)) (g := (mkF m 39 #[.val (.int p1), .val (.int (1 : Int32)), .val (.int (0 : Int32)), .val (.int (0 : Int32)), .unset] [(.int (0 : Int32)), (.int (0 : Int32)), (.int (1 : Int32))])) rfl (by rw [hml]; rfl) (argsL := [(.int (1 : Int32)), (.int (0 : Int32)), (.int (0 : Int32))]) (rest := []) (lenOf own_pd_0 rfl) rfl (by show 2 * 0 + _ ≤ _; exact Nat.le_of_eq rfl) (hb hby at_39) (fun _ _ => ⟨rfl, e0, (by decide : 0 + 0 ≤ _), (by decide : 0 + 0 ≤ _)⟩)
  dsimp only [Pt.U, Pt.locs, Pt.cells, Pt.slots] at X1 l1 y1 z1 st1 hQ1
  subst l1 y1 z1
  obtain ⟨rfl, N1q, e1⟩ := hQ1
  have N1 := Fr.app N0 N1q
  obtain ⟨_, _, ⟨T2, L2, k2, n2⟩, -, X2, ⟨Lc2, hQ2, l2, y2, z2⟩, st2⟩ := Jvm.LawKit.callS X1 hx (y := (⟨"com/example/quadrille/quadrille/graphfilter/PatternKindKeepingPinLaw", "expected", "(ZZZ)Lcom/example/quadrille/quadrille/graphfilter/PatternKind;"⟩ : MethodName)) hown (mvT hZ (hw _ (List.mem_of_getElem? (i := 19) rfl))) (mvT hZ (hw _ (List.mem_of_getElem? (i := 20) rfl))) (mvT hZ (hw _ (List.mem_of_getElem? (i := 21) rfl))) (mvT hZ (hw _ (List.mem_of_getElem? (i := 22) rfl))) (by decide) (backOf (W := 1) (own_expected_3 l Z a0 hw [] wKINDS wSUBJECT_PREDICATE_OBJECT wSUBJECT_PREDICATE wSUBJECT_OBJECT wPREDICATE_OBJECT wSUBJECT wPREDICATE wOBJECT kKINDS G h0 n0 O0) hZ (hw _ (List.mem_of_getElem? (i := 22) rfl)) (hw _ (List.mem_of_getElem? (i := 21) rfl)) (by decide) (by decide)) (g := (mkF m 49 #[.val (.int p1), .val (.int (1 : Int32)), .val (.int (0 : Int32)), .val (.int (0 : Int32)), .val (.ref wSUBJECT)] [(.int (0 : Int32)), (.int (0 : Int32)), (.int (1 : Int32)), (.ref wSUBJECT)])) rfl (by rw [hml]; rfl) (argsL := [(.int (1 : Int32)), (.int (0 : Int32)), (.int (0 : Int32))]) (rest := [(.ref wSUBJECT)]) (lenOf own_pd_0 rfl) rfl (by show 2 * 0 + _ ≤ _; exact Nat.le_of_eq rfl) (hb hby at_49) (fun _ _ => ⟨rfl, e1, (by decide : 0 + 0 ≤ _), (by decide : 0 + 0 ≤ _)⟩)
  dsimp only [Pt.U, Pt.locs, Pt.cells, Pt.slots] at X2 l2 y2 z2 st2 hQ2
  subst l2 y2 z2
  obtain ⟨rfl, N2q, e2⟩ := hQ2
  have N2 := Fr.app N1 N2q
  obtain ⟨fs, hr, hrun, hended, hW, hsame⟩ := X2.leave (v := some (.int (1 : Int32))) (fun h => by rw [Bd.returns] at h; cases h)
  refine ⟨_, _, pre0 _ ?_, hrun, hended, _, _, rfl, ?_, ⟨_, rfl⟩, hW, hsame.mono (by decide) (by decide)⟩
  · show Steps p.tables e below (s₁.setTop (mkF m 0 #[.val (.int p1), .unset, .unset, .unset, .unset] [])) _
    refine XS.iloadN X0.here hx rfl (hb hby at_0) rfl ?_
    show Steps p.tables e below (s₁.setTop (mkF m 1 #[.val (.int p1), .unset, .unset, .unset, .unset] [(.int p1)])) _
    refine XS.iconst X0.here hx rfl (hb hby at_1) ?_
    show Steps p.tables e below (s₁.setTop (mkF m 2 #[.val (.int p1), .unset, .unset, .unset, .unset] [(.int (1 : Int32)), (.int p1)])) _
    refine XS.iand X0.here hx rfl (hb hby at_2) rfl ?_
    show Steps p.tables e below (s₁.setTop (mkF m 3 #[.val (.int p1), .unset, .unset, .unset, .unset] [(.int (p1 &&& (1 : Int32)))])) _
    refine XS.ifNo X0.here hx rfl (hb hby at_3) rfl ((if0 _ _).trans (feq (h1 : ¬ ((p1 &&& (1 : Int32)) = (0 : Int32)))).1) ?_
    show Steps p.tables e below (s₁.setTop (mkF m 6 #[.val (.int p1), .unset, .unset, .unset, .unset] [])) _
    refine XS.iconst X0.here hx rfl (hb hby at_6) ?_
    show Steps p.tables e below (s₁.setTop (mkF m 7 #[.val (.int p1), .unset, .unset, .unset, .unset] [(.int (1 : Int32))])) _
    refine XS.goto X0.here hx rfl (pc0 := 7) (pc' := 11) rfl (hb hby at_7) (by decide) (by decide) ?_
    show Steps p.tables e below (s₁.setTop (mkF m 11 #[.val (.int p1), .unset, .unset, .unset, .unset] [(.int (1 : Int32))])) _
    refine XS.istoreN X0.here hx rfl (hb hby at_11) rfl (l' := #[.val (.int p1), .val (.int (1 : Int32)), .unset, .unset, .unset]) rfl ?_
    show Steps p.tables e below (s₁.setTop (mkF m 12 #[.val (.int p1), .val (.int (1 : Int32)), .unset, .unset, .unset] [])) _
    refine XS.iloadN X0.here hx rfl (hb hby at_12) rfl ?_
    show Steps p.tables e below (s₁.setTop (mkF m 13 #[.val (.int p1), .val (.int (1 : Int32)), .unset, .unset, .unset] [(.int p1)])) _
    refine XS.iconst X0.here hx rfl (hb hby at_13) ?_
    show Steps p.tables e below (s₁.setTop (mkF m 14 #[.val (.int p1), .val (.int (1 : Int32)), .unset, .unset, .unset] [(.int (2 : Int32)), (.int p1)])) _
    refine XS.iand X0.here hx rfl (hb hby at_14) rfl ?_
    show Steps p.tables e below (s₁.setTop (mkF m 15 #[.val (.int p1), .val (.int (1 : Int32)), .unset, .unset, .unset] [(.int (p1 &&& (2 : Int32)))])) _
    refine XS.ifYes X0.here hx rfl (pc0 := 15) (pc' := 22) rfl (hb hby at_15) rfl ((if0 _ _).trans (teq (h2 : (p1 &&& (2 : Int32)) = (0 : Int32))).1) (by decide) (by decide) ?_
    show Steps p.tables e below (s₁.setTop (mkF m 22 #[.val (.int p1), .val (.int (1 : Int32)), .unset, .unset, .unset] [])) _
    refine XS.iconst X0.here hx rfl (hb hby at_22) ?_
    show Steps p.tables e below (s₁.setTop (mkF m 23 #[.val (.int p1), .val (.int (1 : Int32)), .unset, .unset, .unset] [(.int (0 : Int32))])) _
    refine XS.istoreN X0.here hx rfl (hb hby at_23) rfl (l' := #[.val (.int p1), .val (.int (1 : Int32)), .val (.int (0 : Int32)), .unset, .unset]) rfl ?_
    show Steps p.tables e below (s₁.setTop (mkF m 24 #[.val (.int p1), .val (.int (1 : Int32)), .val (.int (0 : Int32)), .unset, .unset] [])) _
    refine XS.iloadN X0.here hx rfl (hb hby at_24) rfl ?_
    show Steps p.tables e below (s₁.setTop (mkF m 25 #[.val (.int p1), .val (.int (1 : Int32)), .val (.int (0 : Int32)), .unset, .unset] [(.int p1)])) _
    refine XS.iconst X0.here hx rfl (hb hby at_25) ?_
    show Steps p.tables e below (s₁.setTop (mkF m 26 #[.val (.int p1), .val (.int (1 : Int32)), .val (.int (0 : Int32)), .unset, .unset] [(.int (4 : Int32)), (.int p1)])) _
    refine XS.iand X0.here hx rfl (hb hby at_26) rfl ?_
    show Steps p.tables e below (s₁.setTop (mkF m 27 #[.val (.int p1), .val (.int (1 : Int32)), .val (.int (0 : Int32)), .unset, .unset] [(.int (p1 &&& (4 : Int32)))])) _
    refine XS.ifYes X0.here hx rfl (pc0 := 27) (pc' := 34) rfl (hb hby at_27) rfl ((if0 _ _).trans (teq (h4 : (p1 &&& (4 : Int32)) = (0 : Int32))).1) (by decide) (by decide) ?_
    show Steps p.tables e below (s₁.setTop (mkF m 34 #[.val (.int p1), .val (.int (1 : Int32)), .val (.int (0 : Int32)), .unset, .unset] [])) _
    refine XS.iconst X0.here hx rfl (hb hby at_34) ?_
    show Steps p.tables e below (s₁.setTop (mkF m 35 #[.val (.int p1), .val (.int (1 : Int32)), .val (.int (0 : Int32)), .unset, .unset] [(.int (0 : Int32))])) _
    refine XS.istoreN X0.here hx rfl (hb hby at_35) rfl (l' := #[.val (.int p1), .val (.int (1 : Int32)), .val (.int (0 : Int32)), .val (.int (0 : Int32)), .unset]) rfl ?_
    show Steps p.tables e below (s₁.setTop (mkF m 36 #[.val (.int p1), .val (.int (1 : Int32)), .val (.int (0 : Int32)), .val (.int (0 : Int32)), .unset] [])) _
    refine XS.iloadN X0.here hx rfl (hb hby at_36) rfl ?_
    show Steps p.tables e below (s₁.setTop (mkF m 37 #[.val (.int p1), .val (.int (1 : Int32)), .val (.int (0 : Int32)), .val (.int (0 : Int32)), .unset] [(.int (1 : Int32))])) _
    refine XS.iloadN X0.here hx rfl (hb hby at_37) rfl ?_
    show Steps p.tables e below (s₁.setTop (mkF m 38 #[.val (.int p1), .val (.int (1 : Int32)), .val (.int (0 : Int32)), .val (.int (0 : Int32)), .unset] [(.int (0 : Int32)), (.int (1 : Int32))])) _
    refine XS.iloadN X0.here hx rfl (hb hby at_38) rfl ?_
    show Steps p.tables e below (s₁.setTop (mkF m 39 #[.val (.int p1), .val (.int (1 : Int32)), .val (.int (0 : Int32)), .val (.int (0 : Int32)), .unset] [(.int (0 : Int32)), (.int (0 : Int32)), (.int (1 : Int32))])) _
    refine st1 _ ?_
    show Steps p.tables e below (T1.setTop (mkF m 42 #[.val (.int p1), .val (.int (1 : Int32)), .val (.int (0 : Int32)), .val (.int (0 : Int32)), .unset] [(.ref wSUBJECT)])) _
    refine XS.astore X1.here hx rfl (hb hby at_42) rfl rfl (l' := #[.val (.int p1), .val (.int (1 : Int32)), .val (.int (0 : Int32)), .val (.int (0 : Int32)), .val (.ref wSUBJECT)]) rfl ?_
    show Steps p.tables e below (T1.setTop (mkF m 44 #[.val (.int p1), .val (.int (1 : Int32)), .val (.int (0 : Int32)), .val (.int (0 : Int32)), .val (.ref wSUBJECT)] [])) _
    refine XS.aload X1.here hx rfl (hb hby at_44) rfl rfl ?_
    show Steps p.tables e below (T1.setTop (mkF m 46 #[.val (.int p1), .val (.int (1 : Int32)), .val (.int (0 : Int32)), .val (.int (0 : Int32)), .val (.ref wSUBJECT)] [(.ref wSUBJECT)])) _
    refine XS.iloadN X1.here hx rfl (hb hby at_46) rfl ?_
    show Steps p.tables e below (T1.setTop (mkF m 47 #[.val (.int p1), .val (.int (1 : Int32)), .val (.int (0 : Int32)), .val (.int (0 : Int32)), .val (.ref wSUBJECT)] [(.int (1 : Int32)), (.ref wSUBJECT)])) _
    refine XS.iloadN X1.here hx rfl (hb hby at_47) rfl ?_
    show Steps p.tables e below (T1.setTop (mkF m 48 #[.val (.int p1), .val (.int (1 : Int32)), .val (.int (0 : Int32)), .val (.int (0 : Int32)), .val (.ref wSUBJECT)] [(.int (0 : Int32)), (.int (1 : Int32)), (.ref wSUBJECT)])) _
    refine XS.iloadN X1.here hx rfl (hb hby at_48) rfl ?_
    show Steps p.tables e below (T1.setTop (mkF m 49 #[.val (.int p1), .val (.int (1 : Int32)), .val (.int (0 : Int32)), .val (.int (0 : Int32)), .val (.ref wSUBJECT)] [(.int (0 : Int32)), (.int (0 : Int32)), (.int (1 : Int32)), (.ref wSUBJECT)])) _
    refine st2 _ ?_
    show Steps p.tables e below (T2.setTop (mkF m 52 #[.val (.int p1), .val (.int (1 : Int32)), .val (.int (0 : Int32)), .val (.int (0 : Int32)), .val (.ref wSUBJECT)] [(.ref wSUBJECT), (.ref wSUBJECT)])) _
    refine Jvm.RoadKit.acmp (g := (mkF m 52 #[.val (.int p1), .val (.int (1 : Int32)), .val (.int (0 : Int32)), .val (.int (0 : Int32)), .val (.ref wSUBJECT)] [(.ref wSUBJECT), (.ref wSUBJECT)])) X2 hx rfl rfl rfl (pc0 := 52) (pc' := 55) (same := true) rfl (hb hby at_52) rfl (decide_eq_true rfl) (by decide) (by decide) ?_
    show Steps p.tables e below (T2.setTop (mkF m 55 #[.val (.int p1), .val (.int (1 : Int32)), .val (.int (0 : Int32)), .val (.int (0 : Int32)), .val (.ref wSUBJECT)] [])) _
    refine XS.iconst X2.here hx rfl (hb hby at_55) ?_
    show Steps p.tables e below (T2.setTop (mkF m 56 #[.val (.int p1), .val (.int (1 : Int32)), .val (.int (0 : Int32)), .val (.int (0 : Int32)), .val (.ref wSUBJECT)] [(.int (1 : Int32))])) _
    refine XS.goto X2.here hx rfl (pc0 := 56) (pc' := 60) rfl (hb hby at_56) (by decide) (by decide) ?_
    show Steps p.tables e below (T2.setTop (mkF m 60 #[.val (.int p1), .val (.int (1 : Int32)), .val (.int (0 : Int32)), .val (.int (0 : Int32)), .val (.ref wSUBJECT)] [(.int (1 : Int32))])) _
    exact retN X2 hx (t := .boolean) Bd.returns (by simp) (hb hby at_60) hr
  · exact ⟨rfl, N2⟩
set_option maxRecDepth 65536 in
set_option maxHeartbeats 40000000 in
theorem own_keeping_4 (l : Launch) (Z : State) (a0 : Array Value) (hw : ∀ d ∈ tables_1, d.before a0 Z = true) (ws : List Jvm.Cond) (wKINDS : Addr) (wSUBJECT_PREDICATE_OBJECT : Addr) (wSUBJECT_PREDICATE : Addr) (wSUBJECT_OBJECT : Addr) (wPREDICATE_OBJECT : Addr) (wSUBJECT : Addr) (wPREDICATE : Addr) (wOBJECT : Addr) (kKINDS : ClassId) (G : OwnG Z wKINDS wSUBJECT_PREDICATE_OBJECT wSUBJECT_PREDICATE wSUBJECT_OBJECT wPREDICATE_OBJECT wSUBJECT wPREDICATE wOBJECT kKINDS) (h0 : Heap) (n0 : Nat) (O0 : Old Z n0 h0) :
    MetFree l (⟨"com/example/quadrille/quadrille/graphfilter/PatternKind", "keeping", "(ZZZ)Lcom/example/quadrille/quadrille/graphfilter/PatternKind;"⟩ : MethodName) (head1 (Jvm.Cond.code (⟨"com/example/quadrille/quadrille/graphfilter/PatternKind", "keeping", "(ZZZ)Lcom/example/quadrille/quadrille/graphfilter/PatternKind;"⟩ : MethodName) prog_67_method_4_code 8 (some (.object "com/example/quadrille/quadrille/graphfilter/PatternKind")) :: ws) ({ frames := 0, cells := 0, slots := 0, locals := 0 } : Room)) (fun a U => a = #[(.int (0 : Int32)), (.int (1 : Int32)), (.int (0 : Int32))] ∧ Z.Warmed39 U.vm ∧ U.heap = h0) (fun _ _ _ _ _ => True) (fun _ U o U' => ∃ v L, o = .returned v ∧ OwnQ (some (.ref wPREDICATE)) h0 n0 v U'.heap L ∧ FrameEnd U o U' L ({ frames := 0, cells := 0, slots := 0, locals := 0 } : Room).cells ({ frames := 0, cells := 0, slots := 0, locals := 0 } : Room).slots) := by
  refine MetFree.of_bodySF (plainFor_of_name own_pn_1) hisR ?_
  intro p e s m args below meth c s₁ Bd hml0 hP hK
  obtain ⟨rfl, hZ, hh⟩ := hP
  have hx := Bd.exec
  have hby := Bd.bytes
  have hml : c.maxLocals = 8 := hml0
  have hown : s.vm.findClass "com/example/quadrille/quadrille/graphfilter/PatternKind" = some m.cls := findClass_of_methodNamed Bd.named
  have hnm := (name_of_methodNamed Bd.named Bd.method).1
  have X0 : Stand p l e ({ frames := 0, cells := 0, slots := 0, locals := 0 } : Room) s m #[(.int (0 : Int32)), (.int (1 : Int32)), (.int (0 : Int32))] below meth c s₁ [] 0 0 := Stand.of_body Bd
  have e0 : s₁.heap = h0 := by rw [← hh, Bd.state]; rfl
  have N0 := Fr.nil n0
  have pre0 : ∀ t, Steps p.tables e below (s₁.setTop (mkF m 0 #[.val (.int (0 : Int32)), .val (.int (1 : Int32)), .val (.int (0 : Int32)), .unset, .unset, .unset, .unset, .unset] [])) t → Steps p.tables e below (s₁.setTop (entryFrame m #[(.int (0 : Int32)), (.int (1 : Int32)), (.int (0 : Int32))] 8)) t := fun t k => castTop (own_ef_1_III m (0 : Int32) (1 : Int32) (0 : Int32)) k
  obtain ⟨T1, X1, e1, st1⟩ := getS2 X0 hx hZ hown (host := "") (Or.inl (hw _ (List.mem_of_getElem? (i := 4) rfl))) Via.refl e0 (G.1.ext O0.2) (g := (mkF m 2 #[.val (.int (0 : Int32)), .val (.int (1 : Int32)), .val (.int (0 : Int32)), .val .null, .unset, .unset, .unset, .unset] [])) rfl (hb hby own_d1_2)
  obtain ⟨cl2, Ar2, qk2, Sz2, Nn2, Hs2, Gs2⟩ := id ((G.2.2.2.2.2.2.2.2.2.2.2.2.2.2.2.2.2.2.2.2.2.2.2.2.2.2.2.2.2.2.2.2.2.2.2.2.1.ext O0.2))
  have hin3 : ¬ ((0 : Int32) < 0 ∨ cl2.slots.size ≤ ((0 : Int32)).toNatClampNeg) := inb_of Sz2 ⟨by decide, by decide⟩
  have hat3 : cl2.slots[((0 : Int32)).toNatClampNeg]? = some (.ref wSUBJECT_PREDICATE_OBJECT) := Hs2.at hin3 rfl
  obtain ⟨T4, X4, e4, st4⟩ := getF X1 hx hZ hown (host := "") (Or.inl (hw _ (List.mem_of_getElem? (i := 7) rfl))) Via.refl e1 (G.2.2.2.2.2.2.2.2.2.2.2.2.2.2.2.1.ext O0.2) (g := (mkF m 31 #[.val (.int (0 : Int32)), .val (.int (1 : Int32)), .val (.int (0 : Int32)), .val .null, .val (.ref wKINDS), .val (.int (7 : Int32)), .val (.int (0 : Int32)), .val (.ref wSUBJECT_PREDICATE_OBJECT)] [(.ref wSUBJECT_PREDICATE_OBJECT)])) rfl rfl (hb hby own_d1_31)
  have hin5 : ¬ ((1 : Int32) < 0 ∨ cl2.slots.size ≤ ((1 : Int32)).toNatClampNeg) := inb_of Sz2 ⟨by decide, by decide⟩
  have hat5 : cl2.slots[((1 : Int32)).toNatClampNeg]? = some (.ref wSUBJECT_PREDICATE) := Hs2.at hin5 rfl
  obtain ⟨T6, X6, e6, st6⟩ := getF X4 hx hZ hown (host := "") (Or.inl (hw _ (List.mem_of_getElem? (i := 7) rfl))) Via.refl e4 (G.2.2.2.2.2.2.2.2.2.2.2.2.2.2.2.2.1.ext O0.2) (g := (mkF m 31 #[.val (.int (0 : Int32)), .val (.int (1 : Int32)), .val (.int (0 : Int32)), .val .null, .val (.ref wKINDS), .val (.int (7 : Int32)), .val (.int (1 : Int32)), .val (.ref wSUBJECT_PREDICATE)] [(.ref wSUBJECT_PREDICATE)])) rfl rfl (hb hby own_d1_31)
  have hin7 : ¬ ((2 : Int32) < 0 ∨ cl2.slots.size ≤ ((2 : Int32)).toNatClampNeg) := inb_of Sz2 ⟨by decide, by decide⟩
  have hat7 : cl2.slots[((2 : Int32)).toNatClampNeg]? = some (.ref wSUBJECT_OBJECT) := Hs2.at hin7 rfl
  obtain ⟨T8, X8, e8, st8⟩ := getF X6 hx hZ hown (host := "") (Or.inl (hw _ (List.mem_of_getElem? (i := 7) rfl))) Via.refl e6 (G.2.2.2.2.2.2.2.2.2.2.2.2.2.2.2.2.2.1.ext O0.2) (g := (mkF m 31 #[.val (.int (0 : Int32)), .val (.int (1 : Int32)), .val (.int (0 : Int32)), .val .null, .val (.ref wKINDS), .val (.int (7 : Int32)), .val (.int (2 : Int32)), .val (.ref wSUBJECT_OBJECT)] [(.ref wSUBJECT_OBJECT)])) rfl rfl (hb hby own_d1_31)
  have hin9 : ¬ ((3 : Int32) < 0 ∨ cl2.slots.size ≤ ((3 : Int32)).toNatClampNeg) := inb_of Sz2 ⟨by decide, by decide⟩
  have hat9 : cl2.slots[((3 : Int32)).toNatClampNeg]? = some (.ref wPREDICATE_OBJECT) := Hs2.at hin9 rfl
  obtain ⟨T10, X10, e10, st10⟩ := getF X8 hx hZ hown (host := "") (Or.inl (hw _ (List.mem_of_getElem? (i := 7) rfl))) Via.refl e8 (G.2.2.2.2.2.2.2.2.2.2.2.2.2.2.2.2.2.2.1.ext O0.2) (g := (mkF m 31 #[.val (.int (0 : Int32)), .val (.int (1 : Int32)), .val (.int (0 : Int32)), .val .null, .val (.ref wKINDS), .val (.int (7 : Int32)), .val (.int (3 : Int32)), .val (.ref wPREDICATE_OBJECT)] [(.ref wPREDICATE_OBJECT)])) rfl rfl (hb hby own_d1_31)
  obtain ⟨T11, X11, e11, st11⟩ := getF X10 hx hZ hown (host := "") (Or.inl (hw _ (List.mem_of_getElem? (i := 12) rfl))) Via.refl e10 (G.2.2.2.2.2.2.2.2.2.2.2.2.2.2.2.2.2.2.2.1.ext O0.2) (g := (mkF m 40 #[.val (.int (0 : Int32)), .val (.int (1 : Int32)), .val (.int (0 : Int32)), .val .null, .val (.ref wKINDS), .val (.int (7 : Int32)), .val (.int (3 : Int32)), .val (.ref wPREDICATE_OBJECT)] [(.ref wPREDICATE_OBJECT)])) rfl rfl (hb hby own_d1_40)
  obtain ⟨T12, X12, e12, st12⟩ := getF X11 hx hZ hown (host := "") (Or.inl (hw _ (List.mem_of_getElem? (i := 17) rfl))) Via.refl e11 (G.2.2.2.2.2.2.2.2.2.2.2.2.2.2.2.2.2.2.2.2.2.2.2.2.2.2.2.2.2.2.2.2.1.ext O0.2) (g := (mkF m 49 #[.val (.int (0 : Int32)), .val (.int (1 : Int32)), .val (.int (0 : Int32)), .val .null, .val (.ref wKINDS), .val (.int (7 : Int32)), .val (.int (3 : Int32)), .val (.ref wPREDICATE_OBJECT)] [(.ref wPREDICATE_OBJECT)])) rfl rfl (hb hby own_d1_49)
  have hin13 : ¬ ((4 : Int32) < 0 ∨ cl2.slots.size ≤ ((4 : Int32)).toNatClampNeg) := inb_of Sz2 ⟨by decide, by decide⟩
  have hat13 : cl2.slots[((4 : Int32)).toNatClampNeg]? = some (.ref wSUBJECT) := Hs2.at hin13 rfl
  obtain ⟨T14, X14, e14, st14⟩ := getF X12 hx hZ hown (host := "") (Or.inl (hw _ (List.mem_of_getElem? (i := 7) rfl))) Via.refl e12 (G.2.2.2.2.2.2.2.2.2.2.2.2.2.2.2.2.2.2.2.2.1.ext O0.2) (g := (mkF m 31 #[.val (.int (0 : Int32)), .val (.int (1 : Int32)), .val (.int (0 : Int32)), .val .null, .val (.ref wKINDS), .val (.int (7 : Int32)), .val (.int (4 : Int32)), .val (.ref wSUBJECT)] [(.ref wSUBJECT)])) rfl rfl (hb hby own_d1_31)
  have hin15 : ¬ ((5 : Int32) < 0 ∨ cl2.slots.size ≤ ((5 : Int32)).toNatClampNeg) := inb_of Sz2 ⟨by decide, by decide⟩
  have hat15 : cl2.slots[((5 : Int32)).toNatClampNeg]? = some (.ref wPREDICATE) := Hs2.at hin15 rfl
  obtain ⟨T16, X16, e16, st16⟩ := getF X14 hx hZ hown (host := "") (Or.inl (hw _ (List.mem_of_getElem? (i := 7) rfl))) Via.refl e14 (G.2.2.2.2.2.2.2.2.2.2.2.2.2.2.2.2.2.2.2.2.2.1.ext O0.2) (g := (mkF m 31 #[.val (.int (0 : Int32)), .val (.int (1 : Int32)), .val (.int (0 : Int32)), .val .null, .val (.ref wKINDS), .val (.int (7 : Int32)), .val (.int (5 : Int32)), .val (.ref wPREDICATE)] [(.ref wPREDICATE)])) rfl rfl (hb hby own_d1_31)
  obtain ⟨T17, X17, e17, st17⟩ := getF X16 hx hZ hown (host := "") (Or.inl (hw _ (List.mem_of_getElem? (i := 12) rfl))) Via.refl e16 (G.2.2.2.2.2.2.2.2.2.2.2.2.2.2.2.2.2.2.2.2.2.2.1.ext O0.2) (g := (mkF m 40 #[.val (.int (0 : Int32)), .val (.int (1 : Int32)), .val (.int (0 : Int32)), .val .null, .val (.ref wKINDS), .val (.int (7 : Int32)), .val (.int (5 : Int32)), .val (.ref wPREDICATE)] [(.ref wPREDICATE)])) rfl rfl (hb hby own_d1_40)
  obtain ⟨T18, X18, e18, st18⟩ := getF X17 hx hZ hown (host := "") (Or.inl (hw _ (List.mem_of_getElem? (i := 17) rfl))) Via.refl e17 (G.2.2.2.2.2.2.2.2.2.2.2.2.2.2.2.2.2.2.2.2.2.2.2.2.2.2.2.2.2.2.2.2.2.1.ext O0.2) (g := (mkF m 49 #[.val (.int (0 : Int32)), .val (.int (1 : Int32)), .val (.int (0 : Int32)), .val .null, .val (.ref wKINDS), .val (.int (7 : Int32)), .val (.int (5 : Int32)), .val (.ref wPREDICATE)] [(.ref wPREDICATE)])) rfl rfl (hb hby own_d1_49)
  have hin19 : ¬ ((6 : Int32) < 0 ∨ cl2.slots.size ≤ ((6 : Int32)).toNatClampNeg) := inb_of Sz2 ⟨by decide, by decide⟩
  have hat19 : cl2.slots[((6 : Int32)).toNatClampNeg]? = some (.ref wOBJECT) := Hs2.at hin19 rfl
  obtain ⟨T20, X20, e20, st20⟩ := getF X18 hx hZ hown (host := "") (Or.inl (hw _ (List.mem_of_getElem? (i := 7) rfl))) Via.refl e18 (G.2.2.2.2.2.2.2.2.2.2.2.2.2.2.2.2.2.2.2.2.2.2.2.1.ext O0.2) (g := (mkF m 31 #[.val (.int (0 : Int32)), .val (.int (1 : Int32)), .val (.int (0 : Int32)), .val (.ref wPREDICATE), .val (.ref wKINDS), .val (.int (7 : Int32)), .val (.int (6 : Int32)), .val (.ref wOBJECT)] [(.ref wOBJECT)])) rfl rfl (hb hby own_d1_31)
  obtain ⟨T21, X21, e21, st21⟩ := getF X20 hx hZ hown (host := "") (Or.inl (hw _ (List.mem_of_getElem? (i := 12) rfl))) Via.refl e20 (G.2.2.2.2.2.2.2.2.2.2.2.2.2.2.2.2.2.2.2.2.2.2.2.2.1.ext O0.2) (g := (mkF m 40 #[.val (.int (0 : Int32)), .val (.int (1 : Int32)), .val (.int (0 : Int32)), .val (.ref wPREDICATE), .val (.ref wKINDS), .val (.int (7 : Int32)), .val (.int (6 : Int32)), .val (.ref wOBJECT)] [(.ref wOBJECT)])) rfl rfl (hb hby own_d1_40)
  obtain ⟨fs, hr, hrun, hended, hW, hsame⟩ := X21.leave (v := some (.ref wPREDICATE)) (fun h => by rw [Bd.returns] at h; cases h)
  refine ⟨_, _, pre0 _ ?_, hrun, hended, _, _, rfl, ?_, ⟨_, rfl⟩, hW, hsame.mono (by decide) (by decide)⟩
  · show Steps p.tables e below (s₁.setTop (mkF m 0 #[.val (.int (0 : Int32)), .val (.int (1 : Int32)), .val (.int (0 : Int32)), .unset, .unset, .unset, .unset, .unset] [])) _
    refine XS.aconstNull X0.here hx rfl (hb hby own_d1_0) ?_
    show Steps p.tables e below (s₁.setTop (mkF m 1 #[.val (.int (0 : Int32)), .val (.int (1 : Int32)), .val (.int (0 : Int32)), .unset, .unset, .unset, .unset, .unset] [.null])) _
    refine XS.astoreN X0.here hx rfl (hb hby own_d1_1) rfl rfl (l' := #[.val (.int (0 : Int32)), .val (.int (1 : Int32)), .val (.int (0 : Int32)), .val .null, .unset, .unset, .unset, .unset]) rfl ?_
    show Steps p.tables e below (s₁.setTop (mkF m 2 #[.val (.int (0 : Int32)), .val (.int (1 : Int32)), .val (.int (0 : Int32)), .val .null, .unset, .unset, .unset, .unset] [])) _
    refine st1 _ ?_
    show Steps p.tables e below (T1.setTop (mkF m 5 #[.val (.int (0 : Int32)), .val (.int (1 : Int32)), .val (.int (0 : Int32)), .val .null, .unset, .unset, .unset, .unset] [(.ref wKINDS)])) _
    refine XS.astore X1.here hx rfl (hb hby own_d1_5) rfl rfl (l' := #[.val (.int (0 : Int32)), .val (.int (1 : Int32)), .val (.int (0 : Int32)), .val .null, .val (.ref wKINDS), .unset, .unset, .unset]) rfl ?_
    show Steps p.tables e below (T1.setTop (mkF m 7 #[.val (.int (0 : Int32)), .val (.int (1 : Int32)), .val (.int (0 : Int32)), .val .null, .val (.ref wKINDS), .unset, .unset, .unset] [])) _
    refine XS.aload X1.here hx rfl (hb hby own_d1_7) rfl rfl ?_
    show Steps p.tables e below (T1.setTop (mkF m 9 #[.val (.int (0 : Int32)), .val (.int (1 : Int32)), .val (.int (0 : Int32)), .val .null, .val (.ref wKINDS), .unset, .unset, .unset] [(.ref wKINDS)])) _
    refine X1.arraylength hx (by rw [e1]; exact Ar2.1) (State.isArrayOf_alike hZ.alike Ar2.2.1) (g := (mkF m 9 #[.val (.int (0 : Int32)), .val (.int (1 : Int32)), .val (.int (0 : Int32)), .val .null, .val (.ref wKINDS), .unset, .unset, .unset] [(.ref wKINDS)])) rfl rfl (hb hby own_d1_9) _ ?_
    rw [len_of Sz2 Nn2]
    show Steps p.tables e below (T1.setTop (mkF m 10 #[.val (.int (0 : Int32)), .val (.int (1 : Int32)), .val (.int (0 : Int32)), .val .null, .val (.ref wKINDS), .unset, .unset, .unset] [(.int (7 : Int32))])) _
    refine XS.istore X1.here hx rfl (hb hby own_d1_10) rfl (l' := #[.val (.int (0 : Int32)), .val (.int (1 : Int32)), .val (.int (0 : Int32)), .val .null, .val (.ref wKINDS), .val (.int (7 : Int32)), .unset, .unset]) rfl ?_
    show Steps p.tables e below (T1.setTop (mkF m 12 #[.val (.int (0 : Int32)), .val (.int (1 : Int32)), .val (.int (0 : Int32)), .val .null, .val (.ref wKINDS), .val (.int (7 : Int32)), .unset, .unset] [])) _
    refine XS.iconst X1.here hx rfl (hb hby own_d1_12) ?_
    show Steps p.tables e below (T1.setTop (mkF m 13 #[.val (.int (0 : Int32)), .val (.int (1 : Int32)), .val (.int (0 : Int32)), .val .null, .val (.ref wKINDS), .val (.int (7 : Int32)), .unset, .unset] [(.int (0 : Int32))])) _
    refine XS.istore X1.here hx rfl (hb hby own_d1_13) rfl (l' := #[.val (.int (0 : Int32)), .val (.int (1 : Int32)), .val (.int (0 : Int32)), .val .null, .val (.ref wKINDS), .val (.int (7 : Int32)), .val (.int (0 : Int32)), .unset]) rfl ?_
    show Steps p.tables e below (T1.setTop (mkF m 15 #[.val (.int (0 : Int32)), .val (.int (1 : Int32)), .val (.int (0 : Int32)), .val .null, .val (.ref wKINDS), .val (.int (7 : Int32)), .val (.int (0 : Int32)), .unset] [])) _
    refine XS.iload X1.here hx rfl (hb hby own_d1_15) rfl ?_
    show Steps p.tables e below (T1.setTop (mkF m 17 #[.val (.int (0 : Int32)), .val (.int (1 : Int32)), .val (.int (0 : Int32)), .val .null, .val (.ref wKINDS), .val (.int (7 : Int32)), .val (.int (0 : Int32)), .unset] [(.int (0 : Int32))])) _
    refine XS.iload X1.here hx rfl (hb hby own_d1_17) rfl ?_
    show Steps p.tables e below (T1.setTop (mkF m 19 #[.val (.int (0 : Int32)), .val (.int (1 : Int32)), .val (.int (0 : Int32)), .val .null, .val (.ref wKINDS), .val (.int (7 : Int32)), .val (.int (0 : Int32)), .unset] [(.int (7 : Int32)), (.int (0 : Int32))])) _
    refine XS.icmpNo X1.here hx rfl (hb hby own_d1_19) rfl (by decide) ?_
    show Steps p.tables e below (T1.setTop (mkF m 22 #[.val (.int (0 : Int32)), .val (.int (1 : Int32)), .val (.int (0 : Int32)), .val .null, .val (.ref wKINDS), .val (.int (7 : Int32)), .val (.int (0 : Int32)), .unset] [])) _
    refine XS.aload X1.here hx rfl (hb hby own_d1_22) rfl rfl ?_
    show Steps p.tables e below (T1.setTop (mkF m 24 #[.val (.int (0 : Int32)), .val (.int (1 : Int32)), .val (.int (0 : Int32)), .val .null, .val (.ref wKINDS), .val (.int (7 : Int32)), .val (.int (0 : Int32)), .unset] [(.ref wKINDS)])) _
    refine XS.iload X1.here hx rfl (hb hby own_d1_24) rfl ?_
    show Steps p.tables e below (T1.setTop (mkF m 26 #[.val (.int (0 : Int32)), .val (.int (1 : Int32)), .val (.int (0 : Int32)), .val .null, .val (.ref wKINDS), .val (.int (7 : Int32)), .val (.int (0 : Int32)), .unset] [(.int (0 : Int32)), (.ref wKINDS)])) _
    refine X1.aaload hx (j := (0 : Int32)) (v := (.ref wSUBJECT_PREDICATE_OBJECT)) (by rw [e1]; exact Ar2.1) (State.isArrayOf_alike hZ.alike Ar2.2.1) rfl Ar2.2.2 hin3 hat3 (g := (mkF m 26 #[.val (.int (0 : Int32)), .val (.int (1 : Int32)), .val (.int (0 : Int32)), .val .null, .val (.ref wKINDS), .val (.int (7 : Int32)), .val (.int (0 : Int32)), .unset] [(.int (0 : Int32)), (.ref wKINDS)])) rfl rfl (hb hby own_d1_26) _ ?_
    show Steps p.tables e below (T1.setTop (mkF m 27 #[.val (.int (0 : Int32)), .val (.int (1 : Int32)), .val (.int (0 : Int32)), .val .null, .val (.ref wKINDS), .val (.int (7 : Int32)), .val (.int (0 : Int32)), .unset] [(.ref wSUBJECT_PREDICATE_OBJECT)])) _
    refine XS.astore X1.here hx rfl (hb hby own_d1_27) rfl rfl (l' := #[.val (.int (0 : Int32)), .val (.int (1 : Int32)), .val (.int (0 : Int32)), .val .null, .val (.ref wKINDS), .val (.int (7 : Int32)), .val (.int (0 : Int32)), .val (.ref wSUBJECT_PREDICATE_OBJECT)]) rfl ?_
    show Steps p.tables e below (T1.setTop (mkF m 29 #[.val (.int (0 : Int32)), .val (.int (1 : Int32)), .val (.int (0 : Int32)), .val .null, .val (.ref wKINDS), .val (.int (7 : Int32)), .val (.int (0 : Int32)), .val (.ref wSUBJECT_PREDICATE_OBJECT)] [])) _
    refine XS.aload X1.here hx rfl (hb hby own_d1_29) rfl rfl ?_
    show Steps p.tables e below (T1.setTop (mkF m 31 #[.val (.int (0 : Int32)), .val (.int (1 : Int32)), .val (.int (0 : Int32)), .val .null, .val (.ref wKINDS), .val (.int (7 : Int32)), .val (.int (0 : Int32)), .val (.ref wSUBJECT_PREDICATE_OBJECT)] [(.ref wSUBJECT_PREDICATE_OBJECT)])) _
    refine st4 _ ?_
    show Steps p.tables e below (T4.setTop (mkF m 34 #[.val (.int (0 : Int32)), .val (.int (1 : Int32)), .val (.int (0 : Int32)), .val .null, .val (.ref wKINDS), .val (.int (7 : Int32)), .val (.int (0 : Int32)), .val (.ref wSUBJECT_PREDICATE_OBJECT)] [(.int (1 : Int32))])) _
    refine XS.iloadN X4.here hx rfl (hb hby own_d1_34) rfl ?_
    show Steps p.tables e below (T4.setTop (mkF m 35 #[.val (.int (0 : Int32)), .val (.int (1 : Int32)), .val (.int (0 : Int32)), .val .null, .val (.ref wKINDS), .val (.int (7 : Int32)), .val (.int (0 : Int32)), .val (.ref wSUBJECT_PREDICATE_OBJECT)] [(.int (0 : Int32)), (.int (1 : Int32))])) _
    refine XS.icmpYes X4.here hx rfl (pc0 := 35) (pc' := 59) rfl (hb hby own_d1_35) rfl (by decide) (by decide) (by decide) ?_
    show Steps p.tables e below (T4.setTop (mkF m 59 #[.val (.int (0 : Int32)), .val (.int (1 : Int32)), .val (.int (0 : Int32)), .val .null, .val (.ref wKINDS), .val (.int (7 : Int32)), .val (.int (0 : Int32)), .val (.ref wSUBJECT_PREDICATE_OBJECT)] [])) _
    refine XS.iinc X4.here hx rfl (hb hby own_d1_59) rfl (l' := #[.val (.int (0 : Int32)), .val (.int (1 : Int32)), .val (.int (0 : Int32)), .val .null, .val (.ref wKINDS), .val (.int (7 : Int32)), .val (.int (1 : Int32)), .val (.ref wSUBJECT_PREDICATE_OBJECT)]) rfl ?_
    show Steps p.tables e below (T4.setTop (mkF m 62 #[.val (.int (0 : Int32)), .val (.int (1 : Int32)), .val (.int (0 : Int32)), .val .null, .val (.ref wKINDS), .val (.int (7 : Int32)), .val (.int (1 : Int32)), .val (.ref wSUBJECT_PREDICATE_OBJECT)] [])) _
    refine XS.goto X4.here hx rfl (pc0 := 62) (pc' := 15) rfl (hb hby own_d1_62) (by decide) (by decide) ?_
    show Steps p.tables e below (T4.setTop (mkF m 15 #[.val (.int (0 : Int32)), .val (.int (1 : Int32)), .val (.int (0 : Int32)), .val .null, .val (.ref wKINDS), .val (.int (7 : Int32)), .val (.int (1 : Int32)), .val (.ref wSUBJECT_PREDICATE_OBJECT)] [])) _
    refine XS.iload X4.here hx rfl (hb hby own_d1_15) rfl ?_
    show Steps p.tables e below (T4.setTop (mkF m 17 #[.val (.int (0 : Int32)), .val (.int (1 : Int32)), .val (.int (0 : Int32)), .val .null, .val (.ref wKINDS), .val (.int (7 : Int32)), .val (.int (1 : Int32)), .val (.ref wSUBJECT_PREDICATE_OBJECT)] [(.int (1 : Int32))])) _
    refine XS.iload X4.here hx rfl (hb hby own_d1_17) rfl ?_
    show Steps p.tables e below (T4.setTop (mkF m 19 #[.val (.int (0 : Int32)), .val (.int (1 : Int32)), .val (.int (0 : Int32)), .val .null, .val (.ref wKINDS), .val (.int (7 : Int32)), .val (.int (1 : Int32)), .val (.ref wSUBJECT_PREDICATE_OBJECT)] [(.int (7 : Int32)), (.int (1 : Int32))])) _
    refine XS.icmpNo X4.here hx rfl (hb hby own_d1_19) rfl (by decide) ?_
    show Steps p.tables e below (T4.setTop (mkF m 22 #[.val (.int (0 : Int32)), .val (.int (1 : Int32)), .val (.int (0 : Int32)), .val .null, .val (.ref wKINDS), .val (.int (7 : Int32)), .val (.int (1 : Int32)), .val (.ref wSUBJECT_PREDICATE_OBJECT)] [])) _
    refine XS.aload X4.here hx rfl (hb hby own_d1_22) rfl rfl ?_
    show Steps p.tables e below (T4.setTop (mkF m 24 #[.val (.int (0 : Int32)), .val (.int (1 : Int32)), .val (.int (0 : Int32)), .val .null, .val (.ref wKINDS), .val (.int (7 : Int32)), .val (.int (1 : Int32)), .val (.ref wSUBJECT_PREDICATE_OBJECT)] [(.ref wKINDS)])) _
    refine XS.iload X4.here hx rfl (hb hby own_d1_24) rfl ?_
    show Steps p.tables e below (T4.setTop (mkF m 26 #[.val (.int (0 : Int32)), .val (.int (1 : Int32)), .val (.int (0 : Int32)), .val .null, .val (.ref wKINDS), .val (.int (7 : Int32)), .val (.int (1 : Int32)), .val (.ref wSUBJECT_PREDICATE_OBJECT)] [(.int (1 : Int32)), (.ref wKINDS)])) _
    refine X4.aaload hx (j := (1 : Int32)) (v := (.ref wSUBJECT_PREDICATE)) (by rw [e4]; exact Ar2.1) (State.isArrayOf_alike hZ.alike Ar2.2.1) rfl Ar2.2.2 hin5 hat5 (g := (mkF m 26 #[.val (.int (0 : Int32)), .val (.int (1 : Int32)), .val (.int (0 : Int32)), .val .null, .val (.ref wKINDS), .val (.int (7 : Int32)), .val (.int (1 : Int32)), .val (.ref wSUBJECT_PREDICATE_OBJECT)] [(.int (1 : Int32)), (.ref wKINDS)])) rfl rfl (hb hby own_d1_26) _ ?_
    show Steps p.tables e below (T4.setTop (mkF m 27 #[.val (.int (0 : Int32)), .val (.int (1 : Int32)), .val (.int (0 : Int32)), .val .null, .val (.ref wKINDS), .val (.int (7 : Int32)), .val (.int (1 : Int32)), .val (.ref wSUBJECT_PREDICATE_OBJECT)] [(.ref wSUBJECT_PREDICATE)])) _
    refine XS.astore X4.here hx rfl (hb hby own_d1_27) rfl rfl (l' := #[.val (.int (0 : Int32)), .val (.int (1 : Int32)), .val (.int (0 : Int32)), .val .null, .val (.ref wKINDS), .val (.int (7 : Int32)), .val (.int (1 : Int32)), .val (.ref wSUBJECT_PREDICATE)]) rfl ?_
    show Steps p.tables e below (T4.setTop (mkF m 29 #[.val (.int (0 : Int32)), .val (.int (1 : Int32)), .val (.int (0 : Int32)), .val .null, .val (.ref wKINDS), .val (.int (7 : Int32)), .val (.int (1 : Int32)), .val (.ref wSUBJECT_PREDICATE)] [])) _
    refine XS.aload X4.here hx rfl (hb hby own_d1_29) rfl rfl ?_
    show Steps p.tables e below (T4.setTop (mkF m 31 #[.val (.int (0 : Int32)), .val (.int (1 : Int32)), .val (.int (0 : Int32)), .val .null, .val (.ref wKINDS), .val (.int (7 : Int32)), .val (.int (1 : Int32)), .val (.ref wSUBJECT_PREDICATE)] [(.ref wSUBJECT_PREDICATE)])) _
    refine st6 _ ?_
    show Steps p.tables e below (T6.setTop (mkF m 34 #[.val (.int (0 : Int32)), .val (.int (1 : Int32)), .val (.int (0 : Int32)), .val .null, .val (.ref wKINDS), .val (.int (7 : Int32)), .val (.int (1 : Int32)), .val (.ref wSUBJECT_PREDICATE)] [(.int (1 : Int32))])) _
    refine XS.iloadN X6.here hx rfl (hb hby own_d1_34) rfl ?_
    show Steps p.tables e below (T6.setTop (mkF m 35 #[.val (.int (0 : Int32)), .val (.int (1 : Int32)), .val (.int (0 : Int32)), .val .null, .val (.ref wKINDS), .val (.int (7 : Int32)), .val (.int (1 : Int32)), .val (.ref wSUBJECT_PREDICATE)] [(.int (0 : Int32)), (.int (1 : Int32))])) _
    refine XS.icmpYes X6.here hx rfl (pc0 := 35) (pc' := 59) rfl (hb hby own_d1_35) rfl (by decide) (by decide) (by decide) ?_
    show Steps p.tables e below (T6.setTop (mkF m 59 #[.val (.int (0 : Int32)), .val (.int (1 : Int32)), .val (.int (0 : Int32)), .val .null, .val (.ref wKINDS), .val (.int (7 : Int32)), .val (.int (1 : Int32)), .val (.ref wSUBJECT_PREDICATE)] [])) _
    refine XS.iinc X6.here hx rfl (hb hby own_d1_59) rfl (l' := #[.val (.int (0 : Int32)), .val (.int (1 : Int32)), .val (.int (0 : Int32)), .val .null, .val (.ref wKINDS), .val (.int (7 : Int32)), .val (.int (2 : Int32)), .val (.ref wSUBJECT_PREDICATE)]) rfl ?_
    show Steps p.tables e below (T6.setTop (mkF m 62 #[.val (.int (0 : Int32)), .val (.int (1 : Int32)), .val (.int (0 : Int32)), .val .null, .val (.ref wKINDS), .val (.int (7 : Int32)), .val (.int (2 : Int32)), .val (.ref wSUBJECT_PREDICATE)] [])) _
    refine XS.goto X6.here hx rfl (pc0 := 62) (pc' := 15) rfl (hb hby own_d1_62) (by decide) (by decide) ?_
    show Steps p.tables e below (T6.setTop (mkF m 15 #[.val (.int (0 : Int32)), .val (.int (1 : Int32)), .val (.int (0 : Int32)), .val .null, .val (.ref wKINDS), .val (.int (7 : Int32)), .val (.int (2 : Int32)), .val (.ref wSUBJECT_PREDICATE)] [])) _
    refine XS.iload X6.here hx rfl (hb hby own_d1_15) rfl ?_
    show Steps p.tables e below (T6.setTop (mkF m 17 #[.val (.int (0 : Int32)), .val (.int (1 : Int32)), .val (.int (0 : Int32)), .val .null, .val (.ref wKINDS), .val (.int (7 : Int32)), .val (.int (2 : Int32)), .val (.ref wSUBJECT_PREDICATE)] [(.int (2 : Int32))])) _
    refine XS.iload X6.here hx rfl (hb hby own_d1_17) rfl ?_
    show Steps p.tables e below (T6.setTop (mkF m 19 #[.val (.int (0 : Int32)), .val (.int (1 : Int32)), .val (.int (0 : Int32)), .val .null, .val (.ref wKINDS), .val (.int (7 : Int32)), .val (.int (2 : Int32)), .val (.ref wSUBJECT_PREDICATE)] [(.int (7 : Int32)), (.int (2 : Int32))])) _
    refine XS.icmpNo X6.here hx rfl (hb hby own_d1_19) rfl (by decide) ?_
    show Steps p.tables e below (T6.setTop (mkF m 22 #[.val (.int (0 : Int32)), .val (.int (1 : Int32)), .val (.int (0 : Int32)), .val .null, .val (.ref wKINDS), .val (.int (7 : Int32)), .val (.int (2 : Int32)), .val (.ref wSUBJECT_PREDICATE)] [])) _
    refine XS.aload X6.here hx rfl (hb hby own_d1_22) rfl rfl ?_
    show Steps p.tables e below (T6.setTop (mkF m 24 #[.val (.int (0 : Int32)), .val (.int (1 : Int32)), .val (.int (0 : Int32)), .val .null, .val (.ref wKINDS), .val (.int (7 : Int32)), .val (.int (2 : Int32)), .val (.ref wSUBJECT_PREDICATE)] [(.ref wKINDS)])) _
    refine XS.iload X6.here hx rfl (hb hby own_d1_24) rfl ?_
    show Steps p.tables e below (T6.setTop (mkF m 26 #[.val (.int (0 : Int32)), .val (.int (1 : Int32)), .val (.int (0 : Int32)), .val .null, .val (.ref wKINDS), .val (.int (7 : Int32)), .val (.int (2 : Int32)), .val (.ref wSUBJECT_PREDICATE)] [(.int (2 : Int32)), (.ref wKINDS)])) _
    refine X6.aaload hx (j := (2 : Int32)) (v := (.ref wSUBJECT_OBJECT)) (by rw [e6]; exact Ar2.1) (State.isArrayOf_alike hZ.alike Ar2.2.1) rfl Ar2.2.2 hin7 hat7 (g := (mkF m 26 #[.val (.int (0 : Int32)), .val (.int (1 : Int32)), .val (.int (0 : Int32)), .val .null, .val (.ref wKINDS), .val (.int (7 : Int32)), .val (.int (2 : Int32)), .val (.ref wSUBJECT_PREDICATE)] [(.int (2 : Int32)), (.ref wKINDS)])) rfl rfl (hb hby own_d1_26) _ ?_
    show Steps p.tables e below (T6.setTop (mkF m 27 #[.val (.int (0 : Int32)), .val (.int (1 : Int32)), .val (.int (0 : Int32)), .val .null, .val (.ref wKINDS), .val (.int (7 : Int32)), .val (.int (2 : Int32)), .val (.ref wSUBJECT_PREDICATE)] [(.ref wSUBJECT_OBJECT)])) _
    refine XS.astore X6.here hx rfl (hb hby own_d1_27) rfl rfl (l' := #[.val (.int (0 : Int32)), .val (.int (1 : Int32)), .val (.int (0 : Int32)), .val .null, .val (.ref wKINDS), .val (.int (7 : Int32)), .val (.int (2 : Int32)), .val (.ref wSUBJECT_OBJECT)]) rfl ?_
    show Steps p.tables e below (T6.setTop (mkF m 29 #[.val (.int (0 : Int32)), .val (.int (1 : Int32)), .val (.int (0 : Int32)), .val .null, .val (.ref wKINDS), .val (.int (7 : Int32)), .val (.int (2 : Int32)), .val (.ref wSUBJECT_OBJECT)] [])) _
    refine XS.aload X6.here hx rfl (hb hby own_d1_29) rfl rfl ?_
    show Steps p.tables e below (T6.setTop (mkF m 31 #[.val (.int (0 : Int32)), .val (.int (1 : Int32)), .val (.int (0 : Int32)), .val .null, .val (.ref wKINDS), .val (.int (7 : Int32)), .val (.int (2 : Int32)), .val (.ref wSUBJECT_OBJECT)] [(.ref wSUBJECT_OBJECT)])) _
    refine st8 _ ?_
    show Steps p.tables e below (T8.setTop (mkF m 34 #[.val (.int (0 : Int32)), .val (.int (1 : Int32)), .val (.int (0 : Int32)), .val .null, .val (.ref wKINDS), .val (.int (7 : Int32)), .val (.int (2 : Int32)), .val (.ref wSUBJECT_OBJECT)] [(.int (1 : Int32))])) _
    refine XS.iloadN X8.here hx rfl (hb hby own_d1_34) rfl ?_
    show Steps p.tables e below (T8.setTop (mkF m 35 #[.val (.int (0 : Int32)), .val (.int (1 : Int32)), .val (.int (0 : Int32)), .val .null, .val (.ref wKINDS), .val (.int (7 : Int32)), .val (.int (2 : Int32)), .val (.ref wSUBJECT_OBJECT)] [(.int (0 : Int32)), (.int (1 : Int32))])) _
    refine XS.icmpYes X8.here hx rfl (pc0 := 35) (pc' := 59) rfl (hb hby own_d1_35) rfl (by decide) (by decide) (by decide) ?_
    show Steps p.tables e below (T8.setTop (mkF m 59 #[.val (.int (0 : Int32)), .val (.int (1 : Int32)), .val (.int (0 : Int32)), .val .null, .val (.ref wKINDS), .val (.int (7 : Int32)), .val (.int (2 : Int32)), .val (.ref wSUBJECT_OBJECT)] [])) _
    refine XS.iinc X8.here hx rfl (hb hby own_d1_59) rfl (l' := #[.val (.int (0 : Int32)), .val (.int (1 : Int32)), .val (.int (0 : Int32)), .val .null, .val (.ref wKINDS), .val (.int (7 : Int32)), .val (.int (3 : Int32)), .val (.ref wSUBJECT_OBJECT)]) rfl ?_
    show Steps p.tables e below (T8.setTop (mkF m 62 #[.val (.int (0 : Int32)), .val (.int (1 : Int32)), .val (.int (0 : Int32)), .val .null, .val (.ref wKINDS), .val (.int (7 : Int32)), .val (.int (3 : Int32)), .val (.ref wSUBJECT_OBJECT)] [])) _
    refine XS.goto X8.here hx rfl (pc0 := 62) (pc' := 15) rfl (hb hby own_d1_62) (by decide) (by decide) ?_
    show Steps p.tables e below (T8.setTop (mkF m 15 #[.val (.int (0 : Int32)), .val (.int (1 : Int32)), .val (.int (0 : Int32)), .val .null, .val (.ref wKINDS), .val (.int (7 : Int32)), .val (.int (3 : Int32)), .val (.ref wSUBJECT_OBJECT)] [])) _
    refine XS.iload X8.here hx rfl (hb hby own_d1_15) rfl ?_
    show Steps p.tables e below (T8.setTop (mkF m 17 #[.val (.int (0 : Int32)), .val (.int (1 : Int32)), .val (.int (0 : Int32)), .val .null, .val (.ref wKINDS), .val (.int (7 : Int32)), .val (.int (3 : Int32)), .val (.ref wSUBJECT_OBJECT)] [(.int (3 : Int32))])) _
    refine XS.iload X8.here hx rfl (hb hby own_d1_17) rfl ?_
    show Steps p.tables e below (T8.setTop (mkF m 19 #[.val (.int (0 : Int32)), .val (.int (1 : Int32)), .val (.int (0 : Int32)), .val .null, .val (.ref wKINDS), .val (.int (7 : Int32)), .val (.int (3 : Int32)), .val (.ref wSUBJECT_OBJECT)] [(.int (7 : Int32)), (.int (3 : Int32))])) _
    refine XS.icmpNo X8.here hx rfl (hb hby own_d1_19) rfl (by decide) ?_
    show Steps p.tables e below (T8.setTop (mkF m 22 #[.val (.int (0 : Int32)), .val (.int (1 : Int32)), .val (.int (0 : Int32)), .val .null, .val (.ref wKINDS), .val (.int (7 : Int32)), .val (.int (3 : Int32)), .val (.ref wSUBJECT_OBJECT)] [])) _
    refine XS.aload X8.here hx rfl (hb hby own_d1_22) rfl rfl ?_
    show Steps p.tables e below (T8.setTop (mkF m 24 #[.val (.int (0 : Int32)), .val (.int (1 : Int32)), .val (.int (0 : Int32)), .val .null, .val (.ref wKINDS), .val (.int (7 : Int32)), .val (.int (3 : Int32)), .val (.ref wSUBJECT_OBJECT)] [(.ref wKINDS)])) _
    refine XS.iload X8.here hx rfl (hb hby own_d1_24) rfl ?_
    show Steps p.tables e below (T8.setTop (mkF m 26 #[.val (.int (0 : Int32)), .val (.int (1 : Int32)), .val (.int (0 : Int32)), .val .null, .val (.ref wKINDS), .val (.int (7 : Int32)), .val (.int (3 : Int32)), .val (.ref wSUBJECT_OBJECT)] [(.int (3 : Int32)), (.ref wKINDS)])) _
    refine X8.aaload hx (j := (3 : Int32)) (v := (.ref wPREDICATE_OBJECT)) (by rw [e8]; exact Ar2.1) (State.isArrayOf_alike hZ.alike Ar2.2.1) rfl Ar2.2.2 hin9 hat9 (g := (mkF m 26 #[.val (.int (0 : Int32)), .val (.int (1 : Int32)), .val (.int (0 : Int32)), .val .null, .val (.ref wKINDS), .val (.int (7 : Int32)), .val (.int (3 : Int32)), .val (.ref wSUBJECT_OBJECT)] [(.int (3 : Int32)), (.ref wKINDS)])) rfl rfl (hb hby own_d1_26) _ ?_
    show Steps p.tables e below (T8.setTop (mkF m 27 #[.val (.int (0 : Int32)), .val (.int (1 : Int32)), .val (.int (0 : Int32)), .val .null, .val (.ref wKINDS), .val (.int (7 : Int32)), .val (.int (3 : Int32)), .val (.ref wSUBJECT_OBJECT)] [(.ref wPREDICATE_OBJECT)])) _
    refine XS.astore X8.here hx rfl (hb hby own_d1_27) rfl rfl (l' := #[.val (.int (0 : Int32)), .val (.int (1 : Int32)), .val (.int (0 : Int32)), .val .null, .val (.ref wKINDS), .val (.int (7 : Int32)), .val (.int (3 : Int32)), .val (.ref wPREDICATE_OBJECT)]) rfl ?_
    show Steps p.tables e below (T8.setTop (mkF m 29 #[.val (.int (0 : Int32)), .val (.int (1 : Int32)), .val (.int (0 : Int32)), .val .null, .val (.ref wKINDS), .val (.int (7 : Int32)), .val (.int (3 : Int32)), .val (.ref wPREDICATE_OBJECT)] [])) _
    refine XS.aload X8.here hx rfl (hb hby own_d1_29) rfl rfl ?_
    show Steps p.tables e below (T8.setTop (mkF m 31 #[.val (.int (0 : Int32)), .val (.int (1 : Int32)), .val (.int (0 : Int32)), .val .null, .val (.ref wKINDS), .val (.int (7 : Int32)), .val (.int (3 : Int32)), .val (.ref wPREDICATE_OBJECT)] [(.ref wPREDICATE_OBJECT)])) _
    refine st10 _ ?_
    show Steps p.tables e below (T10.setTop (mkF m 34 #[.val (.int (0 : Int32)), .val (.int (1 : Int32)), .val (.int (0 : Int32)), .val .null, .val (.ref wKINDS), .val (.int (7 : Int32)), .val (.int (3 : Int32)), .val (.ref wPREDICATE_OBJECT)] [(.int (0 : Int32))])) _
    refine XS.iloadN X10.here hx rfl (hb hby own_d1_34) rfl ?_
    show Steps p.tables e below (T10.setTop (mkF m 35 #[.val (.int (0 : Int32)), .val (.int (1 : Int32)), .val (.int (0 : Int32)), .val .null, .val (.ref wKINDS), .val (.int (7 : Int32)), .val (.int (3 : Int32)), .val (.ref wPREDICATE_OBJECT)] [(.int (0 : Int32)), (.int (0 : Int32))])) _
    refine XS.icmpNo X10.here hx rfl (hb hby own_d1_35) rfl (by decide) ?_
    show Steps p.tables e below (T10.setTop (mkF m 38 #[.val (.int (0 : Int32)), .val (.int (1 : Int32)), .val (.int (0 : Int32)), .val .null, .val (.ref wKINDS), .val (.int (7 : Int32)), .val (.int (3 : Int32)), .val (.ref wPREDICATE_OBJECT)] [])) _
    refine XS.aload X10.here hx rfl (hb hby own_d1_38) rfl rfl ?_
    show Steps p.tables e below (T10.setTop (mkF m 40 #[.val (.int (0 : Int32)), .val (.int (1 : Int32)), .val (.int (0 : Int32)), .val .null, .val (.ref wKINDS), .val (.int (7 : Int32)), .val (.int (3 : Int32)), .val (.ref wPREDICATE_OBJECT)] [(.ref wPREDICATE_OBJECT)])) _
    refine st11 _ ?_
    show Steps p.tables e below (T11.setTop (mkF m 43 #[.val (.int (0 : Int32)), .val (.int (1 : Int32)), .val (.int (0 : Int32)), .val .null, .val (.ref wKINDS), .val (.int (7 : Int32)), .val (.int (3 : Int32)), .val (.ref wPREDICATE_OBJECT)] [(.int (1 : Int32))])) _
    refine XS.iloadN X11.here hx rfl (hb hby own_d1_43) rfl ?_
    show Steps p.tables e below (T11.setTop (mkF m 44 #[.val (.int (0 : Int32)), .val (.int (1 : Int32)), .val (.int (0 : Int32)), .val .null, .val (.ref wKINDS), .val (.int (7 : Int32)), .val (.int (3 : Int32)), .val (.ref wPREDICATE_OBJECT)] [(.int (1 : Int32)), (.int (1 : Int32))])) _
    refine XS.icmpNo X11.here hx rfl (hb hby own_d1_44) rfl (by decide) ?_
    show Steps p.tables e below (T11.setTop (mkF m 47 #[.val (.int (0 : Int32)), .val (.int (1 : Int32)), .val (.int (0 : Int32)), .val .null, .val (.ref wKINDS), .val (.int (7 : Int32)), .val (.int (3 : Int32)), .val (.ref wPREDICATE_OBJECT)] [])) _
    refine XS.aload X11.here hx rfl (hb hby own_d1_47) rfl rfl ?_
    show Steps p.tables e below (T11.setTop (mkF m 49 #[.val (.int (0 : Int32)), .val (.int (1 : Int32)), .val (.int (0 : Int32)), .val .null, .val (.ref wKINDS), .val (.int (7 : Int32)), .val (.int (3 : Int32)), .val (.ref wPREDICATE_OBJECT)] [(.ref wPREDICATE_OBJECT)])) _
    refine st12 _ ?_
    show Steps p.tables e below (T12.setTop (mkF m 52 #[.val (.int (0 : Int32)), .val (.int (1 : Int32)), .val (.int (0 : Int32)), .val .null, .val (.ref wKINDS), .val (.int (7 : Int32)), .val (.int (3 : Int32)), .val (.ref wPREDICATE_OBJECT)] [(.int (1 : Int32))])) _
    refine XS.iloadN X12.here hx rfl (hb hby own_d1_52) rfl ?_
    show Steps p.tables e below (T12.setTop (mkF m 53 #[.val (.int (0 : Int32)), .val (.int (1 : Int32)), .val (.int (0 : Int32)), .val .null, .val (.ref wKINDS), .val (.int (7 : Int32)), .val (.int (3 : Int32)), .val (.ref wPREDICATE_OBJECT)] [(.int (0 : Int32)), (.int (1 : Int32))])) _
    refine XS.icmpYes X12.here hx rfl (pc0 := 53) (pc' := 59) rfl (hb hby own_d1_53) rfl (by decide) (by decide) (by decide) ?_
    show Steps p.tables e below (T12.setTop (mkF m 59 #[.val (.int (0 : Int32)), .val (.int (1 : Int32)), .val (.int (0 : Int32)), .val .null, .val (.ref wKINDS), .val (.int (7 : Int32)), .val (.int (3 : Int32)), .val (.ref wPREDICATE_OBJECT)] [])) _
    refine XS.iinc X12.here hx rfl (hb hby own_d1_59) rfl (l' := #[.val (.int (0 : Int32)), .val (.int (1 : Int32)), .val (.int (0 : Int32)), .val .null, .val (.ref wKINDS), .val (.int (7 : Int32)), .val (.int (4 : Int32)), .val (.ref wPREDICATE_OBJECT)]) rfl ?_
    show Steps p.tables e below (T12.setTop (mkF m 62 #[.val (.int (0 : Int32)), .val (.int (1 : Int32)), .val (.int (0 : Int32)), .val .null, .val (.ref wKINDS), .val (.int (7 : Int32)), .val (.int (4 : Int32)), .val (.ref wPREDICATE_OBJECT)] [])) _
    refine XS.goto X12.here hx rfl (pc0 := 62) (pc' := 15) rfl (hb hby own_d1_62) (by decide) (by decide) ?_
    show Steps p.tables e below (T12.setTop (mkF m 15 #[.val (.int (0 : Int32)), .val (.int (1 : Int32)), .val (.int (0 : Int32)), .val .null, .val (.ref wKINDS), .val (.int (7 : Int32)), .val (.int (4 : Int32)), .val (.ref wPREDICATE_OBJECT)] [])) _
    refine XS.iload X12.here hx rfl (hb hby own_d1_15) rfl ?_
    show Steps p.tables e below (T12.setTop (mkF m 17 #[.val (.int (0 : Int32)), .val (.int (1 : Int32)), .val (.int (0 : Int32)), .val .null, .val (.ref wKINDS), .val (.int (7 : Int32)), .val (.int (4 : Int32)), .val (.ref wPREDICATE_OBJECT)] [(.int (4 : Int32))])) _
    refine XS.iload X12.here hx rfl (hb hby own_d1_17) rfl ?_
    show Steps p.tables e below (T12.setTop (mkF m 19 #[.val (.int (0 : Int32)), .val (.int (1 : Int32)), .val (.int (0 : Int32)), .val .null, .val (.ref wKINDS), .val (.int (7 : Int32)), .val (.int (4 : Int32)), .val (.ref wPREDICATE_OBJECT)] [(.int (7 : Int32)), (.int (4 : Int32))])) _
    refine XS.icmpNo X12.here hx rfl (hb hby own_d1_19) rfl (by decide) ?_
    show Steps p.tables e below (T12.setTop (mkF m 22 #[.val (.int (0 : Int32)), .val (.int (1 : Int32)), .val (.int (0 : Int32)), .val .null, .val (.ref wKINDS), .val (.int (7 : Int32)), .val (.int (4 : Int32)), .val (.ref wPREDICATE_OBJECT)] [])) _
    refine XS.aload X12.here hx rfl (hb hby own_d1_22) rfl rfl ?_
    show Steps p.tables e below (T12.setTop (mkF m 24 #[.val (.int (0 : Int32)), .val (.int (1 : Int32)), .val (.int (0 : Int32)), .val .null, .val (.ref wKINDS), .val (.int (7 : Int32)), .val (.int (4 : Int32)), .val (.ref wPREDICATE_OBJECT)] [(.ref wKINDS)])) _
    refine XS.iload X12.here hx rfl (hb hby own_d1_24) rfl ?_
    show Steps p.tables e below (T12.setTop (mkF m 26 #[.val (.int (0 : Int32)), .val (.int (1 : Int32)), .val (.int (0 : Int32)), .val .null, .val (.ref wKINDS), .val (.int (7 : Int32)), .val (.int (4 : Int32)), .val (.ref wPREDICATE_OBJECT)] [(.int (4 : Int32)), (.ref wKINDS)])) _
    refine X12.aaload hx (j := (4 : Int32)) (v := (.ref wSUBJECT)) (by rw [e12]; exact Ar2.1) (State.isArrayOf_alike hZ.alike Ar2.2.1) rfl Ar2.2.2 hin13 hat13 (g := (mkF m 26 #[.val (.int (0 : Int32)), .val (.int (1 : Int32)), .val (.int (0 : Int32)), .val .null, .val (.ref wKINDS), .val (.int (7 : Int32)), .val (.int (4 : Int32)), .val (.ref wPREDICATE_OBJECT)] [(.int (4 : Int32)), (.ref wKINDS)])) rfl rfl (hb hby own_d1_26) _ ?_
    show Steps p.tables e below (T12.setTop (mkF m 27 #[.val (.int (0 : Int32)), .val (.int (1 : Int32)), .val (.int (0 : Int32)), .val .null, .val (.ref wKINDS), .val (.int (7 : Int32)), .val (.int (4 : Int32)), .val (.ref wPREDICATE_OBJECT)] [(.ref wSUBJECT)])) _
    refine XS.astore X12.here hx rfl (hb hby own_d1_27) rfl rfl (l' := #[.val (.int (0 : Int32)), .val (.int (1 : Int32)), .val (.int (0 : Int32)), .val .null, .val (.ref wKINDS), .val (.int (7 : Int32)), .val (.int (4 : Int32)), .val (.ref wSUBJECT)]) rfl ?_
    show Steps p.tables e below (T12.setTop (mkF m 29 #[.val (.int (0 : Int32)), .val (.int (1 : Int32)), .val (.int (0 : Int32)), .val .null, .val (.ref wKINDS), .val (.int (7 : Int32)), .val (.int (4 : Int32)), .val (.ref wSUBJECT)] [])) _
    refine XS.aload X12.here hx rfl (hb hby own_d1_29) rfl rfl ?_
    show Steps p.tables e below (T12.setTop (mkF m 31 #[.val (.int (0 : Int32)), .val (.int (1 : Int32)), .val (.int (0 : Int32)), .val .null, .val (.ref wKINDS), .val (.int (7 : Int32)), .val (.int (4 : Int32)), .val (.ref wSUBJECT)] [(.ref wSUBJECT)])) _
    refine st14 _ ?_
    show Steps p.tables e below (T14.setTop (mkF m 34 #[.val (.int (0 : Int32)), .val (.int (1 : Int32)), .val (.int (0 : Int32)), .val .null, .val (.ref wKINDS), .val (.int (7 : Int32)), .val (.int (4 : Int32)), .val (.ref wSUBJECT)] [(.int (1 : Int32))])) _
    refine XS.iloadN X14.here hx rfl (hb hby own_d1_34) rfl ?_
    show Steps p.tables e below (T14.setTop (mkF m 35 #[.val (.int (0 : Int32)), .val (.int (1 : Int32)), .val (.int (0 : Int32)), .val .null, .val (.ref wKINDS), .val (.int (7 : Int32)), .val (.int (4 : Int32)), .val (.ref wSUBJECT)] [(.int (0 : Int32)), (.int (1 : Int32))])) _
    refine XS.icmpYes X14.here hx rfl (pc0 := 35) (pc' := 59) rfl (hb hby own_d1_35) rfl (by decide) (by decide) (by decide) ?_
    show Steps p.tables e below (T14.setTop (mkF m 59 #[.val (.int (0 : Int32)), .val (.int (1 : Int32)), .val (.int (0 : Int32)), .val .null, .val (.ref wKINDS), .val (.int (7 : Int32)), .val (.int (4 : Int32)), .val (.ref wSUBJECT)] [])) _
    refine XS.iinc X14.here hx rfl (hb hby own_d1_59) rfl (l' := #[.val (.int (0 : Int32)), .val (.int (1 : Int32)), .val (.int (0 : Int32)), .val .null, .val (.ref wKINDS), .val (.int (7 : Int32)), .val (.int (5 : Int32)), .val (.ref wSUBJECT)]) rfl ?_
    show Steps p.tables e below (T14.setTop (mkF m 62 #[.val (.int (0 : Int32)), .val (.int (1 : Int32)), .val (.int (0 : Int32)), .val .null, .val (.ref wKINDS), .val (.int (7 : Int32)), .val (.int (5 : Int32)), .val (.ref wSUBJECT)] [])) _
    refine XS.goto X14.here hx rfl (pc0 := 62) (pc' := 15) rfl (hb hby own_d1_62) (by decide) (by decide) ?_
    show Steps p.tables e below (T14.setTop (mkF m 15 #[.val (.int (0 : Int32)), .val (.int (1 : Int32)), .val (.int (0 : Int32)), .val .null, .val (.ref wKINDS), .val (.int (7 : Int32)), .val (.int (5 : Int32)), .val (.ref wSUBJECT)] [])) _
    refine XS.iload X14.here hx rfl (hb hby own_d1_15) rfl ?_
    show Steps p.tables e below (T14.setTop (mkF m 17 #[.val (.int (0 : Int32)), .val (.int (1 : Int32)), .val (.int (0 : Int32)), .val .null, .val (.ref wKINDS), .val (.int (7 : Int32)), .val (.int (5 : Int32)), .val (.ref wSUBJECT)] [(.int (5 : Int32))])) _
    refine XS.iload X14.here hx rfl (hb hby own_d1_17) rfl ?_
    show Steps p.tables e below (T14.setTop (mkF m 19 #[.val (.int (0 : Int32)), .val (.int (1 : Int32)), .val (.int (0 : Int32)), .val .null, .val (.ref wKINDS), .val (.int (7 : Int32)), .val (.int (5 : Int32)), .val (.ref wSUBJECT)] [(.int (7 : Int32)), (.int (5 : Int32))])) _
    refine XS.icmpNo X14.here hx rfl (hb hby own_d1_19) rfl (by decide) ?_
    show Steps p.tables e below (T14.setTop (mkF m 22 #[.val (.int (0 : Int32)), .val (.int (1 : Int32)), .val (.int (0 : Int32)), .val .null, .val (.ref wKINDS), .val (.int (7 : Int32)), .val (.int (5 : Int32)), .val (.ref wSUBJECT)] [])) _
    refine XS.aload X14.here hx rfl (hb hby own_d1_22) rfl rfl ?_
    show Steps p.tables e below (T14.setTop (mkF m 24 #[.val (.int (0 : Int32)), .val (.int (1 : Int32)), .val (.int (0 : Int32)), .val .null, .val (.ref wKINDS), .val (.int (7 : Int32)), .val (.int (5 : Int32)), .val (.ref wSUBJECT)] [(.ref wKINDS)])) _
    refine XS.iload X14.here hx rfl (hb hby own_d1_24) rfl ?_
    show Steps p.tables e below (T14.setTop (mkF m 26 #[.val (.int (0 : Int32)), .val (.int (1 : Int32)), .val (.int (0 : Int32)), .val .null, .val (.ref wKINDS), .val (.int (7 : Int32)), .val (.int (5 : Int32)), .val (.ref wSUBJECT)] [(.int (5 : Int32)), (.ref wKINDS)])) _
    refine X14.aaload hx (j := (5 : Int32)) (v := (.ref wPREDICATE)) (by rw [e14]; exact Ar2.1) (State.isArrayOf_alike hZ.alike Ar2.2.1) rfl Ar2.2.2 hin15 hat15 (g := (mkF m 26 #[.val (.int (0 : Int32)), .val (.int (1 : Int32)), .val (.int (0 : Int32)), .val .null, .val (.ref wKINDS), .val (.int (7 : Int32)), .val (.int (5 : Int32)), .val (.ref wSUBJECT)] [(.int (5 : Int32)), (.ref wKINDS)])) rfl rfl (hb hby own_d1_26) _ ?_
    show Steps p.tables e below (T14.setTop (mkF m 27 #[.val (.int (0 : Int32)), .val (.int (1 : Int32)), .val (.int (0 : Int32)), .val .null, .val (.ref wKINDS), .val (.int (7 : Int32)), .val (.int (5 : Int32)), .val (.ref wSUBJECT)] [(.ref wPREDICATE)])) _
    refine XS.astore X14.here hx rfl (hb hby own_d1_27) rfl rfl (l' := #[.val (.int (0 : Int32)), .val (.int (1 : Int32)), .val (.int (0 : Int32)), .val .null, .val (.ref wKINDS), .val (.int (7 : Int32)), .val (.int (5 : Int32)), .val (.ref wPREDICATE)]) rfl ?_
    show Steps p.tables e below (T14.setTop (mkF m 29 #[.val (.int (0 : Int32)), .val (.int (1 : Int32)), .val (.int (0 : Int32)), .val .null, .val (.ref wKINDS), .val (.int (7 : Int32)), .val (.int (5 : Int32)), .val (.ref wPREDICATE)] [])) _
    refine XS.aload X14.here hx rfl (hb hby own_d1_29) rfl rfl ?_
    show Steps p.tables e below (T14.setTop (mkF m 31 #[.val (.int (0 : Int32)), .val (.int (1 : Int32)), .val (.int (0 : Int32)), .val .null, .val (.ref wKINDS), .val (.int (7 : Int32)), .val (.int (5 : Int32)), .val (.ref wPREDICATE)] [(.ref wPREDICATE)])) _
    refine st16 _ ?_
    show Steps p.tables e below (T16.setTop (mkF m 34 #[.val (.int (0 : Int32)), .val (.int (1 : Int32)), .val (.int (0 : Int32)), .val .null, .val (.ref wKINDS), .val (.int (7 : Int32)), .val (.int (5 : Int32)), .val (.ref wPREDICATE)] [(.int (0 : Int32))])) _
    refine XS.iloadN X16.here hx rfl (hb hby own_d1_34) rfl ?_
    show Steps p.tables e below (T16.setTop (mkF m 35 #[.val (.int (0 : Int32)), .val (.int (1 : Int32)), .val (.int (0 : Int32)), .val .null, .val (.ref wKINDS), .val (.int (7 : Int32)), .val (.int (5 : Int32)), .val (.ref wPREDICATE)] [(.int (0 : Int32)), (.int (0 : Int32))])) _
    refine XS.icmpNo X16.here hx rfl (hb hby own_d1_35) rfl (by decide) ?_
    show Steps p.tables e below (T16.setTop (mkF m 38 #[.val (.int (0 : Int32)), .val (.int (1 : Int32)), .val (.int (0 : Int32)), .val .null, .val (.ref wKINDS), .val (.int (7 : Int32)), .val (.int (5 : Int32)), .val (.ref wPREDICATE)] [])) _
    refine XS.aload X16.here hx rfl (hb hby own_d1_38) rfl rfl ?_
    show Steps p.tables e below (T16.setTop (mkF m 40 #[.val (.int (0 : Int32)), .val (.int (1 : Int32)), .val (.int (0 : Int32)), .val .null, .val (.ref wKINDS), .val (.int (7 : Int32)), .val (.int (5 : Int32)), .val (.ref wPREDICATE)] [(.ref wPREDICATE)])) _
    refine st17 _ ?_
    show Steps p.tables e below (T17.setTop (mkF m 43 #[.val (.int (0 : Int32)), .val (.int (1 : Int32)), .val (.int (0 : Int32)), .val .null, .val (.ref wKINDS), .val (.int (7 : Int32)), .val (.int (5 : Int32)), .val (.ref wPREDICATE)] [(.int (1 : Int32))])) _
    refine XS.iloadN X17.here hx rfl (hb hby own_d1_43) rfl ?_
    show Steps p.tables e below (T17.setTop (mkF m 44 #[.val (.int (0 : Int32)), .val (.int (1 : Int32)), .val (.int (0 : Int32)), .val .null, .val (.ref wKINDS), .val (.int (7 : Int32)), .val (.int (5 : Int32)), .val (.ref wPREDICATE)] [(.int (1 : Int32)), (.int (1 : Int32))])) _
    refine XS.icmpNo X17.here hx rfl (hb hby own_d1_44) rfl (by decide) ?_
    show Steps p.tables e below (T17.setTop (mkF m 47 #[.val (.int (0 : Int32)), .val (.int (1 : Int32)), .val (.int (0 : Int32)), .val .null, .val (.ref wKINDS), .val (.int (7 : Int32)), .val (.int (5 : Int32)), .val (.ref wPREDICATE)] [])) _
    refine XS.aload X17.here hx rfl (hb hby own_d1_47) rfl rfl ?_
    show Steps p.tables e below (T17.setTop (mkF m 49 #[.val (.int (0 : Int32)), .val (.int (1 : Int32)), .val (.int (0 : Int32)), .val .null, .val (.ref wKINDS), .val (.int (7 : Int32)), .val (.int (5 : Int32)), .val (.ref wPREDICATE)] [(.ref wPREDICATE)])) _
    refine st18 _ ?_
    show Steps p.tables e below (T18.setTop (mkF m 52 #[.val (.int (0 : Int32)), .val (.int (1 : Int32)), .val (.int (0 : Int32)), .val .null, .val (.ref wKINDS), .val (.int (7 : Int32)), .val (.int (5 : Int32)), .val (.ref wPREDICATE)] [(.int (0 : Int32))])) _
    refine XS.iloadN X18.here hx rfl (hb hby own_d1_52) rfl ?_
    show Steps p.tables e below (T18.setTop (mkF m 53 #[.val (.int (0 : Int32)), .val (.int (1 : Int32)), .val (.int (0 : Int32)), .val .null, .val (.ref wKINDS), .val (.int (7 : Int32)), .val (.int (5 : Int32)), .val (.ref wPREDICATE)] [(.int (0 : Int32)), (.int (0 : Int32))])) _
    refine XS.icmpNo X18.here hx rfl (hb hby own_d1_53) rfl (by decide) ?_
    show Steps p.tables e below (T18.setTop (mkF m 56 #[.val (.int (0 : Int32)), .val (.int (1 : Int32)), .val (.int (0 : Int32)), .val .null, .val (.ref wKINDS), .val (.int (7 : Int32)), .val (.int (5 : Int32)), .val (.ref wPREDICATE)] [])) _
    refine XS.aload X18.here hx rfl (hb hby own_d1_56) rfl rfl ?_
    show Steps p.tables e below (T18.setTop (mkF m 58 #[.val (.int (0 : Int32)), .val (.int (1 : Int32)), .val (.int (0 : Int32)), .val .null, .val (.ref wKINDS), .val (.int (7 : Int32)), .val (.int (5 : Int32)), .val (.ref wPREDICATE)] [(.ref wPREDICATE)])) _
    refine XS.astoreN X18.here hx rfl (hb hby own_d1_58) rfl rfl (l' := #[.val (.int (0 : Int32)), .val (.int (1 : Int32)), .val (.int (0 : Int32)), .val (.ref wPREDICATE), .val (.ref wKINDS), .val (.int (7 : Int32)), .val (.int (5 : Int32)), .val (.ref wPREDICATE)]) rfl ?_
    show Steps p.tables e below (T18.setTop (mkF m 59 #[.val (.int (0 : Int32)), .val (.int (1 : Int32)), .val (.int (0 : Int32)), .val (.ref wPREDICATE), .val (.ref wKINDS), .val (.int (7 : Int32)), .val (.int (5 : Int32)), .val (.ref wPREDICATE)] [])) _
    refine XS.iinc X18.here hx rfl (hb hby own_d1_59) rfl (l' := #[.val (.int (0 : Int32)), .val (.int (1 : Int32)), .val (.int (0 : Int32)), .val (.ref wPREDICATE), .val (.ref wKINDS), .val (.int (7 : Int32)), .val (.int (6 : Int32)), .val (.ref wPREDICATE)]) rfl ?_
    show Steps p.tables e below (T18.setTop (mkF m 62 #[.val (.int (0 : Int32)), .val (.int (1 : Int32)), .val (.int (0 : Int32)), .val (.ref wPREDICATE), .val (.ref wKINDS), .val (.int (7 : Int32)), .val (.int (6 : Int32)), .val (.ref wPREDICATE)] [])) _
    refine XS.goto X18.here hx rfl (pc0 := 62) (pc' := 15) rfl (hb hby own_d1_62) (by decide) (by decide) ?_
    show Steps p.tables e below (T18.setTop (mkF m 15 #[.val (.int (0 : Int32)), .val (.int (1 : Int32)), .val (.int (0 : Int32)), .val (.ref wPREDICATE), .val (.ref wKINDS), .val (.int (7 : Int32)), .val (.int (6 : Int32)), .val (.ref wPREDICATE)] [])) _
    refine XS.iload X18.here hx rfl (hb hby own_d1_15) rfl ?_
    show Steps p.tables e below (T18.setTop (mkF m 17 #[.val (.int (0 : Int32)), .val (.int (1 : Int32)), .val (.int (0 : Int32)), .val (.ref wPREDICATE), .val (.ref wKINDS), .val (.int (7 : Int32)), .val (.int (6 : Int32)), .val (.ref wPREDICATE)] [(.int (6 : Int32))])) _
    refine XS.iload X18.here hx rfl (hb hby own_d1_17) rfl ?_
    show Steps p.tables e below (T18.setTop (mkF m 19 #[.val (.int (0 : Int32)), .val (.int (1 : Int32)), .val (.int (0 : Int32)), .val (.ref wPREDICATE), .val (.ref wKINDS), .val (.int (7 : Int32)), .val (.int (6 : Int32)), .val (.ref wPREDICATE)] [(.int (7 : Int32)), (.int (6 : Int32))])) _
    refine XS.icmpNo X18.here hx rfl (hb hby own_d1_19) rfl (by decide) ?_
    show Steps p.tables e below (T18.setTop (mkF m 22 #[.val (.int (0 : Int32)), .val (.int (1 : Int32)), .val (.int (0 : Int32)), .val (.ref wPREDICATE), .val (.ref wKINDS), .val (.int (7 : Int32)), .val (.int (6 : Int32)), .val (.ref wPREDICATE)] [])) _
    refine XS.aload X18.here hx rfl (hb hby own_d1_22) rfl rfl ?_
    show Steps p.tables e below (T18.setTop (mkF m 24 #[.val (.int (0 : Int32)), .val (.int (1 : Int32)), .val (.int (0 : Int32)), .val (.ref wPREDICATE), .val (.ref wKINDS), .val (.int (7 : Int32)), .val (.int (6 : Int32)), .val (.ref wPREDICATE)] [(.ref wKINDS)])) _
    refine XS.iload X18.here hx rfl (hb hby own_d1_24) rfl ?_
    show Steps p.tables e below (T18.setTop (mkF m 26 #[.val (.int (0 : Int32)), .val (.int (1 : Int32)), .val (.int (0 : Int32)), .val (.ref wPREDICATE), .val (.ref wKINDS), .val (.int (7 : Int32)), .val (.int (6 : Int32)), .val (.ref wPREDICATE)] [(.int (6 : Int32)), (.ref wKINDS)])) _
    refine X18.aaload hx (j := (6 : Int32)) (v := (.ref wOBJECT)) (by rw [e18]; exact Ar2.1) (State.isArrayOf_alike hZ.alike Ar2.2.1) rfl Ar2.2.2 hin19 hat19 (g := (mkF m 26 #[.val (.int (0 : Int32)), .val (.int (1 : Int32)), .val (.int (0 : Int32)), .val (.ref wPREDICATE), .val (.ref wKINDS), .val (.int (7 : Int32)), .val (.int (6 : Int32)), .val (.ref wPREDICATE)] [(.int (6 : Int32)), (.ref wKINDS)])) rfl rfl (hb hby own_d1_26) _ ?_
    show Steps p.tables e below (T18.setTop (mkF m 27 #[.val (.int (0 : Int32)), .val (.int (1 : Int32)), .val (.int (0 : Int32)), .val (.ref wPREDICATE), .val (.ref wKINDS), .val (.int (7 : Int32)), .val (.int (6 : Int32)), .val (.ref wPREDICATE)] [(.ref wOBJECT)])) _
    refine XS.astore X18.here hx rfl (hb hby own_d1_27) rfl rfl (l' := #[.val (.int (0 : Int32)), .val (.int (1 : Int32)), .val (.int (0 : Int32)), .val (.ref wPREDICATE), .val (.ref wKINDS), .val (.int (7 : Int32)), .val (.int (6 : Int32)), .val (.ref wOBJECT)]) rfl ?_
    show Steps p.tables e below (T18.setTop (mkF m 29 #[.val (.int (0 : Int32)), .val (.int (1 : Int32)), .val (.int (0 : Int32)), .val (.ref wPREDICATE), .val (.ref wKINDS), .val (.int (7 : Int32)), .val (.int (6 : Int32)), .val (.ref wOBJECT)] [])) _
    refine XS.aload X18.here hx rfl (hb hby own_d1_29) rfl rfl ?_
    show Steps p.tables e below (T18.setTop (mkF m 31 #[.val (.int (0 : Int32)), .val (.int (1 : Int32)), .val (.int (0 : Int32)), .val (.ref wPREDICATE), .val (.ref wKINDS), .val (.int (7 : Int32)), .val (.int (6 : Int32)), .val (.ref wOBJECT)] [(.ref wOBJECT)])) _
    refine st20 _ ?_
    show Steps p.tables e below (T20.setTop (mkF m 34 #[.val (.int (0 : Int32)), .val (.int (1 : Int32)), .val (.int (0 : Int32)), .val (.ref wPREDICATE), .val (.ref wKINDS), .val (.int (7 : Int32)), .val (.int (6 : Int32)), .val (.ref wOBJECT)] [(.int (0 : Int32))])) _
    refine XS.iloadN X20.here hx rfl (hb hby own_d1_34) rfl ?_
    show Steps p.tables e below (T20.setTop (mkF m 35 #[.val (.int (0 : Int32)), .val (.int (1 : Int32)), .val (.int (0 : Int32)), .val (.ref wPREDICATE), .val (.ref wKINDS), .val (.int (7 : Int32)), .val (.int (6 : Int32)), .val (.ref wOBJECT)] [(.int (0 : Int32)), (.int (0 : Int32))])) _
    refine XS.icmpNo X20.here hx rfl (hb hby own_d1_35) rfl (by decide) ?_
    show Steps p.tables e below (T20.setTop (mkF m 38 #[.val (.int (0 : Int32)), .val (.int (1 : Int32)), .val (.int (0 : Int32)), .val (.ref wPREDICATE), .val (.ref wKINDS), .val (.int (7 : Int32)), .val (.int (6 : Int32)), .val (.ref wOBJECT)] [])) _
    refine XS.aload X20.here hx rfl (hb hby own_d1_38) rfl rfl ?_
    show Steps p.tables e below (T20.setTop (mkF m 40 #[.val (.int (0 : Int32)), .val (.int (1 : Int32)), .val (.int (0 : Int32)), .val (.ref wPREDICATE), .val (.ref wKINDS), .val (.int (7 : Int32)), .val (.int (6 : Int32)), .val (.ref wOBJECT)] [(.ref wOBJECT)])) _
    refine st21 _ ?_
    show Steps p.tables e below (T21.setTop (mkF m 43 #[.val (.int (0 : Int32)), .val (.int (1 : Int32)), .val (.int (0 : Int32)), .val (.ref wPREDICATE), .val (.ref wKINDS), .val (.int (7 : Int32)), .val (.int (6 : Int32)), .val (.ref wOBJECT)] [(.int (0 : Int32))])) _
    refine XS.iloadN X21.here hx rfl (hb hby own_d1_43) rfl ?_
    show Steps p.tables e below (T21.setTop (mkF m 44 #[.val (.int (0 : Int32)), .val (.int (1 : Int32)), .val (.int (0 : Int32)), .val (.ref wPREDICATE), .val (.ref wKINDS), .val (.int (7 : Int32)), .val (.int (6 : Int32)), .val (.ref wOBJECT)] [(.int (1 : Int32)), (.int (0 : Int32))])) _
    refine XS.icmpYes X21.here hx rfl (pc0 := 44) (pc' := 59) rfl (hb hby own_d1_44) rfl (by decide) (by decide) (by decide) ?_
    show Steps p.tables e below (T21.setTop (mkF m 59 #[.val (.int (0 : Int32)), .val (.int (1 : Int32)), .val (.int (0 : Int32)), .val (.ref wPREDICATE), .val (.ref wKINDS), .val (.int (7 : Int32)), .val (.int (6 : Int32)), .val (.ref wOBJECT)] [])) _
    refine XS.iinc X21.here hx rfl (hb hby own_d1_59) rfl (l' := #[.val (.int (0 : Int32)), .val (.int (1 : Int32)), .val (.int (0 : Int32)), .val (.ref wPREDICATE), .val (.ref wKINDS), .val (.int (7 : Int32)), .val (.int (7 : Int32)), .val (.ref wOBJECT)]) rfl ?_
    show Steps p.tables e below (T21.setTop (mkF m 62 #[.val (.int (0 : Int32)), .val (.int (1 : Int32)), .val (.int (0 : Int32)), .val (.ref wPREDICATE), .val (.ref wKINDS), .val (.int (7 : Int32)), .val (.int (7 : Int32)), .val (.ref wOBJECT)] [])) _
    refine XS.goto X21.here hx rfl (pc0 := 62) (pc' := 15) rfl (hb hby own_d1_62) (by decide) (by decide) ?_
    show Steps p.tables e below (T21.setTop (mkF m 15 #[.val (.int (0 : Int32)), .val (.int (1 : Int32)), .val (.int (0 : Int32)), .val (.ref wPREDICATE), .val (.ref wKINDS), .val (.int (7 : Int32)), .val (.int (7 : Int32)), .val (.ref wOBJECT)] [])) _
    refine XS.iload X21.here hx rfl (hb hby own_d1_15) rfl ?_
    show Steps p.tables e below (T21.setTop (mkF m 17 #[.val (.int (0 : Int32)), .val (.int (1 : Int32)), .val (.int (0 : Int32)), .val (.ref wPREDICATE), .val (.ref wKINDS), .val (.int (7 : Int32)), .val (.int (7 : Int32)), .val (.ref wOBJECT)] [(.int (7 : Int32))])) _
    refine XS.iload X21.here hx rfl (hb hby own_d1_17) rfl ?_
    show Steps p.tables e below (T21.setTop (mkF m 19 #[.val (.int (0 : Int32)), .val (.int (1 : Int32)), .val (.int (0 : Int32)), .val (.ref wPREDICATE), .val (.ref wKINDS), .val (.int (7 : Int32)), .val (.int (7 : Int32)), .val (.ref wOBJECT)] [(.int (7 : Int32)), (.int (7 : Int32))])) _
    refine XS.icmpYes X21.here hx rfl (pc0 := 19) (pc' := 65) rfl (hb hby own_d1_19) rfl (by decide) (by decide) (by decide) ?_
    show Steps p.tables e below (T21.setTop (mkF m 65 #[.val (.int (0 : Int32)), .val (.int (1 : Int32)), .val (.int (0 : Int32)), .val (.ref wPREDICATE), .val (.ref wKINDS), .val (.int (7 : Int32)), .val (.int (7 : Int32)), .val (.ref wOBJECT)] [])) _
    refine XS.aloadN X21.here hx rfl (hb hby own_d1_65) rfl rfl ?_
    show Steps p.tables e below (T21.setTop (mkF m 66 #[.val (.int (0 : Int32)), .val (.int (1 : Int32)), .val (.int (0 : Int32)), .val (.ref wPREDICATE), .val (.ref wKINDS), .val (.int (7 : Int32)), .val (.int (7 : Int32)), .val (.ref wOBJECT)] [(.ref wPREDICATE)])) _
    jvm_step X21.here [X21.here.top, hx, (hb hby own_d1_66), X21.method', Bd.returns, Value.isRef, FieldType.isReference]
    first | (intro acts; rw [hr _ acts rfl rfl rfl]) | rw [hr _ _ rfl rfl rfl]
    exact Steps.refl _
  · show OwnQ _ h0 n0 _ T21.heap _
    exact ⟨rfl, N0, e21⟩
theorem own_d2_36 : decode method_2_code 36 = .ok (.iload_n 2, 1) := by decide +kernel
theorem own_d2_37 : decode method_2_code 37 = .ok (.ifCond .eq 7, 3) := by decide +kernel
theorem own_d2_44 : decode method_2_code 44 = .ok (.getstatic 25, 3) := by decide +kernel
theorem own_d2_47 : decode method_2_code 47 = .ok (.areturn, 1) := by decide +kernel
set_option maxRecDepth 65536 in
set_option maxHeartbeats 40000000 in
theorem own_expected_5 (l : Launch) (Z : State) (a0 : Array Value) (hw : ∀ d ∈ tables_1, d.before a0 Z = true) (ws : List Jvm.Cond) (wKINDS : Addr) (wSUBJECT_PREDICATE_OBJECT : Addr) (wSUBJECT_PREDICATE : Addr) (wSUBJECT_OBJECT : Addr) (wPREDICATE_OBJECT : Addr) (wSUBJECT : Addr) (wPREDICATE : Addr) (wOBJECT : Addr) (kKINDS : ClassId) (G : OwnG Z wKINDS wSUBJECT_PREDICATE_OBJECT wSUBJECT_PREDICATE wSUBJECT_OBJECT wPREDICATE_OBJECT wSUBJECT wPREDICATE wOBJECT kKINDS) (h0 : Heap) (n0 : Nat) (O0 : Old Z n0 h0) :
    MetFree l (⟨"com/example/quadrille/quadrille/graphfilter/PatternKindKeepingPinLaw", "expected", "(ZZZ)Lcom/example/quadrille/quadrille/graphfilter/PatternKind;"⟩ : MethodName) (head1 (Jvm.Cond.code (⟨"com/example/quadrille/quadrille/graphfilter/PatternKindKeepingPinLaw", "expected", "(ZZZ)Lcom/example/quadrille/quadrille/graphfilter/PatternKind;"⟩ : MethodName) method_2_code 3 (some (.object "com/example/quadrille/quadrille/graphfilter/PatternKind")) :: ws) ({ frames := 0, cells := 0, slots := 0, locals := 0 } : Room)) (fun a U => a = #[(.int (0 : Int32)), (.int (1 : Int32)), (.int (0 : Int32))] ∧ Z.Warmed39 U.vm ∧ U.heap = h0) (fun _ _ _ _ _ => True) (fun _ U o U' => ∃ v L, o = .returned v ∧ OwnQ (some (.ref wPREDICATE)) h0 n0 v U'.heap L ∧ FrameEnd U o U' L ({ frames := 0, cells := 0, slots := 0, locals := 0 } : Room).cells ({ frames := 0, cells := 0, slots := 0, locals := 0 } : Room).slots) := by
  refine MetFree.of_bodySF (plainFor_of_name own_pn_0) hisR ?_
  intro p e s m args below meth c s₁ Bd hml0 hP hK
  obtain ⟨rfl, hZ, hh⟩ := hP
  have hx := Bd.exec
  have hby := Bd.bytes
  have hml : c.maxLocals = 3 := hml0
  have hown : s.vm.findClass "com/example/quadrille/quadrille/graphfilter/PatternKindKeepingPinLaw" = some m.cls := findClass_of_methodNamed Bd.named
  have hnm := (name_of_methodNamed Bd.named Bd.method).1
  have X0 : Stand p l e ({ frames := 0, cells := 0, slots := 0, locals := 0 } : Room) s m #[(.int (0 : Int32)), (.int (1 : Int32)), (.int (0 : Int32))] below meth c s₁ [] 0 0 := Stand.of_body Bd
  have e0 : s₁.heap = h0 := by rw [← hh, Bd.state]; rfl
  have N0 := Fr.nil n0
  have pre0 : ∀ t, Steps p.tables e below (s₁.setTop (mkF m 0 #[.val (.int (0 : Int32)), .val (.int (1 : Int32)), .val (.int (0 : Int32))] [])) t → Steps p.tables e below (s₁.setTop (entryFrame m #[(.int (0 : Int32)), (.int (1 : Int32)), (.int (0 : Int32))] 3)) t := fun t k => castTop (own_ef_2_III m (0 : Int32) (1 : Int32) (0 : Int32)) k
  obtain ⟨T1, X1, e1, st1⟩ := getS2 X0 hx hZ hown (host := "") (Or.inl (hw _ (List.mem_of_getElem? (i := 26) rfl))) Via.refl e0 (G.2.2.2.2.2.2.2.2.2.2.2.1.ext O0.2) (g := (mkF m 44 #[.val (.int (0 : Int32)), .val (.int (1 : Int32)), .val (.int (0 : Int32))] [])) rfl (hb hby own_d2_44)
  obtain ⟨fs, hr, hrun, hended, hW, hsame⟩ := X1.leave (v := some (.ref wPREDICATE)) (fun h => by rw [Bd.returns] at h; cases h)
  refine ⟨_, _, pre0 _ ?_, hrun, hended, _, _, rfl, ?_, ⟨_, rfl⟩, hW, hsame.mono (by decide) (by decide)⟩
  · show Steps p.tables e below (s₁.setTop (mkF m 0 #[.val (.int (0 : Int32)), .val (.int (1 : Int32)), .val (.int (0 : Int32))] [])) _
    refine XS.iloadN X0.here hx rfl (hb hby own_d2_0) rfl ?_
    show Steps p.tables e below (s₁.setTop (mkF m 1 #[.val (.int (0 : Int32)), .val (.int (1 : Int32)), .val (.int (0 : Int32))] [(.int (0 : Int32))])) _
    refine XS.ifYes X0.here hx rfl (pc0 := 1) (pc' := 32) rfl (hb hby own_d2_1) rfl (by decide) (by decide) (by decide) ?_
    show Steps p.tables e below (s₁.setTop (mkF m 32 #[.val (.int (0 : Int32)), .val (.int (1 : Int32)), .val (.int (0 : Int32))] [])) _
    refine XS.iloadN X0.here hx rfl (hb hby own_d2_32) rfl ?_
    show Steps p.tables e below (s₁.setTop (mkF m 33 #[.val (.int (0 : Int32)), .val (.int (1 : Int32)), .val (.int (0 : Int32))] [(.int (1 : Int32))])) _
    refine XS.ifNo X0.here hx rfl (hb hby own_d2_33) rfl (by decide) ?_
    show Steps p.tables e below (s₁.setTop (mkF m 36 #[.val (.int (0 : Int32)), .val (.int (1 : Int32)), .val (.int (0 : Int32))] [])) _
    refine XS.iloadN X0.here hx rfl (hb hby own_d2_36) rfl ?_
    show Steps p.tables e below (s₁.setTop (mkF m 37 #[.val (.int (0 : Int32)), .val (.int (1 : Int32)), .val (.int (0 : Int32))] [(.int (0 : Int32))])) _
    refine XS.ifYes X0.here hx rfl (pc0 := 37) (pc' := 44) rfl (hb hby own_d2_37) rfl (by decide) (by decide) (by decide) ?_
    show Steps p.tables e below (s₁.setTop (mkF m 44 #[.val (.int (0 : Int32)), .val (.int (1 : Int32)), .val (.int (0 : Int32))] [])) _
    refine st1 _ ?_
    show Steps p.tables e below (T1.setTop (mkF m 47 #[.val (.int (0 : Int32)), .val (.int (1 : Int32)), .val (.int (0 : Int32))] [(.ref wPREDICATE)])) _
    jvm_step X1.here [X1.here.top, hx, (hb hby own_d2_47), X1.method', Bd.returns, Value.isRef, FieldType.isReference]
    first | (intro acts; rw [hr _ acts rfl rfl rfl]) | rw [hr _ _ rfl rfl rfl]
    exact Steps.refl _
  · show OwnQ _ h0 n0 _ T1.heap _
    exact ⟨rfl, N0, e1⟩
set_option maxRecDepth 65536 in
set_option maxHeartbeats 40000000 in
theorem own_law_2 (l : Launch) (Z : State) (a0 : Array Value) (hw : ∀ d ∈ tables_1, d.before a0 Z = true) (ws : List Jvm.Cond) (wKINDS : Addr) (wSUBJECT_PREDICATE_OBJECT : Addr) (wSUBJECT_PREDICATE : Addr) (wSUBJECT_OBJECT : Addr) (wPREDICATE_OBJECT : Addr) (wSUBJECT : Addr) (wPREDICATE : Addr) (wOBJECT : Addr) (kKINDS : ClassId) (G : OwnG Z wKINDS wSUBJECT_PREDICATE_OBJECT wSUBJECT_PREDICATE wSUBJECT_OBJECT wPREDICATE_OBJECT wSUBJECT wPREDICATE wOBJECT kKINDS) (h0 : Heap) (n0 : Nat) (O0 : Old Z n0 h0) (p1 : Int32) (h1 : (p1 &&& (1 : Int32)) = (0 : Int32)) (h2 : ¬ ((p1 &&& (2 : Int32)) = (0 : Int32))) (h4 : (p1 &&& (4 : Int32)) = (0 : Int32)) :
    MetFree l x (head1 (Jvm.Cond.code x code maxLocals ret :: ws) room_1) (fun a U => a = #[(.int p1)] ∧ Z.Warmed39 U.vm ∧ U.heap = h0) (fun _ _ _ _ _ => True) (fun _ U o U' => ∃ v L, o = .returned v ∧ (v = some (.int 1) ∧ Fr n0 L) ∧ FrameEnd U o U' L room_1.cells room_1.slots) := by
  refine MetFree.of_bodySF (plainFor_of_name own_pn_0) hisR ?_
  intro p e s m args below meth c s₁ Bd hml0 hP hK
  obtain ⟨rfl, hZ, hh⟩ := hP
  have hx := Bd.exec
  have hby := Bd.bytes
  have hml : c.maxLocals = 5 := hml0
  have hown : s.vm.findClass "com/example/quadrille/quadrille/graphfilter/PatternKindKeepingPinLaw" = some m.cls := findClass_of_methodNamed Bd.named
  have hnm := (name_of_methodNamed Bd.named Bd.method).1
  have X0 : Stand p l e room_1 s m #[(.int p1)] below meth c s₁ [] 0 0 := Stand.of_body Bd
  have e0 : s₁.heap = h0 := by rw [← hh, Bd.state]; rfl
  have N0 := Fr.nil n0
  have pre0 : ∀ t, Steps p.tables e below (s₁.setTop (mkF m 0 #[.val (.int p1), .unset, .unset, .unset, .unset] [])) t → Steps p.tables e below (s₁.setTop (entryFrame m #[(.int p1)] maxLocals)) t := fun t k => castTop (own_ef_0_I m p1) k
  obtain ⟨_, _, ⟨T1, L1, k1, n1⟩, -, X1, ⟨Lc1, hQ1, l1, y1, z1⟩, st1⟩ := Jvm.LawKit.callS X0 hx (y := (⟨"com/example/quadrille/quadrille/graphfilter/PatternKind", "keeping", "(ZZZ)Lcom/example/quadrille/quadrille/graphfilter/PatternKind;"⟩ : MethodName)) hown (mvT hZ (hw _ (List.mem_of_getElem? (i := 0) rfl))) (mvT hZ (hw _ (List.mem_of_getElem? (i := 1) rfl))) (mvT hZ (hw _ (List.mem_of_getElem? (i := 2) rfl))) (mvT hZ (hw _ (List.mem_of_getElem? (i := 3) rfl))) (by decide) (backOf (W := 0) (own_keeping_4 l Z a0 hw [] wKINDS wSUBJECT_PREDICATE_OBJECT wSUBJECT_PREDICATE wSUBJECT_OBJECT wPREDICATE_OBJECT wSUBJECT wPREDICATE wOBJECT kKINDS G h0 n0 O0) hZ (hw _ (List.mem_of_getElem? (i := 3) rfl)) (hw _ (List.mem_of_getElem? (i := 2) rfl)) (by decide) (by decide)) (g := (mkF m 39 #[.val (.int p1), .val (.int (0 : Int32)), .val (.int (1 : Int32)), .val (.int (0 : Int32)), .unset] [(.int (0 : Int32)), (.int (1 : Int32)), (.int (0 : Int32))])) rfl (by rw [hml]; rfl) (argsL := [(.int (0 : Int32)), (.int (1 : Int32)), (.int (0 : Int32))]) (rest := []) (lenOf own_pd_0 rfl) rfl (by show 2 * 0 + _ ≤ _; exact Nat.le_of_eq rfl) (hb hby at_39) (fun _ _ => ⟨rfl, e0, (by decide : 0 + 0 ≤ _), (by decide : 0 + 0 ≤ _)⟩)
  dsimp only [Pt.U, Pt.locs, Pt.cells, Pt.slots] at X1 l1 y1 z1 st1 hQ1
  subst l1 y1 z1
  obtain ⟨rfl, N1q, e1⟩ := hQ1
  have N1 := Fr.app N0 N1q
  obtain ⟨_, _, ⟨T2, L2, k2, n2⟩, -, X2, ⟨Lc2, hQ2, l2, y2, z2⟩, st2⟩ := Jvm.LawKit.callS X1 hx (y := (⟨"com/example/quadrille/quadrille/graphfilter/PatternKindKeepingPinLaw", "expected", "(ZZZ)Lcom/example/quadrille/quadrille/graphfilter/PatternKind;"⟩ : MethodName)) hown (mvT hZ (hw _ (List.mem_of_getElem? (i := 19) rfl))) (mvT hZ (hw _ (List.mem_of_getElem? (i := 20) rfl))) (mvT hZ (hw _ (List.mem_of_getElem? (i := 21) rfl))) (mvT hZ (hw _ (List.mem_of_getElem? (i := 22) rfl))) (by decide) (backOf (W := 1) (own_expected_5 l Z a0 hw [] wKINDS wSUBJECT_PREDICATE_OBJECT wSUBJECT_PREDICATE wSUBJECT_OBJECT wPREDICATE_OBJECT wSUBJECT wPREDICATE wOBJECT kKINDS G h0 n0 O0) hZ (hw _ (List.mem_of_getElem? (i := 22) rfl)) (hw _ (List.mem_of_getElem? (i := 21) rfl)) (by decide) (by decide)) (g := (mkF m 49 #[.val (.int p1), .val (.int (0 : Int32)), .val (.int (1 : Int32)), .val (.int (0 : Int32)), .val (.ref wPREDICATE)] [(.int (0 : Int32)), (.int (1 : Int32)), (.int (0 : Int32)), (.ref wPREDICATE)])) rfl (by rw [hml]; rfl) (argsL := [(.int (0 : Int32)), (.int (1 : Int32)), (.int (0 : Int32))]) (rest := [(.ref wPREDICATE)]) (lenOf own_pd_0 rfl) rfl (by show 2 * 0 + _ ≤ _; exact Nat.le_of_eq rfl) (hb hby at_49) (fun _ _ => ⟨rfl, e1, (by decide : 0 + 0 ≤ _), (by decide : 0 + 0 ≤ _)⟩)
  dsimp only [Pt.U, Pt.locs, Pt.cells, Pt.slots] at X2 l2 y2 z2 st2 hQ2
  subst l2 y2 z2
  obtain ⟨rfl, N2q, e2⟩ := hQ2
  have N2 := Fr.app N1 N2q
  obtain ⟨fs, hr, hrun, hended, hW, hsame⟩ := X2.leave (v := some (.int (1 : Int32))) (fun h => by rw [Bd.returns] at h; cases h)
  refine ⟨_, _, pre0 _ ?_, hrun, hended, _, _, rfl, ?_, ⟨_, rfl⟩, hW, hsame.mono (by decide) (by decide)⟩
  · show Steps p.tables e below (s₁.setTop (mkF m 0 #[.val (.int p1), .unset, .unset, .unset, .unset] [])) _
    refine XS.iloadN X0.here hx rfl (hb hby at_0) rfl ?_
    show Steps p.tables e below (s₁.setTop (mkF m 1 #[.val (.int p1), .unset, .unset, .unset, .unset] [(.int p1)])) _
    refine XS.iconst X0.here hx rfl (hb hby at_1) ?_
    show Steps p.tables e below (s₁.setTop (mkF m 2 #[.val (.int p1), .unset, .unset, .unset, .unset] [(.int (1 : Int32)), (.int p1)])) _
    refine XS.iand X0.here hx rfl (hb hby at_2) rfl ?_
    show Steps p.tables e below (s₁.setTop (mkF m 3 #[.val (.int p1), .unset, .unset, .unset, .unset] [(.int (p1 &&& (1 : Int32)))])) _
    refine XS.ifYes X0.here hx rfl (pc0 := 3) (pc' := 10) rfl (hb hby at_3) rfl ((if0 _ _).trans (teq (h1 : (p1 &&& (1 : Int32)) = (0 : Int32))).1) (by decide) (by decide) ?_
    show Steps p.tables e below (s₁.setTop (mkF m 10 #[.val (.int p1), .unset, .unset, .unset, .unset] [])) _
    refine XS.iconst X0.here hx rfl (hb hby at_10) ?_
    show Steps p.tables e below (s₁.setTop (mkF m 11 #[.val (.int p1), .unset, .unset, .unset, .unset] [(.int (0 : Int32))])) _
    refine XS.istoreN X0.here hx rfl (hb hby at_11) rfl (l' := #[.val (.int p1), .val (.int (0 : Int32)), .unset, .unset, .unset]) rfl ?_
    show Steps p.tables e below (s₁.setTop (mkF m 12 #[.val (.int p1), .val (.int (0 : Int32)), .unset, .unset, .unset] [])) _
    refine XS.iloadN X0.here hx rfl (hb hby at_12) rfl ?_
    show Steps p.tables e below (s₁.setTop (mkF m 13 #[.val (.int p1), .val (.int (0 : Int32)), .unset, .unset, .unset] [(.int p1)])) _
    refine XS.iconst X0.here hx rfl (hb hby at_13) ?_
    show Steps p.tables e below (s₁.setTop (mkF m 14 #[.val (.int p1), .val (.int (0 : Int32)), .unset, .unset, .unset] [(.int (2 : Int32)), (.int p1)])) _
    refine XS.iand X0.here hx rfl (hb hby at_14) rfl ?_
    show Steps p.tables e below (s₁.setTop (mkF m 15 #[.val (.int p1), .val (.int (0 : Int32)), .unset, .unset, .unset] [(.int (p1 &&& (2 : Int32)))])) _
    refine XS.ifNo X0.here hx rfl (hb hby at_15) rfl ((if0 _ _).trans (feq (h2 : ¬ ((p1 &&& (2 : Int32)) = (0 : Int32)))).1) ?_
    show Steps p.tables e below (s₁.setTop (mkF m 18 #[.val (.int p1), .val (.int (0 : Int32)), .unset, .unset, .unset] [])) _
    refine XS.iconst X0.here hx rfl (hb hby at_18) ?_
    show Steps p.tables e below (s₁.setTop (mkF m 19 #[.val (.int p1), .val (.int (0 : Int32)), .unset, .unset, .unset] [(.int (1 : Int32))])) _
    refine XS.goto X0.here hx rfl (pc0 := 19) (pc' := 23) rfl (hb hby at_19) (by decide) (by decide) ?_
    show Steps p.tables e below (s₁.setTop (mkF m 23 #[.val (.int p1), .val (.int (0 : Int32)), .unset, .unset, .unset] [(.int (1 : Int32))])) _
    refine XS.istoreN X0.here hx rfl (hb hby at_23) rfl (l' := #[.val (.int p1), .val (.int (0 : Int32)), .val (.int (1 : Int32)), .unset, .unset]) rfl ?_
    show Steps p.tables e below (s₁.setTop (mkF m 24 #[.val (.int p1), .val (.int (0 : Int32)), .val (.int (1 : Int32)), .unset, .unset] [])) _
    refine XS.iloadN X0.here hx rfl (hb hby at_24) rfl ?_
    show Steps p.tables e below (s₁.setTop (mkF m 25 #[.val (.int p1), .val (.int (0 : Int32)), .val (.int (1 : Int32)), .unset, .unset] [(.int p1)])) _
    refine XS.iconst X0.here hx rfl (hb hby at_25) ?_
    show Steps p.tables e below (s₁.setTop (mkF m 26 #[.val (.int p1), .val (.int (0 : Int32)), .val (.int (1 : Int32)), .unset, .unset] [(.int (4 : Int32)), (.int p1)])) _
    refine XS.iand X0.here hx rfl (hb hby at_26) rfl ?_
    show Steps p.tables e below (s₁.setTop (mkF m 27 #[.val (.int p1), .val (.int (0 : Int32)), .val (.int (1 : Int32)), .unset, .unset] [(.int (p1 &&& (4 : Int32)))])) _
    refine XS.ifYes X0.here hx rfl (pc0 := 27) (pc' := 34) rfl (hb hby at_27) rfl ((if0 _ _).trans (teq (h4 : (p1 &&& (4 : Int32)) = (0 : Int32))).1) (by decide) (by decide) ?_
    show Steps p.tables e below (s₁.setTop (mkF m 34 #[.val (.int p1), .val (.int (0 : Int32)), .val (.int (1 : Int32)), .unset, .unset] [])) _
    refine XS.iconst X0.here hx rfl (hb hby at_34) ?_
    show Steps p.tables e below (s₁.setTop (mkF m 35 #[.val (.int p1), .val (.int (0 : Int32)), .val (.int (1 : Int32)), .unset, .unset] [(.int (0 : Int32))])) _
    refine XS.istoreN X0.here hx rfl (hb hby at_35) rfl (l' := #[.val (.int p1), .val (.int (0 : Int32)), .val (.int (1 : Int32)), .val (.int (0 : Int32)), .unset]) rfl ?_
    show Steps p.tables e below (s₁.setTop (mkF m 36 #[.val (.int p1), .val (.int (0 : Int32)), .val (.int (1 : Int32)), .val (.int (0 : Int32)), .unset] [])) _
    refine XS.iloadN X0.here hx rfl (hb hby at_36) rfl ?_
    show Steps p.tables e below (s₁.setTop (mkF m 37 #[.val (.int p1), .val (.int (0 : Int32)), .val (.int (1 : Int32)), .val (.int (0 : Int32)), .unset] [(.int (0 : Int32))])) _
    refine XS.iloadN X0.here hx rfl (hb hby at_37) rfl ?_
    show Steps p.tables e below (s₁.setTop (mkF m 38 #[.val (.int p1), .val (.int (0 : Int32)), .val (.int (1 : Int32)), .val (.int (0 : Int32)), .unset] [(.int (1 : Int32)), (.int (0 : Int32))])) _
    refine XS.iloadN X0.here hx rfl (hb hby at_38) rfl ?_
    show Steps p.tables e below (s₁.setTop (mkF m 39 #[.val (.int p1), .val (.int (0 : Int32)), .val (.int (1 : Int32)), .val (.int (0 : Int32)), .unset] [(.int (0 : Int32)), (.int (1 : Int32)), (.int (0 : Int32))])) _
    refine st1 _ ?_
    show Steps p.tables e below (T1.setTop (mkF m 42 #[.val (.int p1), .val (.int (0 : Int32)), .val (.int (1 : Int32)), .val (.int (0 : Int32)), .unset] [(.ref wPREDICATE)])) _
    refine XS.astore X1.here hx rfl (hb hby at_42) rfl rfl (l' := #[.val (.int p1), .val (.int (0 : Int32)), .val (.int (1 : Int32)), .val (.int (0 : Int32)), .val (.ref wPREDICATE)]) rfl ?_
    show Steps p.tables e below (T1.setTop (mkF m 44 #[.val (.int p1), .val (.int (0 : Int32)), .val (.int (1 : Int32)), .val (.int (0 : Int32)), .val (.ref wPREDICATE)] [])) _
    refine XS.aload X1.here hx rfl (hb hby at_44) rfl rfl ?_
    show Steps p.tables e below (T1.setTop (mkF m 46 #[.val (.int p1), .val (.int (0 : Int32)), .val (.int (1 : Int32)), .val (.int (0 : Int32)), .val (.ref wPREDICATE)] [(.ref wPREDICATE)])) _
    refine XS.iloadN X1.here hx rfl (hb hby at_46) rfl ?_
    show Steps p.tables e below (T1.setTop (mkF m 47 #[.val (.int p1), .val (.int (0 : Int32)), .val (.int (1 : Int32)), .val (.int (0 : Int32)), .val (.ref wPREDICATE)] [(.int (0 : Int32)), (.ref wPREDICATE)])) _
    refine XS.iloadN X1.here hx rfl (hb hby at_47) rfl ?_
    show Steps p.tables e below (T1.setTop (mkF m 48 #[.val (.int p1), .val (.int (0 : Int32)), .val (.int (1 : Int32)), .val (.int (0 : Int32)), .val (.ref wPREDICATE)] [(.int (1 : Int32)), (.int (0 : Int32)), (.ref wPREDICATE)])) _
    refine XS.iloadN X1.here hx rfl (hb hby at_48) rfl ?_
    show Steps p.tables e below (T1.setTop (mkF m 49 #[.val (.int p1), .val (.int (0 : Int32)), .val (.int (1 : Int32)), .val (.int (0 : Int32)), .val (.ref wPREDICATE)] [(.int (0 : Int32)), (.int (1 : Int32)), (.int (0 : Int32)), (.ref wPREDICATE)])) _
    refine st2 _ ?_
    show Steps p.tables e below (T2.setTop (mkF m 52 #[.val (.int p1), .val (.int (0 : Int32)), .val (.int (1 : Int32)), .val (.int (0 : Int32)), .val (.ref wPREDICATE)] [(.ref wPREDICATE), (.ref wPREDICATE)])) _
    refine Jvm.RoadKit.acmp (g := (mkF m 52 #[.val (.int p1), .val (.int (0 : Int32)), .val (.int (1 : Int32)), .val (.int (0 : Int32)), .val (.ref wPREDICATE)] [(.ref wPREDICATE), (.ref wPREDICATE)])) X2 hx rfl rfl rfl (pc0 := 52) (pc' := 55) (same := true) rfl (hb hby at_52) rfl (decide_eq_true rfl) (by decide) (by decide) ?_
    show Steps p.tables e below (T2.setTop (mkF m 55 #[.val (.int p1), .val (.int (0 : Int32)), .val (.int (1 : Int32)), .val (.int (0 : Int32)), .val (.ref wPREDICATE)] [])) _
    refine XS.iconst X2.here hx rfl (hb hby at_55) ?_
    show Steps p.tables e below (T2.setTop (mkF m 56 #[.val (.int p1), .val (.int (0 : Int32)), .val (.int (1 : Int32)), .val (.int (0 : Int32)), .val (.ref wPREDICATE)] [(.int (1 : Int32))])) _
    refine XS.goto X2.here hx rfl (pc0 := 56) (pc' := 60) rfl (hb hby at_56) (by decide) (by decide) ?_
    show Steps p.tables e below (T2.setTop (mkF m 60 #[.val (.int p1), .val (.int (0 : Int32)), .val (.int (1 : Int32)), .val (.int (0 : Int32)), .val (.ref wPREDICATE)] [(.int (1 : Int32))])) _
    exact retN X2 hx (t := .boolean) Bd.returns (by simp) (hb hby at_60) hr
  · exact ⟨rfl, N2⟩
set_option maxRecDepth 65536 in
set_option maxHeartbeats 40000000 in
theorem own_keeping_6 (l : Launch) (Z : State) (a0 : Array Value) (hw : ∀ d ∈ tables_1, d.before a0 Z = true) (ws : List Jvm.Cond) (wKINDS : Addr) (wSUBJECT_PREDICATE_OBJECT : Addr) (wSUBJECT_PREDICATE : Addr) (wSUBJECT_OBJECT : Addr) (wPREDICATE_OBJECT : Addr) (wSUBJECT : Addr) (wPREDICATE : Addr) (wOBJECT : Addr) (kKINDS : ClassId) (G : OwnG Z wKINDS wSUBJECT_PREDICATE_OBJECT wSUBJECT_PREDICATE wSUBJECT_OBJECT wPREDICATE_OBJECT wSUBJECT wPREDICATE wOBJECT kKINDS) (h0 : Heap) (n0 : Nat) (O0 : Old Z n0 h0) :
    MetFree l (⟨"com/example/quadrille/quadrille/graphfilter/PatternKind", "keeping", "(ZZZ)Lcom/example/quadrille/quadrille/graphfilter/PatternKind;"⟩ : MethodName) (head1 (Jvm.Cond.code (⟨"com/example/quadrille/quadrille/graphfilter/PatternKind", "keeping", "(ZZZ)Lcom/example/quadrille/quadrille/graphfilter/PatternKind;"⟩ : MethodName) prog_67_method_4_code 8 (some (.object "com/example/quadrille/quadrille/graphfilter/PatternKind")) :: ws) ({ frames := 0, cells := 0, slots := 0, locals := 0 } : Room)) (fun a U => a = #[(.int (1 : Int32)), (.int (1 : Int32)), (.int (0 : Int32))] ∧ Z.Warmed39 U.vm ∧ U.heap = h0) (fun _ _ _ _ _ => True) (fun _ U o U' => ∃ v L, o = .returned v ∧ OwnQ (some (.ref wSUBJECT_PREDICATE)) h0 n0 v U'.heap L ∧ FrameEnd U o U' L ({ frames := 0, cells := 0, slots := 0, locals := 0 } : Room).cells ({ frames := 0, cells := 0, slots := 0, locals := 0 } : Room).slots) := by
  refine MetFree.of_bodySF (plainFor_of_name own_pn_1) hisR ?_
  intro p e s m args below meth c s₁ Bd hml0 hP hK
  obtain ⟨rfl, hZ, hh⟩ := hP
  have hx := Bd.exec
  have hby := Bd.bytes
  have hml : c.maxLocals = 8 := hml0
  have hown : s.vm.findClass "com/example/quadrille/quadrille/graphfilter/PatternKind" = some m.cls := findClass_of_methodNamed Bd.named
  have hnm := (name_of_methodNamed Bd.named Bd.method).1
  have X0 : Stand p l e ({ frames := 0, cells := 0, slots := 0, locals := 0 } : Room) s m #[(.int (1 : Int32)), (.int (1 : Int32)), (.int (0 : Int32))] below meth c s₁ [] 0 0 := Stand.of_body Bd
  have e0 : s₁.heap = h0 := by rw [← hh, Bd.state]; rfl
  have N0 := Fr.nil n0
  have pre0 : ∀ t, Steps p.tables e below (s₁.setTop (mkF m 0 #[.val (.int (1 : Int32)), .val (.int (1 : Int32)), .val (.int (0 : Int32)), .unset, .unset, .unset, .unset, .unset] [])) t → Steps p.tables e below (s₁.setTop (entryFrame m #[(.int (1 : Int32)), (.int (1 : Int32)), (.int (0 : Int32))] 8)) t := fun t k => castTop (own_ef_1_III m (1 : Int32) (1 : Int32) (0 : Int32)) k
  obtain ⟨T1, X1, e1, st1⟩ := getS2 X0 hx hZ hown (host := "") (Or.inl (hw _ (List.mem_of_getElem? (i := 4) rfl))) Via.refl e0 (G.1.ext O0.2) (g := (mkF m 2 #[.val (.int (1 : Int32)), .val (.int (1 : Int32)), .val (.int (0 : Int32)), .val .null, .unset, .unset, .unset, .unset] [])) rfl (hb hby own_d1_2)
  obtain ⟨cl2, Ar2, qk2, Sz2, Nn2, Hs2, Gs2⟩ := id ((G.2.2.2.2.2.2.2.2.2.2.2.2.2.2.2.2.2.2.2.2.2.2.2.2.2.2.2.2.2.2.2.2.2.2.2.2.1.ext O0.2))
  have hin3 : ¬ ((0 : Int32) < 0 ∨ cl2.slots.size ≤ ((0 : Int32)).toNatClampNeg) := inb_of Sz2 ⟨by decide, by decide⟩
  have hat3 : cl2.slots[((0 : Int32)).toNatClampNeg]? = some (.ref wSUBJECT_PREDICATE_OBJECT) := Hs2.at hin3 rfl
  obtain ⟨T4, X4, e4, st4⟩ := getF X1 hx hZ hown (host := "") (Or.inl (hw _ (List.mem_of_getElem? (i := 7) rfl))) Via.refl e1 (G.2.2.2.2.2.2.2.2.2.2.2.2.2.2.2.1.ext O0.2) (g := (mkF m 31 #[.val (.int (1 : Int32)), .val (.int (1 : Int32)), .val (.int (0 : Int32)), .val .null, .val (.ref wKINDS), .val (.int (7 : Int32)), .val (.int (0 : Int32)), .val (.ref wSUBJECT_PREDICATE_OBJECT)] [(.ref wSUBJECT_PREDICATE_OBJECT)])) rfl rfl (hb hby own_d1_31)
  obtain ⟨T5, X5, e5, st5⟩ := getF X4 hx hZ hown (host := "") (Or.inl (hw _ (List.mem_of_getElem? (i := 12) rfl))) Via.refl e4 (G.2.2.2.2.2.2.2.2.2.2.2.2.2.2.2.2.2.2.2.2.2.2.2.2.2.2.1.ext O0.2) (g := (mkF m 40 #[.val (.int (1 : Int32)), .val (.int (1 : Int32)), .val (.int (0 : Int32)), .val .null, .val (.ref wKINDS), .val (.int (7 : Int32)), .val (.int (0 : Int32)), .val (.ref wSUBJECT_PREDICATE_OBJECT)] [(.ref wSUBJECT_PREDICATE_OBJECT)])) rfl rfl (hb hby own_d1_40)
  obtain ⟨T6, X6, e6, st6⟩ := getF X5 hx hZ hown (host := "") (Or.inl (hw _ (List.mem_of_getElem? (i := 17) rfl))) Via.refl e5 (G.2.2.2.2.2.2.2.2.2.2.2.2.2.2.2.2.2.2.2.2.2.2.2.2.2.2.2.1.ext O0.2) (g := (mkF m 49 #[.val (.int (1 : Int32)), .val (.int (1 : Int32)), .val (.int (0 : Int32)), .val .null, .val (.ref wKINDS), .val (.int (7 : Int32)), .val (.int (0 : Int32)), .val (.ref wSUBJECT_PREDICATE_OBJECT)] [(.ref wSUBJECT_PREDICATE_OBJECT)])) rfl rfl (hb hby own_d1_49)
  have hin7 : ¬ ((1 : Int32) < 0 ∨ cl2.slots.size ≤ ((1 : Int32)).toNatClampNeg) := inb_of Sz2 ⟨by decide, by decide⟩
  have hat7 : cl2.slots[((1 : Int32)).toNatClampNeg]? = some (.ref wSUBJECT_PREDICATE) := Hs2.at hin7 rfl
  obtain ⟨T8, X8, e8, st8⟩ := getF X6 hx hZ hown (host := "") (Or.inl (hw _ (List.mem_of_getElem? (i := 7) rfl))) Via.refl e6 (G.2.2.2.2.2.2.2.2.2.2.2.2.2.2.2.2.1.ext O0.2) (g := (mkF m 31 #[.val (.int (1 : Int32)), .val (.int (1 : Int32)), .val (.int (0 : Int32)), .val .null, .val (.ref wKINDS), .val (.int (7 : Int32)), .val (.int (1 : Int32)), .val (.ref wSUBJECT_PREDICATE)] [(.ref wSUBJECT_PREDICATE)])) rfl rfl (hb hby own_d1_31)
  obtain ⟨T9, X9, e9, st9⟩ := getF X8 hx hZ hown (host := "") (Or.inl (hw _ (List.mem_of_getElem? (i := 12) rfl))) Via.refl e8 (G.2.2.2.2.2.2.2.2.2.2.2.2.2.2.2.2.2.2.2.2.2.2.2.2.2.2.2.2.1.ext O0.2) (g := (mkF m 40 #[.val (.int (1 : Int32)), .val (.int (1 : Int32)), .val (.int (0 : Int32)), .val .null, .val (.ref wKINDS), .val (.int (7 : Int32)), .val (.int (1 : Int32)), .val (.ref wSUBJECT_PREDICATE)] [(.ref wSUBJECT_PREDICATE)])) rfl rfl (hb hby own_d1_40)
  obtain ⟨T10, X10, e10, st10⟩ := getF X9 hx hZ hown (host := "") (Or.inl (hw _ (List.mem_of_getElem? (i := 17) rfl))) Via.refl e9 (G.2.2.2.2.2.2.2.2.2.2.2.2.2.2.2.2.2.2.2.2.2.2.2.2.2.2.2.2.2.1.ext O0.2) (g := (mkF m 49 #[.val (.int (1 : Int32)), .val (.int (1 : Int32)), .val (.int (0 : Int32)), .val .null, .val (.ref wKINDS), .val (.int (7 : Int32)), .val (.int (1 : Int32)), .val (.ref wSUBJECT_PREDICATE)] [(.ref wSUBJECT_PREDICATE)])) rfl rfl (hb hby own_d1_49)
  have hin11 : ¬ ((2 : Int32) < 0 ∨ cl2.slots.size ≤ ((2 : Int32)).toNatClampNeg) := inb_of Sz2 ⟨by decide, by decide⟩
  have hat11 : cl2.slots[((2 : Int32)).toNatClampNeg]? = some (.ref wSUBJECT_OBJECT) := Hs2.at hin11 rfl
  obtain ⟨T12, X12, e12, st12⟩ := getF X10 hx hZ hown (host := "") (Or.inl (hw _ (List.mem_of_getElem? (i := 7) rfl))) Via.refl e10 (G.2.2.2.2.2.2.2.2.2.2.2.2.2.2.2.2.2.1.ext O0.2) (g := (mkF m 31 #[.val (.int (1 : Int32)), .val (.int (1 : Int32)), .val (.int (0 : Int32)), .val (.ref wSUBJECT_PREDICATE), .val (.ref wKINDS), .val (.int (7 : Int32)), .val (.int (2 : Int32)), .val (.ref wSUBJECT_OBJECT)] [(.ref wSUBJECT_OBJECT)])) rfl rfl (hb hby own_d1_31)
  obtain ⟨T13, X13, e13, st13⟩ := getF X12 hx hZ hown (host := "") (Or.inl (hw _ (List.mem_of_getElem? (i := 12) rfl))) Via.refl e12 (G.2.2.2.2.2.2.2.2.2.2.2.2.2.2.2.2.2.2.2.2.2.2.2.2.2.2.2.2.2.2.1.ext O0.2) (g := (mkF m 40 #[.val (.int (1 : Int32)), .val (.int (1 : Int32)), .val (.int (0 : Int32)), .val (.ref wSUBJECT_PREDICATE), .val (.ref wKINDS), .val (.int (7 : Int32)), .val (.int (2 : Int32)), .val (.ref wSUBJECT_OBJECT)] [(.ref wSUBJECT_OBJECT)])) rfl rfl (hb hby own_d1_40)
  have hin14 : ¬ ((3 : Int32) < 0 ∨ cl2.slots.size ≤ ((3 : Int32)).toNatClampNeg) := inb_of Sz2 ⟨by decide, by decide⟩
  have hat14 : cl2.slots[((3 : Int32)).toNatClampNeg]? = some (.ref wPREDICATE_OBJECT) := Hs2.at hin14 rfl
  obtain ⟨T15, X15, e15, st15⟩ := getF X13 hx hZ hown (host := "") (Or.inl (hw _ (List.mem_of_getElem? (i := 7) rfl))) Via.refl e13 (G.2.2.2.2.2.2.2.2.2.2.2.2.2.2.2.2.2.2.1.ext O0.2) (g := (mkF m 31 #[.val (.int (1 : Int32)), .val (.int (1 : Int32)), .val (.int (0 : Int32)), .val (.ref wSUBJECT_PREDICATE), .val (.ref wKINDS), .val (.int (7 : Int32)), .val (.int (3 : Int32)), .val (.ref wPREDICATE_OBJECT)] [(.ref wPREDICATE_OBJECT)])) rfl rfl (hb hby own_d1_31)
  have hin16 : ¬ ((4 : Int32) < 0 ∨ cl2.slots.size ≤ ((4 : Int32)).toNatClampNeg) := inb_of Sz2 ⟨by decide, by decide⟩
  have hat16 : cl2.slots[((4 : Int32)).toNatClampNeg]? = some (.ref wSUBJECT) := Hs2.at hin16 rfl
  obtain ⟨T17, X17, e17, st17⟩ := getF X15 hx hZ hown (host := "") (Or.inl (hw _ (List.mem_of_getElem? (i := 7) rfl))) Via.refl e15 (G.2.2.2.2.2.2.2.2.2.2.2.2.2.2.2.2.2.2.2.2.1.ext O0.2) (g := (mkF m 31 #[.val (.int (1 : Int32)), .val (.int (1 : Int32)), .val (.int (0 : Int32)), .val (.ref wSUBJECT_PREDICATE), .val (.ref wKINDS), .val (.int (7 : Int32)), .val (.int (4 : Int32)), .val (.ref wSUBJECT)] [(.ref wSUBJECT)])) rfl rfl (hb hby own_d1_31)
  obtain ⟨T18, X18, e18, st18⟩ := getF X17 hx hZ hown (host := "") (Or.inl (hw _ (List.mem_of_getElem? (i := 12) rfl))) Via.refl e17 (G.2.2.2.2.2.2.2.2.2.2.2.2.2.2.2.2.2.2.2.2.2.2.2.2.2.2.2.2.2.2.2.1.ext O0.2) (g := (mkF m 40 #[.val (.int (1 : Int32)), .val (.int (1 : Int32)), .val (.int (0 : Int32)), .val (.ref wSUBJECT_PREDICATE), .val (.ref wKINDS), .val (.int (7 : Int32)), .val (.int (4 : Int32)), .val (.ref wSUBJECT)] [(.ref wSUBJECT)])) rfl rfl (hb hby own_d1_40)
  have hin19 : ¬ ((5 : Int32) < 0 ∨ cl2.slots.size ≤ ((5 : Int32)).toNatClampNeg) := inb_of Sz2 ⟨by decide, by decide⟩
  have hat19 : cl2.slots[((5 : Int32)).toNatClampNeg]? = some (.ref wPREDICATE) := Hs2.at hin19 rfl
  obtain ⟨T20, X20, e20, st20⟩ := getF X18 hx hZ hown (host := "") (Or.inl (hw _ (List.mem_of_getElem? (i := 7) rfl))) Via.refl e18 (G.2.2.2.2.2.2.2.2.2.2.2.2.2.2.2.2.2.2.2.2.2.1.ext O0.2) (g := (mkF m 31 #[.val (.int (1 : Int32)), .val (.int (1 : Int32)), .val (.int (0 : Int32)), .val (.ref wSUBJECT_PREDICATE), .val (.ref wKINDS), .val (.int (7 : Int32)), .val (.int (5 : Int32)), .val (.ref wPREDICATE)] [(.ref wPREDICATE)])) rfl rfl (hb hby own_d1_31)
  have hin21 : ¬ ((6 : Int32) < 0 ∨ cl2.slots.size ≤ ((6 : Int32)).toNatClampNeg) := inb_of Sz2 ⟨by decide, by decide⟩
  have hat21 : cl2.slots[((6 : Int32)).toNatClampNeg]? = some (.ref wOBJECT) := Hs2.at hin21 rfl
  obtain ⟨T22, X22, e22, st22⟩ := getF X20 hx hZ hown (host := "") (Or.inl (hw _ (List.mem_of_getElem? (i := 7) rfl))) Via.refl e20 (G.2.2.2.2.2.2.2.2.2.2.2.2.2.2.2.2.2.2.2.2.2.2.2.1.ext O0.2) (g := (mkF m 31 #[.val (.int (1 : Int32)), .val (.int (1 : Int32)), .val (.int (0 : Int32)), .val (.ref wSUBJECT_PREDICATE), .val (.ref wKINDS), .val (.int (7 : Int32)), .val (.int (6 : Int32)), .val (.ref wOBJECT)] [(.ref wOBJECT)])) rfl rfl (hb hby own_d1_31)
  obtain ⟨fs, hr, hrun, hended, hW, hsame⟩ := X22.leave (v := some (.ref wSUBJECT_PREDICATE)) (fun h => by rw [Bd.returns] at h; cases h)
  refine ⟨_, _, pre0 _ ?_, hrun, hended, _, _, rfl, ?_, ⟨_, rfl⟩, hW, hsame.mono (by decide) (by decide)⟩
  · show Steps p.tables e below (s₁.setTop (mkF m 0 #[.val (.int (1 : Int32)), .val (.int (1 : Int32)), .val (.int (0 : Int32)), .unset, .unset, .unset, .unset, .unset] [])) _
    refine XS.aconstNull X0.here hx rfl (hb hby own_d1_0) ?_
    show Steps p.tables e below (s₁.setTop (mkF m 1 #[.val (.int (1 : Int32)), .val (.int (1 : Int32)), .val (.int (0 : Int32)), .unset, .unset, .unset, .unset, .unset] [.null])) _
    refine XS.astoreN X0.here hx rfl (hb hby own_d1_1) rfl rfl (l' := #[.val (.int (1 : Int32)), .val (.int (1 : Int32)), .val (.int (0 : Int32)), .val .null, .unset, .unset, .unset, .unset]) rfl ?_
    show Steps p.tables e below (s₁.setTop (mkF m 2 #[.val (.int (1 : Int32)), .val (.int (1 : Int32)), .val (.int (0 : Int32)), .val .null, .unset, .unset, .unset, .unset] [])) _
    refine st1 _ ?_
    show Steps p.tables e below (T1.setTop (mkF m 5 #[.val (.int (1 : Int32)), .val (.int (1 : Int32)), .val (.int (0 : Int32)), .val .null, .unset, .unset, .unset, .unset] [(.ref wKINDS)])) _
    refine XS.astore X1.here hx rfl (hb hby own_d1_5) rfl rfl (l' := #[.val (.int (1 : Int32)), .val (.int (1 : Int32)), .val (.int (0 : Int32)), .val .null, .val (.ref wKINDS), .unset, .unset, .unset]) rfl ?_
    show Steps p.tables e below (T1.setTop (mkF m 7 #[.val (.int (1 : Int32)), .val (.int (1 : Int32)), .val (.int (0 : Int32)), .val .null, .val (.ref wKINDS), .unset, .unset, .unset] [])) _
    refine XS.aload X1.here hx rfl (hb hby own_d1_7) rfl rfl ?_
    show Steps p.tables e below (T1.setTop (mkF m 9 #[.val (.int (1 : Int32)), .val (.int (1 : Int32)), .val (.int (0 : Int32)), .val .null, .val (.ref wKINDS), .unset, .unset, .unset] [(.ref wKINDS)])) _
    refine X1.arraylength hx (by rw [e1]; exact Ar2.1) (State.isArrayOf_alike hZ.alike Ar2.2.1) (g := (mkF m 9 #[.val (.int (1 : Int32)), .val (.int (1 : Int32)), .val (.int (0 : Int32)), .val .null, .val (.ref wKINDS), .unset, .unset, .unset] [(.ref wKINDS)])) rfl rfl (hb hby own_d1_9) _ ?_
    rw [len_of Sz2 Nn2]
    show Steps p.tables e below (T1.setTop (mkF m 10 #[.val (.int (1 : Int32)), .val (.int (1 : Int32)), .val (.int (0 : Int32)), .val .null, .val (.ref wKINDS), .unset, .unset, .unset] [(.int (7 : Int32))])) _
    refine XS.istore X1.here hx rfl (hb hby own_d1_10) rfl (l' := #[.val (.int (1 : Int32)), .val (.int (1 : Int32)), .val (.int (0 : Int32)), .val .null, .val (.ref wKINDS), .val (.int (7 : Int32)), .unset, .unset]) rfl ?_
    show Steps p.tables e below (T1.setTop (mkF m 12 #[.val (.int (1 : Int32)), .val (.int (1 : Int32)), .val (.int (0 : Int32)), .val .null, .val (.ref wKINDS), .val (.int (7 : Int32)), .unset, .unset] [])) _
    refine XS.iconst X1.here hx rfl (hb hby own_d1_12) ?_
    show Steps p.tables e below (T1.setTop (mkF m 13 #[.val (.int (1 : Int32)), .val (.int (1 : Int32)), .val (.int (0 : Int32)), .val .null, .val (.ref wKINDS), .val (.int (7 : Int32)), .unset, .unset] [(.int (0 : Int32))])) _
    refine XS.istore X1.here hx rfl (hb hby own_d1_13) rfl (l' := #[.val (.int (1 : Int32)), .val (.int (1 : Int32)), .val (.int (0 : Int32)), .val .null, .val (.ref wKINDS), .val (.int (7 : Int32)), .val (.int (0 : Int32)), .unset]) rfl ?_
    show Steps p.tables e below (T1.setTop (mkF m 15 #[.val (.int (1 : Int32)), .val (.int (1 : Int32)), .val (.int (0 : Int32)), .val .null, .val (.ref wKINDS), .val (.int (7 : Int32)), .val (.int (0 : Int32)), .unset] [])) _
    refine XS.iload X1.here hx rfl (hb hby own_d1_15) rfl ?_
    show Steps p.tables e below (T1.setTop (mkF m 17 #[.val (.int (1 : Int32)), .val (.int (1 : Int32)), .val (.int (0 : Int32)), .val .null, .val (.ref wKINDS), .val (.int (7 : Int32)), .val (.int (0 : Int32)), .unset] [(.int (0 : Int32))])) _
    refine XS.iload X1.here hx rfl (hb hby own_d1_17) rfl ?_
    show Steps p.tables e below (T1.setTop (mkF m 19 #[.val (.int (1 : Int32)), .val (.int (1 : Int32)), .val (.int (0 : Int32)), .val .null, .val (.ref wKINDS), .val (.int (7 : Int32)), .val (.int (0 : Int32)), .unset] [(.int (7 : Int32)), (.int (0 : Int32))])) _
    refine XS.icmpNo X1.here hx rfl (hb hby own_d1_19) rfl (by decide) ?_
    show Steps p.tables e below (T1.setTop (mkF m 22 #[.val (.int (1 : Int32)), .val (.int (1 : Int32)), .val (.int (0 : Int32)), .val .null, .val (.ref wKINDS), .val (.int (7 : Int32)), .val (.int (0 : Int32)), .unset] [])) _
    refine XS.aload X1.here hx rfl (hb hby own_d1_22) rfl rfl ?_
    show Steps p.tables e below (T1.setTop (mkF m 24 #[.val (.int (1 : Int32)), .val (.int (1 : Int32)), .val (.int (0 : Int32)), .val .null, .val (.ref wKINDS), .val (.int (7 : Int32)), .val (.int (0 : Int32)), .unset] [(.ref wKINDS)])) _
    refine XS.iload X1.here hx rfl (hb hby own_d1_24) rfl ?_
    show Steps p.tables e below (T1.setTop (mkF m 26 #[.val (.int (1 : Int32)), .val (.int (1 : Int32)), .val (.int (0 : Int32)), .val .null, .val (.ref wKINDS), .val (.int (7 : Int32)), .val (.int (0 : Int32)), .unset] [(.int (0 : Int32)), (.ref wKINDS)])) _
    refine X1.aaload hx (j := (0 : Int32)) (v := (.ref wSUBJECT_PREDICATE_OBJECT)) (by rw [e1]; exact Ar2.1) (State.isArrayOf_alike hZ.alike Ar2.2.1) rfl Ar2.2.2 hin3 hat3 (g := (mkF m 26 #[.val (.int (1 : Int32)), .val (.int (1 : Int32)), .val (.int (0 : Int32)), .val .null, .val (.ref wKINDS), .val (.int (7 : Int32)), .val (.int (0 : Int32)), .unset] [(.int (0 : Int32)), (.ref wKINDS)])) rfl rfl (hb hby own_d1_26) _ ?_
    show Steps p.tables e below (T1.setTop (mkF m 27 #[.val (.int (1 : Int32)), .val (.int (1 : Int32)), .val (.int (0 : Int32)), .val .null, .val (.ref wKINDS), .val (.int (7 : Int32)), .val (.int (0 : Int32)), .unset] [(.ref wSUBJECT_PREDICATE_OBJECT)])) _
    refine XS.astore X1.here hx rfl (hb hby own_d1_27) rfl rfl (l' := #[.val (.int (1 : Int32)), .val (.int (1 : Int32)), .val (.int (0 : Int32)), .val .null, .val (.ref wKINDS), .val (.int (7 : Int32)), .val (.int (0 : Int32)), .val (.ref wSUBJECT_PREDICATE_OBJECT)]) rfl ?_
    show Steps p.tables e below (T1.setTop (mkF m 29 #[.val (.int (1 : Int32)), .val (.int (1 : Int32)), .val (.int (0 : Int32)), .val .null, .val (.ref wKINDS), .val (.int (7 : Int32)), .val (.int (0 : Int32)), .val (.ref wSUBJECT_PREDICATE_OBJECT)] [])) _
    refine XS.aload X1.here hx rfl (hb hby own_d1_29) rfl rfl ?_
    show Steps p.tables e below (T1.setTop (mkF m 31 #[.val (.int (1 : Int32)), .val (.int (1 : Int32)), .val (.int (0 : Int32)), .val .null, .val (.ref wKINDS), .val (.int (7 : Int32)), .val (.int (0 : Int32)), .val (.ref wSUBJECT_PREDICATE_OBJECT)] [(.ref wSUBJECT_PREDICATE_OBJECT)])) _
    refine st4 _ ?_
    show Steps p.tables e below (T4.setTop (mkF m 34 #[.val (.int (1 : Int32)), .val (.int (1 : Int32)), .val (.int (0 : Int32)), .val .null, .val (.ref wKINDS), .val (.int (7 : Int32)), .val (.int (0 : Int32)), .val (.ref wSUBJECT_PREDICATE_OBJECT)] [(.int (1 : Int32))])) _
    refine XS.iloadN X4.here hx rfl (hb hby own_d1_34) rfl ?_
    show Steps p.tables e below (T4.setTop (mkF m 35 #[.val (.int (1 : Int32)), .val (.int (1 : Int32)), .val (.int (0 : Int32)), .val .null, .val (.ref wKINDS), .val (.int (7 : Int32)), .val (.int (0 : Int32)), .val (.ref wSUBJECT_PREDICATE_OBJECT)] [(.int (1 : Int32)), (.int (1 : Int32))])) _
    refine XS.icmpNo X4.here hx rfl (hb hby own_d1_35) rfl (by decide) ?_
    show Steps p.tables e below (T4.setTop (mkF m 38 #[.val (.int (1 : Int32)), .val (.int (1 : Int32)), .val (.int (0 : Int32)), .val .null, .val (.ref wKINDS), .val (.int (7 : Int32)), .val (.int (0 : Int32)), .val (.ref wSUBJECT_PREDICATE_OBJECT)] [])) _
    refine XS.aload X4.here hx rfl (hb hby own_d1_38) rfl rfl ?_
    show Steps p.tables e below (T4.setTop (mkF m 40 #[.val (.int (1 : Int32)), .val (.int (1 : Int32)), .val (.int (0 : Int32)), .val .null, .val (.ref wKINDS), .val (.int (7 : Int32)), .val (.int (0 : Int32)), .val (.ref wSUBJECT_PREDICATE_OBJECT)] [(.ref wSUBJECT_PREDICATE_OBJECT)])) _
    refine st5 _ ?_
    show Steps p.tables e below (T5.setTop (mkF m 43 #[.val (.int (1 : Int32)), .val (.int (1 : Int32)), .val (.int (0 : Int32)), .val .null, .val (.ref wKINDS), .val (.int (7 : Int32)), .val (.int (0 : Int32)), .val (.ref wSUBJECT_PREDICATE_OBJECT)] [(.int (1 : Int32))])) _
    refine XS.iloadN X5.here hx rfl (hb hby own_d1_43) rfl ?_
    show Steps p.tables e below (T5.setTop (mkF m 44 #[.val (.int (1 : Int32)), .val (.int (1 : Int32)), .val (.int (0 : Int32)), .val .null, .val (.ref wKINDS), .val (.int (7 : Int32)), .val (.int (0 : Int32)), .val (.ref wSUBJECT_PREDICATE_OBJECT)] [(.int (1 : Int32)), (.int (1 : Int32))])) _
    refine XS.icmpNo X5.here hx rfl (hb hby own_d1_44) rfl (by decide) ?_
    show Steps p.tables e below (T5.setTop (mkF m 47 #[.val (.int (1 : Int32)), .val (.int (1 : Int32)), .val (.int (0 : Int32)), .val .null, .val (.ref wKINDS), .val (.int (7 : Int32)), .val (.int (0 : Int32)), .val (.ref wSUBJECT_PREDICATE_OBJECT)] [])) _
    refine XS.aload X5.here hx rfl (hb hby own_d1_47) rfl rfl ?_
    show Steps p.tables e below (T5.setTop (mkF m 49 #[.val (.int (1 : Int32)), .val (.int (1 : Int32)), .val (.int (0 : Int32)), .val .null, .val (.ref wKINDS), .val (.int (7 : Int32)), .val (.int (0 : Int32)), .val (.ref wSUBJECT_PREDICATE_OBJECT)] [(.ref wSUBJECT_PREDICATE_OBJECT)])) _
    refine st6 _ ?_
    show Steps p.tables e below (T6.setTop (mkF m 52 #[.val (.int (1 : Int32)), .val (.int (1 : Int32)), .val (.int (0 : Int32)), .val .null, .val (.ref wKINDS), .val (.int (7 : Int32)), .val (.int (0 : Int32)), .val (.ref wSUBJECT_PREDICATE_OBJECT)] [(.int (1 : Int32))])) _
    refine XS.iloadN X6.here hx rfl (hb hby own_d1_52) rfl ?_
    show Steps p.tables e below (T6.setTop (mkF m 53 #[.val (.int (1 : Int32)), .val (.int (1 : Int32)), .val (.int (0 : Int32)), .val .null, .val (.ref wKINDS), .val (.int (7 : Int32)), .val (.int (0 : Int32)), .val (.ref wSUBJECT_PREDICATE_OBJECT)] [(.int (0 : Int32)), (.int (1 : Int32))])) _
    refine XS.icmpYes X6.here hx rfl (pc0 := 53) (pc' := 59) rfl (hb hby own_d1_53) rfl (by decide) (by decide) (by decide) ?_
    show Steps p.tables e below (T6.setTop (mkF m 59 #[.val (.int (1 : Int32)), .val (.int (1 : Int32)), .val (.int (0 : Int32)), .val .null, .val (.ref wKINDS), .val (.int (7 : Int32)), .val (.int (0 : Int32)), .val (.ref wSUBJECT_PREDICATE_OBJECT)] [])) _
    refine XS.iinc X6.here hx rfl (hb hby own_d1_59) rfl (l' := #[.val (.int (1 : Int32)), .val (.int (1 : Int32)), .val (.int (0 : Int32)), .val .null, .val (.ref wKINDS), .val (.int (7 : Int32)), .val (.int (1 : Int32)), .val (.ref wSUBJECT_PREDICATE_OBJECT)]) rfl ?_
    show Steps p.tables e below (T6.setTop (mkF m 62 #[.val (.int (1 : Int32)), .val (.int (1 : Int32)), .val (.int (0 : Int32)), .val .null, .val (.ref wKINDS), .val (.int (7 : Int32)), .val (.int (1 : Int32)), .val (.ref wSUBJECT_PREDICATE_OBJECT)] [])) _
    refine XS.goto X6.here hx rfl (pc0 := 62) (pc' := 15) rfl (hb hby own_d1_62) (by decide) (by decide) ?_
    show Steps p.tables e below (T6.setTop (mkF m 15 #[.val (.int (1 : Int32)), .val (.int (1 : Int32)), .val (.int (0 : Int32)), .val .null, .val (.ref wKINDS), .val (.int (7 : Int32)), .val (.int (1 : Int32)), .val (.ref wSUBJECT_PREDICATE_OBJECT)] [])) _
    refine XS.iload X6.here hx rfl (hb hby own_d1_15) rfl ?_
    show Steps p.tables e below (T6.setTop (mkF m 17 #[.val (.int (1 : Int32)), .val (.int (1 : Int32)), .val (.int (0 : Int32)), .val .null, .val (.ref wKINDS), .val (.int (7 : Int32)), .val (.int (1 : Int32)), .val (.ref wSUBJECT_PREDICATE_OBJECT)] [(.int (1 : Int32))])) _
    refine XS.iload X6.here hx rfl (hb hby own_d1_17) rfl ?_
    show Steps p.tables e below (T6.setTop (mkF m 19 #[.val (.int (1 : Int32)), .val (.int (1 : Int32)), .val (.int (0 : Int32)), .val .null, .val (.ref wKINDS), .val (.int (7 : Int32)), .val (.int (1 : Int32)), .val (.ref wSUBJECT_PREDICATE_OBJECT)] [(.int (7 : Int32)), (.int (1 : Int32))])) _
    refine XS.icmpNo X6.here hx rfl (hb hby own_d1_19) rfl (by decide) ?_
    show Steps p.tables e below (T6.setTop (mkF m 22 #[.val (.int (1 : Int32)), .val (.int (1 : Int32)), .val (.int (0 : Int32)), .val .null, .val (.ref wKINDS), .val (.int (7 : Int32)), .val (.int (1 : Int32)), .val (.ref wSUBJECT_PREDICATE_OBJECT)] [])) _
    refine XS.aload X6.here hx rfl (hb hby own_d1_22) rfl rfl ?_
    show Steps p.tables e below (T6.setTop (mkF m 24 #[.val (.int (1 : Int32)), .val (.int (1 : Int32)), .val (.int (0 : Int32)), .val .null, .val (.ref wKINDS), .val (.int (7 : Int32)), .val (.int (1 : Int32)), .val (.ref wSUBJECT_PREDICATE_OBJECT)] [(.ref wKINDS)])) _
    refine XS.iload X6.here hx rfl (hb hby own_d1_24) rfl ?_
    show Steps p.tables e below (T6.setTop (mkF m 26 #[.val (.int (1 : Int32)), .val (.int (1 : Int32)), .val (.int (0 : Int32)), .val .null, .val (.ref wKINDS), .val (.int (7 : Int32)), .val (.int (1 : Int32)), .val (.ref wSUBJECT_PREDICATE_OBJECT)] [(.int (1 : Int32)), (.ref wKINDS)])) _
    refine X6.aaload hx (j := (1 : Int32)) (v := (.ref wSUBJECT_PREDICATE)) (by rw [e6]; exact Ar2.1) (State.isArrayOf_alike hZ.alike Ar2.2.1) rfl Ar2.2.2 hin7 hat7 (g := (mkF m 26 #[.val (.int (1 : Int32)), .val (.int (1 : Int32)), .val (.int (0 : Int32)), .val .null, .val (.ref wKINDS), .val (.int (7 : Int32)), .val (.int (1 : Int32)), .val (.ref wSUBJECT_PREDICATE_OBJECT)] [(.int (1 : Int32)), (.ref wKINDS)])) rfl rfl (hb hby own_d1_26) _ ?_
    show Steps p.tables e below (T6.setTop (mkF m 27 #[.val (.int (1 : Int32)), .val (.int (1 : Int32)), .val (.int (0 : Int32)), .val .null, .val (.ref wKINDS), .val (.int (7 : Int32)), .val (.int (1 : Int32)), .val (.ref wSUBJECT_PREDICATE_OBJECT)] [(.ref wSUBJECT_PREDICATE)])) _
    refine XS.astore X6.here hx rfl (hb hby own_d1_27) rfl rfl (l' := #[.val (.int (1 : Int32)), .val (.int (1 : Int32)), .val (.int (0 : Int32)), .val .null, .val (.ref wKINDS), .val (.int (7 : Int32)), .val (.int (1 : Int32)), .val (.ref wSUBJECT_PREDICATE)]) rfl ?_
    show Steps p.tables e below (T6.setTop (mkF m 29 #[.val (.int (1 : Int32)), .val (.int (1 : Int32)), .val (.int (0 : Int32)), .val .null, .val (.ref wKINDS), .val (.int (7 : Int32)), .val (.int (1 : Int32)), .val (.ref wSUBJECT_PREDICATE)] [])) _
    refine XS.aload X6.here hx rfl (hb hby own_d1_29) rfl rfl ?_
    show Steps p.tables e below (T6.setTop (mkF m 31 #[.val (.int (1 : Int32)), .val (.int (1 : Int32)), .val (.int (0 : Int32)), .val .null, .val (.ref wKINDS), .val (.int (7 : Int32)), .val (.int (1 : Int32)), .val (.ref wSUBJECT_PREDICATE)] [(.ref wSUBJECT_PREDICATE)])) _
    refine st8 _ ?_
    show Steps p.tables e below (T8.setTop (mkF m 34 #[.val (.int (1 : Int32)), .val (.int (1 : Int32)), .val (.int (0 : Int32)), .val .null, .val (.ref wKINDS), .val (.int (7 : Int32)), .val (.int (1 : Int32)), .val (.ref wSUBJECT_PREDICATE)] [(.int (1 : Int32))])) _
    refine XS.iloadN X8.here hx rfl (hb hby own_d1_34) rfl ?_
    show Steps p.tables e below (T8.setTop (mkF m 35 #[.val (.int (1 : Int32)), .val (.int (1 : Int32)), .val (.int (0 : Int32)), .val .null, .val (.ref wKINDS), .val (.int (7 : Int32)), .val (.int (1 : Int32)), .val (.ref wSUBJECT_PREDICATE)] [(.int (1 : Int32)), (.int (1 : Int32))])) _
    refine XS.icmpNo X8.here hx rfl (hb hby own_d1_35) rfl (by decide) ?_
    show Steps p.tables e below (T8.setTop (mkF m 38 #[.val (.int (1 : Int32)), .val (.int (1 : Int32)), .val (.int (0 : Int32)), .val .null, .val (.ref wKINDS), .val (.int (7 : Int32)), .val (.int (1 : Int32)), .val (.ref wSUBJECT_PREDICATE)] [])) _
    refine XS.aload X8.here hx rfl (hb hby own_d1_38) rfl rfl ?_
    show Steps p.tables e below (T8.setTop (mkF m 40 #[.val (.int (1 : Int32)), .val (.int (1 : Int32)), .val (.int (0 : Int32)), .val .null, .val (.ref wKINDS), .val (.int (7 : Int32)), .val (.int (1 : Int32)), .val (.ref wSUBJECT_PREDICATE)] [(.ref wSUBJECT_PREDICATE)])) _
    refine st9 _ ?_
    show Steps p.tables e below (T9.setTop (mkF m 43 #[.val (.int (1 : Int32)), .val (.int (1 : Int32)), .val (.int (0 : Int32)), .val .null, .val (.ref wKINDS), .val (.int (7 : Int32)), .val (.int (1 : Int32)), .val (.ref wSUBJECT_PREDICATE)] [(.int (1 : Int32))])) _
    refine XS.iloadN X9.here hx rfl (hb hby own_d1_43) rfl ?_
    show Steps p.tables e below (T9.setTop (mkF m 44 #[.val (.int (1 : Int32)), .val (.int (1 : Int32)), .val (.int (0 : Int32)), .val .null, .val (.ref wKINDS), .val (.int (7 : Int32)), .val (.int (1 : Int32)), .val (.ref wSUBJECT_PREDICATE)] [(.int (1 : Int32)), (.int (1 : Int32))])) _
    refine XS.icmpNo X9.here hx rfl (hb hby own_d1_44) rfl (by decide) ?_
    show Steps p.tables e below (T9.setTop (mkF m 47 #[.val (.int (1 : Int32)), .val (.int (1 : Int32)), .val (.int (0 : Int32)), .val .null, .val (.ref wKINDS), .val (.int (7 : Int32)), .val (.int (1 : Int32)), .val (.ref wSUBJECT_PREDICATE)] [])) _
    refine XS.aload X9.here hx rfl (hb hby own_d1_47) rfl rfl ?_
    show Steps p.tables e below (T9.setTop (mkF m 49 #[.val (.int (1 : Int32)), .val (.int (1 : Int32)), .val (.int (0 : Int32)), .val .null, .val (.ref wKINDS), .val (.int (7 : Int32)), .val (.int (1 : Int32)), .val (.ref wSUBJECT_PREDICATE)] [(.ref wSUBJECT_PREDICATE)])) _
    refine st10 _ ?_
    show Steps p.tables e below (T10.setTop (mkF m 52 #[.val (.int (1 : Int32)), .val (.int (1 : Int32)), .val (.int (0 : Int32)), .val .null, .val (.ref wKINDS), .val (.int (7 : Int32)), .val (.int (1 : Int32)), .val (.ref wSUBJECT_PREDICATE)] [(.int (0 : Int32))])) _
    refine XS.iloadN X10.here hx rfl (hb hby own_d1_52) rfl ?_
    show Steps p.tables e below (T10.setTop (mkF m 53 #[.val (.int (1 : Int32)), .val (.int (1 : Int32)), .val (.int (0 : Int32)), .val .null, .val (.ref wKINDS), .val (.int (7 : Int32)), .val (.int (1 : Int32)), .val (.ref wSUBJECT_PREDICATE)] [(.int (0 : Int32)), (.int (0 : Int32))])) _
    refine XS.icmpNo X10.here hx rfl (hb hby own_d1_53) rfl (by decide) ?_
    show Steps p.tables e below (T10.setTop (mkF m 56 #[.val (.int (1 : Int32)), .val (.int (1 : Int32)), .val (.int (0 : Int32)), .val .null, .val (.ref wKINDS), .val (.int (7 : Int32)), .val (.int (1 : Int32)), .val (.ref wSUBJECT_PREDICATE)] [])) _
    refine XS.aload X10.here hx rfl (hb hby own_d1_56) rfl rfl ?_
    show Steps p.tables e below (T10.setTop (mkF m 58 #[.val (.int (1 : Int32)), .val (.int (1 : Int32)), .val (.int (0 : Int32)), .val .null, .val (.ref wKINDS), .val (.int (7 : Int32)), .val (.int (1 : Int32)), .val (.ref wSUBJECT_PREDICATE)] [(.ref wSUBJECT_PREDICATE)])) _
    refine XS.astoreN X10.here hx rfl (hb hby own_d1_58) rfl rfl (l' := #[.val (.int (1 : Int32)), .val (.int (1 : Int32)), .val (.int (0 : Int32)), .val (.ref wSUBJECT_PREDICATE), .val (.ref wKINDS), .val (.int (7 : Int32)), .val (.int (1 : Int32)), .val (.ref wSUBJECT_PREDICATE)]) rfl ?_
    show Steps p.tables e below (T10.setTop (mkF m 59 #[.val (.int (1 : Int32)), .val (.int (1 : Int32)), .val (.int (0 : Int32)), .val (.ref wSUBJECT_PREDICATE), .val (.ref wKINDS), .val (.int (7 : Int32)), .val (.int (1 : Int32)), .val (.ref wSUBJECT_PREDICATE)] [])) _
    refine XS.iinc X10.here hx rfl (hb hby own_d1_59) rfl (l' := #[.val (.int (1 : Int32)), .val (.int (1 : Int32)), .val (.int (0 : Int32)), .val (.ref wSUBJECT_PREDICATE), .val (.ref wKINDS), .val (.int (7 : Int32)), .val (.int (2 : Int32)), .val (.ref wSUBJECT_PREDICATE)]) rfl ?_
    show Steps p.tables e below (T10.setTop (mkF m 62 #[.val (.int (1 : Int32)), .val (.int (1 : Int32)), .val (.int (0 : Int32)), .val (.ref wSUBJECT_PREDICATE), .val (.ref wKINDS), .val (.int (7 : Int32)), .val (.int (2 : Int32)), .val (.ref wSUBJECT_PREDICATE)] [])) _
    refine XS.goto X10.here hx rfl (pc0 := 62) (pc' := 15) rfl (hb hby own_d1_62) (by decide) (by decide) ?_
    show Steps p.tables e below (T10.setTop (mkF m 15 #[.val (.int (1 : Int32)), .val (.int (1 : Int32)), .val (.int (0 : Int32)), .val (.ref wSUBJECT_PREDICATE), .val (.ref wKINDS), .val (.int (7 : Int32)), .val (.int (2 : Int32)), .val (.ref wSUBJECT_PREDICATE)] [])) _
    refine XS.iload X10.here hx rfl (hb hby own_d1_15) rfl ?_
    show Steps p.tables e below (T10.setTop (mkF m 17 #[.val (.int (1 : Int32)), .val (.int (1 : Int32)), .val (.int (0 : Int32)), .val (.ref wSUBJECT_PREDICATE), .val (.ref wKINDS), .val (.int (7 : Int32)), .val (.int (2 : Int32)), .val (.ref wSUBJECT_PREDICATE)] [(.int (2 : Int32))])) _
    refine XS.iload X10.here hx rfl (hb hby own_d1_17) rfl ?_
    show Steps p.tables e below (T10.setTop (mkF m 19 #[.val (.int (1 : Int32)), .val (.int (1 : Int32)), .val (.int (0 : Int32)), .val (.ref wSUBJECT_PREDICATE), .val (.ref wKINDS), .val (.int (7 : Int32)), .val (.int (2 : Int32)), .val (.ref wSUBJECT_PREDICATE)] [(.int (7 : Int32)), (.int (2 : Int32))])) _
    refine XS.icmpNo X10.here hx rfl (hb hby own_d1_19) rfl (by decide) ?_
    show Steps p.tables e below (T10.setTop (mkF m 22 #[.val (.int (1 : Int32)), .val (.int (1 : Int32)), .val (.int (0 : Int32)), .val (.ref wSUBJECT_PREDICATE), .val (.ref wKINDS), .val (.int (7 : Int32)), .val (.int (2 : Int32)), .val (.ref wSUBJECT_PREDICATE)] [])) _
    refine XS.aload X10.here hx rfl (hb hby own_d1_22) rfl rfl ?_
    show Steps p.tables e below (T10.setTop (mkF m 24 #[.val (.int (1 : Int32)), .val (.int (1 : Int32)), .val (.int (0 : Int32)), .val (.ref wSUBJECT_PREDICATE), .val (.ref wKINDS), .val (.int (7 : Int32)), .val (.int (2 : Int32)), .val (.ref wSUBJECT_PREDICATE)] [(.ref wKINDS)])) _
    refine XS.iload X10.here hx rfl (hb hby own_d1_24) rfl ?_
    show Steps p.tables e below (T10.setTop (mkF m 26 #[.val (.int (1 : Int32)), .val (.int (1 : Int32)), .val (.int (0 : Int32)), .val (.ref wSUBJECT_PREDICATE), .val (.ref wKINDS), .val (.int (7 : Int32)), .val (.int (2 : Int32)), .val (.ref wSUBJECT_PREDICATE)] [(.int (2 : Int32)), (.ref wKINDS)])) _
    refine X10.aaload hx (j := (2 : Int32)) (v := (.ref wSUBJECT_OBJECT)) (by rw [e10]; exact Ar2.1) (State.isArrayOf_alike hZ.alike Ar2.2.1) rfl Ar2.2.2 hin11 hat11 (g := (mkF m 26 #[.val (.int (1 : Int32)), .val (.int (1 : Int32)), .val (.int (0 : Int32)), .val (.ref wSUBJECT_PREDICATE), .val (.ref wKINDS), .val (.int (7 : Int32)), .val (.int (2 : Int32)), .val (.ref wSUBJECT_PREDICATE)] [(.int (2 : Int32)), (.ref wKINDS)])) rfl rfl (hb hby own_d1_26) _ ?_
    show Steps p.tables e below (T10.setTop (mkF m 27 #[.val (.int (1 : Int32)), .val (.int (1 : Int32)), .val (.int (0 : Int32)), .val (.ref wSUBJECT_PREDICATE), .val (.ref wKINDS), .val (.int (7 : Int32)), .val (.int (2 : Int32)), .val (.ref wSUBJECT_PREDICATE)] [(.ref wSUBJECT_OBJECT)])) _
    refine XS.astore X10.here hx rfl (hb hby own_d1_27) rfl rfl (l' := #[.val (.int (1 : Int32)), .val (.int (1 : Int32)), .val (.int (0 : Int32)), .val (.ref wSUBJECT_PREDICATE), .val (.ref wKINDS), .val (.int (7 : Int32)), .val (.int (2 : Int32)), .val (.ref wSUBJECT_OBJECT)]) rfl ?_
    show Steps p.tables e below (T10.setTop (mkF m 29 #[.val (.int (1 : Int32)), .val (.int (1 : Int32)), .val (.int (0 : Int32)), .val (.ref wSUBJECT_PREDICATE), .val (.ref wKINDS), .val (.int (7 : Int32)), .val (.int (2 : Int32)), .val (.ref wSUBJECT_OBJECT)] [])) _
    refine XS.aload X10.here hx rfl (hb hby own_d1_29) rfl rfl ?_
    show Steps p.tables e below (T10.setTop (mkF m 31 #[.val (.int (1 : Int32)), .val (.int (1 : Int32)), .val (.int (0 : Int32)), .val (.ref wSUBJECT_PREDICATE), .val (.ref wKINDS), .val (.int (7 : Int32)), .val (.int (2 : Int32)), .val (.ref wSUBJECT_OBJECT)] [(.ref wSUBJECT_OBJECT)])) _
    refine st12 _ ?_
    show Steps p.tables e below (T12.setTop (mkF m 34 #[.val (.int (1 : Int32)), .val (.int (1 : Int32)), .val (.int (0 : Int32)), .val (.ref wSUBJECT_PREDICATE), .val (.ref wKINDS), .val (.int (7 : Int32)), .val (.int (2 : Int32)), .val (.ref wSUBJECT_OBJECT)] [(.int (1 : Int32))])) _
    refine XS.iloadN X12.here hx rfl (hb hby own_d1_34) rfl ?_
    show Steps p.tables e below (T12.setTop (mkF m 35 #[.val (.int (1 : Int32)), .val (.int (1 : Int32)), .val (.int (0 : Int32)), .val (.ref wSUBJECT_PREDICATE), .val (.ref wKINDS), .val (.int (7 : Int32)), .val (.int (2 : Int32)), .val (.ref wSUBJECT_OBJECT)] [(.int (1 : Int32)), (.int (1 : Int32))])) _
    refine XS.icmpNo X12.here hx rfl (hb hby own_d1_35) rfl (by decide) ?_
    show Steps p.tables e below (T12.setTop (mkF m 38 #[.val (.int (1 : Int32)), .val (.int (1 : Int32)), .val (.int (0 : Int32)), .val (.ref wSUBJECT_PREDICATE), .val (.ref wKINDS), .val (.int (7 : Int32)), .val (.int (2 : Int32)), .val (.ref wSUBJECT_OBJECT)] [])) _
    refine XS.aload X12.here hx rfl (hb hby own_d1_38) rfl rfl ?_
    show Steps p.tables e below (T12.setTop (mkF m 40 #[.val (.int (1 : Int32)), .val (.int (1 : Int32)), .val (.int (0 : Int32)), .val (.ref wSUBJECT_PREDICATE), .val (.ref wKINDS), .val (.int (7 : Int32)), .val (.int (2 : Int32)), .val (.ref wSUBJECT_OBJECT)] [(.ref wSUBJECT_OBJECT)])) _
    refine st13 _ ?_
    show Steps p.tables e below (T13.setTop (mkF m 43 #[.val (.int (1 : Int32)), .val (.int (1 : Int32)), .val (.int (0 : Int32)), .val (.ref wSUBJECT_PREDICATE), .val (.ref wKINDS), .val (.int (7 : Int32)), .val (.int (2 : Int32)), .val (.ref wSUBJECT_OBJECT)] [(.int (0 : Int32))])) _
    refine XS.iloadN X13.here hx rfl (hb hby own_d1_43) rfl ?_
    show Steps p.tables e below (T13.setTop (mkF m 44 #[.val (.int (1 : Int32)), .val (.int (1 : Int32)), .val (.int (0 : Int32)), .val (.ref wSUBJECT_PREDICATE), .val (.ref wKINDS), .val (.int (7 : Int32)), .val (.int (2 : Int32)), .val (.ref wSUBJECT_OBJECT)] [(.int (1 : Int32)), (.int (0 : Int32))])) _
    refine XS.icmpYes X13.here hx rfl (pc0 := 44) (pc' := 59) rfl (hb hby own_d1_44) rfl (by decide) (by decide) (by decide) ?_
    show Steps p.tables e below (T13.setTop (mkF m 59 #[.val (.int (1 : Int32)), .val (.int (1 : Int32)), .val (.int (0 : Int32)), .val (.ref wSUBJECT_PREDICATE), .val (.ref wKINDS), .val (.int (7 : Int32)), .val (.int (2 : Int32)), .val (.ref wSUBJECT_OBJECT)] [])) _
    refine XS.iinc X13.here hx rfl (hb hby own_d1_59) rfl (l' := #[.val (.int (1 : Int32)), .val (.int (1 : Int32)), .val (.int (0 : Int32)), .val (.ref wSUBJECT_PREDICATE), .val (.ref wKINDS), .val (.int (7 : Int32)), .val (.int (3 : Int32)), .val (.ref wSUBJECT_OBJECT)]) rfl ?_
    show Steps p.tables e below (T13.setTop (mkF m 62 #[.val (.int (1 : Int32)), .val (.int (1 : Int32)), .val (.int (0 : Int32)), .val (.ref wSUBJECT_PREDICATE), .val (.ref wKINDS), .val (.int (7 : Int32)), .val (.int (3 : Int32)), .val (.ref wSUBJECT_OBJECT)] [])) _
    refine XS.goto X13.here hx rfl (pc0 := 62) (pc' := 15) rfl (hb hby own_d1_62) (by decide) (by decide) ?_
    show Steps p.tables e below (T13.setTop (mkF m 15 #[.val (.int (1 : Int32)), .val (.int (1 : Int32)), .val (.int (0 : Int32)), .val (.ref wSUBJECT_PREDICATE), .val (.ref wKINDS), .val (.int (7 : Int32)), .val (.int (3 : Int32)), .val (.ref wSUBJECT_OBJECT)] [])) _
    refine XS.iload X13.here hx rfl (hb hby own_d1_15) rfl ?_
    show Steps p.tables e below (T13.setTop (mkF m 17 #[.val (.int (1 : Int32)), .val (.int (1 : Int32)), .val (.int (0 : Int32)), .val (.ref wSUBJECT_PREDICATE), .val (.ref wKINDS), .val (.int (7 : Int32)), .val (.int (3 : Int32)), .val (.ref wSUBJECT_OBJECT)] [(.int (3 : Int32))])) _
    refine XS.iload X13.here hx rfl (hb hby own_d1_17) rfl ?_
    show Steps p.tables e below (T13.setTop (mkF m 19 #[.val (.int (1 : Int32)), .val (.int (1 : Int32)), .val (.int (0 : Int32)), .val (.ref wSUBJECT_PREDICATE), .val (.ref wKINDS), .val (.int (7 : Int32)), .val (.int (3 : Int32)), .val (.ref wSUBJECT_OBJECT)] [(.int (7 : Int32)), (.int (3 : Int32))])) _
    refine XS.icmpNo X13.here hx rfl (hb hby own_d1_19) rfl (by decide) ?_
    show Steps p.tables e below (T13.setTop (mkF m 22 #[.val (.int (1 : Int32)), .val (.int (1 : Int32)), .val (.int (0 : Int32)), .val (.ref wSUBJECT_PREDICATE), .val (.ref wKINDS), .val (.int (7 : Int32)), .val (.int (3 : Int32)), .val (.ref wSUBJECT_OBJECT)] [])) _
    refine XS.aload X13.here hx rfl (hb hby own_d1_22) rfl rfl ?_
    show Steps p.tables e below (T13.setTop (mkF m 24 #[.val (.int (1 : Int32)), .val (.int (1 : Int32)), .val (.int (0 : Int32)), .val (.ref wSUBJECT_PREDICATE), .val (.ref wKINDS), .val (.int (7 : Int32)), .val (.int (3 : Int32)), .val (.ref wSUBJECT_OBJECT)] [(.ref wKINDS)])) _
    refine XS.iload X13.here hx rfl (hb hby own_d1_24) rfl ?_
    show Steps p.tables e below (T13.setTop (mkF m 26 #[.val (.int (1 : Int32)), .val (.int (1 : Int32)), .val (.int (0 : Int32)), .val (.ref wSUBJECT_PREDICATE), .val (.ref wKINDS), .val (.int (7 : Int32)), .val (.int (3 : Int32)), .val (.ref wSUBJECT_OBJECT)] [(.int (3 : Int32)), (.ref wKINDS)])) _
    refine X13.aaload hx (j := (3 : Int32)) (v := (.ref wPREDICATE_OBJECT)) (by rw [e13]; exact Ar2.1) (State.isArrayOf_alike hZ.alike Ar2.2.1) rfl Ar2.2.2 hin14 hat14 (g := (mkF m 26 #[.val (.int (1 : Int32)), .val (.int (1 : Int32)), .val (.int (0 : Int32)), .val (.ref wSUBJECT_PREDICATE), .val (.ref wKINDS), .val (.int (7 : Int32)), .val (.int (3 : Int32)), .val (.ref wSUBJECT_OBJECT)] [(.int (3 : Int32)), (.ref wKINDS)])) rfl rfl (hb hby own_d1_26) _ ?_
    show Steps p.tables e below (T13.setTop (mkF m 27 #[.val (.int (1 : Int32)), .val (.int (1 : Int32)), .val (.int (0 : Int32)), .val (.ref wSUBJECT_PREDICATE), .val (.ref wKINDS), .val (.int (7 : Int32)), .val (.int (3 : Int32)), .val (.ref wSUBJECT_OBJECT)] [(.ref wPREDICATE_OBJECT)])) _
    refine XS.astore X13.here hx rfl (hb hby own_d1_27) rfl rfl (l' := #[.val (.int (1 : Int32)), .val (.int (1 : Int32)), .val (.int (0 : Int32)), .val (.ref wSUBJECT_PREDICATE), .val (.ref wKINDS), .val (.int (7 : Int32)), .val (.int (3 : Int32)), .val (.ref wPREDICATE_OBJECT)]) rfl ?_
    show Steps p.tables e below (T13.setTop (mkF m 29 #[.val (.int (1 : Int32)), .val (.int (1 : Int32)), .val (.int (0 : Int32)), .val (.ref wSUBJECT_PREDICATE), .val (.ref wKINDS), .val (.int (7 : Int32)), .val (.int (3 : Int32)), .val (.ref wPREDICATE_OBJECT)] [])) _
    refine XS.aload X13.here hx rfl (hb hby own_d1_29) rfl rfl ?_
    show Steps p.tables e below (T13.setTop (mkF m 31 #[.val (.int (1 : Int32)), .val (.int (1 : Int32)), .val (.int (0 : Int32)), .val (.ref wSUBJECT_PREDICATE), .val (.ref wKINDS), .val (.int (7 : Int32)), .val (.int (3 : Int32)), .val (.ref wPREDICATE_OBJECT)] [(.ref wPREDICATE_OBJECT)])) _
    refine st15 _ ?_
    show Steps p.tables e below (T15.setTop (mkF m 34 #[.val (.int (1 : Int32)), .val (.int (1 : Int32)), .val (.int (0 : Int32)), .val (.ref wSUBJECT_PREDICATE), .val (.ref wKINDS), .val (.int (7 : Int32)), .val (.int (3 : Int32)), .val (.ref wPREDICATE_OBJECT)] [(.int (0 : Int32))])) _
    refine XS.iloadN X15.here hx rfl (hb hby own_d1_34) rfl ?_
    show Steps p.tables e below (T15.setTop (mkF m 35 #[.val (.int (1 : Int32)), .val (.int (1 : Int32)), .val (.int (0 : Int32)), .val (.ref wSUBJECT_PREDICATE), .val (.ref wKINDS), .val (.int (7 : Int32)), .val (.int (3 : Int32)), .val (.ref wPREDICATE_OBJECT)] [(.int (1 : Int32)), (.int (0 : Int32))])) _
    refine XS.icmpYes X15.here hx rfl (pc0 := 35) (pc' := 59) rfl (hb hby own_d1_35) rfl (by decide) (by decide) (by decide) ?_
    show Steps p.tables e below (T15.setTop (mkF m 59 #[.val (.int (1 : Int32)), .val (.int (1 : Int32)), .val (.int (0 : Int32)), .val (.ref wSUBJECT_PREDICATE), .val (.ref wKINDS), .val (.int (7 : Int32)), .val (.int (3 : Int32)), .val (.ref wPREDICATE_OBJECT)] [])) _
    refine XS.iinc X15.here hx rfl (hb hby own_d1_59) rfl (l' := #[.val (.int (1 : Int32)), .val (.int (1 : Int32)), .val (.int (0 : Int32)), .val (.ref wSUBJECT_PREDICATE), .val (.ref wKINDS), .val (.int (7 : Int32)), .val (.int (4 : Int32)), .val (.ref wPREDICATE_OBJECT)]) rfl ?_
    show Steps p.tables e below (T15.setTop (mkF m 62 #[.val (.int (1 : Int32)), .val (.int (1 : Int32)), .val (.int (0 : Int32)), .val (.ref wSUBJECT_PREDICATE), .val (.ref wKINDS), .val (.int (7 : Int32)), .val (.int (4 : Int32)), .val (.ref wPREDICATE_OBJECT)] [])) _
    refine XS.goto X15.here hx rfl (pc0 := 62) (pc' := 15) rfl (hb hby own_d1_62) (by decide) (by decide) ?_
    show Steps p.tables e below (T15.setTop (mkF m 15 #[.val (.int (1 : Int32)), .val (.int (1 : Int32)), .val (.int (0 : Int32)), .val (.ref wSUBJECT_PREDICATE), .val (.ref wKINDS), .val (.int (7 : Int32)), .val (.int (4 : Int32)), .val (.ref wPREDICATE_OBJECT)] [])) _
    refine XS.iload X15.here hx rfl (hb hby own_d1_15) rfl ?_
    show Steps p.tables e below (T15.setTop (mkF m 17 #[.val (.int (1 : Int32)), .val (.int (1 : Int32)), .val (.int (0 : Int32)), .val (.ref wSUBJECT_PREDICATE), .val (.ref wKINDS), .val (.int (7 : Int32)), .val (.int (4 : Int32)), .val (.ref wPREDICATE_OBJECT)] [(.int (4 : Int32))])) _
    refine XS.iload X15.here hx rfl (hb hby own_d1_17) rfl ?_
    show Steps p.tables e below (T15.setTop (mkF m 19 #[.val (.int (1 : Int32)), .val (.int (1 : Int32)), .val (.int (0 : Int32)), .val (.ref wSUBJECT_PREDICATE), .val (.ref wKINDS), .val (.int (7 : Int32)), .val (.int (4 : Int32)), .val (.ref wPREDICATE_OBJECT)] [(.int (7 : Int32)), (.int (4 : Int32))])) _
    refine XS.icmpNo X15.here hx rfl (hb hby own_d1_19) rfl (by decide) ?_
    show Steps p.tables e below (T15.setTop (mkF m 22 #[.val (.int (1 : Int32)), .val (.int (1 : Int32)), .val (.int (0 : Int32)), .val (.ref wSUBJECT_PREDICATE), .val (.ref wKINDS), .val (.int (7 : Int32)), .val (.int (4 : Int32)), .val (.ref wPREDICATE_OBJECT)] [])) _
    refine XS.aload X15.here hx rfl (hb hby own_d1_22) rfl rfl ?_
    show Steps p.tables e below (T15.setTop (mkF m 24 #[.val (.int (1 : Int32)), .val (.int (1 : Int32)), .val (.int (0 : Int32)), .val (.ref wSUBJECT_PREDICATE), .val (.ref wKINDS), .val (.int (7 : Int32)), .val (.int (4 : Int32)), .val (.ref wPREDICATE_OBJECT)] [(.ref wKINDS)])) _
    refine XS.iload X15.here hx rfl (hb hby own_d1_24) rfl ?_
    show Steps p.tables e below (T15.setTop (mkF m 26 #[.val (.int (1 : Int32)), .val (.int (1 : Int32)), .val (.int (0 : Int32)), .val (.ref wSUBJECT_PREDICATE), .val (.ref wKINDS), .val (.int (7 : Int32)), .val (.int (4 : Int32)), .val (.ref wPREDICATE_OBJECT)] [(.int (4 : Int32)), (.ref wKINDS)])) _
    refine X15.aaload hx (j := (4 : Int32)) (v := (.ref wSUBJECT)) (by rw [e15]; exact Ar2.1) (State.isArrayOf_alike hZ.alike Ar2.2.1) rfl Ar2.2.2 hin16 hat16 (g := (mkF m 26 #[.val (.int (1 : Int32)), .val (.int (1 : Int32)), .val (.int (0 : Int32)), .val (.ref wSUBJECT_PREDICATE), .val (.ref wKINDS), .val (.int (7 : Int32)), .val (.int (4 : Int32)), .val (.ref wPREDICATE_OBJECT)] [(.int (4 : Int32)), (.ref wKINDS)])) rfl rfl (hb hby own_d1_26) _ ?_
    show Steps p.tables e below (T15.setTop (mkF m 27 #[.val (.int (1 : Int32)), .val (.int (1 : Int32)), .val (.int (0 : Int32)), .val (.ref wSUBJECT_PREDICATE), .val (.ref wKINDS), .val (.int (7 : Int32)), .val (.int (4 : Int32)), .val (.ref wPREDICATE_OBJECT)] [(.ref wSUBJECT)])) _
    refine XS.astore X15.here hx rfl (hb hby own_d1_27) rfl rfl (l' := #[.val (.int (1 : Int32)), .val (.int (1 : Int32)), .val (.int (0 : Int32)), .val (.ref wSUBJECT_PREDICATE), .val (.ref wKINDS), .val (.int (7 : Int32)), .val (.int (4 : Int32)), .val (.ref wSUBJECT)]) rfl ?_
    show Steps p.tables e below (T15.setTop (mkF m 29 #[.val (.int (1 : Int32)), .val (.int (1 : Int32)), .val (.int (0 : Int32)), .val (.ref wSUBJECT_PREDICATE), .val (.ref wKINDS), .val (.int (7 : Int32)), .val (.int (4 : Int32)), .val (.ref wSUBJECT)] [])) _
    refine XS.aload X15.here hx rfl (hb hby own_d1_29) rfl rfl ?_
    show Steps p.tables e below (T15.setTop (mkF m 31 #[.val (.int (1 : Int32)), .val (.int (1 : Int32)), .val (.int (0 : Int32)), .val (.ref wSUBJECT_PREDICATE), .val (.ref wKINDS), .val (.int (7 : Int32)), .val (.int (4 : Int32)), .val (.ref wSUBJECT)] [(.ref wSUBJECT)])) _
    refine st17 _ ?_
    show Steps p.tables e below (T17.setTop (mkF m 34 #[.val (.int (1 : Int32)), .val (.int (1 : Int32)), .val (.int (0 : Int32)), .val (.ref wSUBJECT_PREDICATE), .val (.ref wKINDS), .val (.int (7 : Int32)), .val (.int (4 : Int32)), .val (.ref wSUBJECT)] [(.int (1 : Int32))])) _
    refine XS.iloadN X17.here hx rfl (hb hby own_d1_34) rfl ?_
    show Steps p.tables e below (T17.setTop (mkF m 35 #[.val (.int (1 : Int32)), .val (.int (1 : Int32)), .val (.int (0 : Int32)), .val (.ref wSUBJECT_PREDICATE), .val (.ref wKINDS), .val (.int (7 : Int32)), .val (.int (4 : Int32)), .val (.ref wSUBJECT)] [(.int (1 : Int32)), (.int (1 : Int32))])) _
    refine XS.icmpNo X17.here hx rfl (hb hby own_d1_35) rfl (by decide) ?_
    show Steps p.tables e below (T17.setTop (mkF m 38 #[.val (.int (1 : Int32)), .val (.int (1 : Int32)), .val (.int (0 : Int32)), .val (.ref wSUBJECT_PREDICATE), .val (.ref wKINDS), .val (.int (7 : Int32)), .val (.int (4 : Int32)), .val (.ref wSUBJECT)] [])) _
    refine XS.aload X17.here hx rfl (hb hby own_d1_38) rfl rfl ?_
    show Steps p.tables e below (T17.setTop (mkF m 40 #[.val (.int (1 : Int32)), .val (.int (1 : Int32)), .val (.int (0 : Int32)), .val (.ref wSUBJECT_PREDICATE), .val (.ref wKINDS), .val (.int (7 : Int32)), .val (.int (4 : Int32)), .val (.ref wSUBJECT)] [(.ref wSUBJECT)])) _
    refine st18 _ ?_
    show Steps p.tables e below (T18.setTop (mkF m 43 #[.val (.int (1 : Int32)), .val (.int (1 : Int32)), .val (.int (0 : Int32)), .val (.ref wSUBJECT_PREDICATE), .val (.ref wKINDS), .val (.int (7 : Int32)), .val (.int (4 : Int32)), .val (.ref wSUBJECT)] [(.int (0 : Int32))])) _
    refine XS.iloadN X18.here hx rfl (hb hby own_d1_43) rfl ?_
    show Steps p.tables e below (T18.setTop (mkF m 44 #[.val (.int (1 : Int32)), .val (.int (1 : Int32)), .val (.int (0 : Int32)), .val (.ref wSUBJECT_PREDICATE), .val (.ref wKINDS), .val (.int (7 : Int32)), .val (.int (4 : Int32)), .val (.ref wSUBJECT)] [(.int (1 : Int32)), (.int (0 : Int32))])) _
    refine XS.icmpYes X18.here hx rfl (pc0 := 44) (pc' := 59) rfl (hb hby own_d1_44) rfl (by decide) (by decide) (by decide) ?_
    show Steps p.tables e below (T18.setTop (mkF m 59 #[.val (.int (1 : Int32)), .val (.int (1 : Int32)), .val (.int (0 : Int32)), .val (.ref wSUBJECT_PREDICATE), .val (.ref wKINDS), .val (.int (7 : Int32)), .val (.int (4 : Int32)), .val (.ref wSUBJECT)] [])) _
    refine XS.iinc X18.here hx rfl (hb hby own_d1_59) rfl (l' := #[.val (.int (1 : Int32)), .val (.int (1 : Int32)), .val (.int (0 : Int32)), .val (.ref wSUBJECT_PREDICATE), .val (.ref wKINDS), .val (.int (7 : Int32)), .val (.int (5 : Int32)), .val (.ref wSUBJECT)]) rfl ?_
    show Steps p.tables e below (T18.setTop (mkF m 62 #[.val (.int (1 : Int32)), .val (.int (1 : Int32)), .val (.int (0 : Int32)), .val (.ref wSUBJECT_PREDICATE), .val (.ref wKINDS), .val (.int (7 : Int32)), .val (.int (5 : Int32)), .val (.ref wSUBJECT)] [])) _
    refine XS.goto X18.here hx rfl (pc0 := 62) (pc' := 15) rfl (hb hby own_d1_62) (by decide) (by decide) ?_
    show Steps p.tables e below (T18.setTop (mkF m 15 #[.val (.int (1 : Int32)), .val (.int (1 : Int32)), .val (.int (0 : Int32)), .val (.ref wSUBJECT_PREDICATE), .val (.ref wKINDS), .val (.int (7 : Int32)), .val (.int (5 : Int32)), .val (.ref wSUBJECT)] [])) _
    refine XS.iload X18.here hx rfl (hb hby own_d1_15) rfl ?_
    show Steps p.tables e below (T18.setTop (mkF m 17 #[.val (.int (1 : Int32)), .val (.int (1 : Int32)), .val (.int (0 : Int32)), .val (.ref wSUBJECT_PREDICATE), .val (.ref wKINDS), .val (.int (7 : Int32)), .val (.int (5 : Int32)), .val (.ref wSUBJECT)] [(.int (5 : Int32))])) _
    refine XS.iload X18.here hx rfl (hb hby own_d1_17) rfl ?_
    show Steps p.tables e below (T18.setTop (mkF m 19 #[.val (.int (1 : Int32)), .val (.int (1 : Int32)), .val (.int (0 : Int32)), .val (.ref wSUBJECT_PREDICATE), .val (.ref wKINDS), .val (.int (7 : Int32)), .val (.int (5 : Int32)), .val (.ref wSUBJECT)] [(.int (7 : Int32)), (.int (5 : Int32))])) _
    refine XS.icmpNo X18.here hx rfl (hb hby own_d1_19) rfl (by decide) ?_
    show Steps p.tables e below (T18.setTop (mkF m 22 #[.val (.int (1 : Int32)), .val (.int (1 : Int32)), .val (.int (0 : Int32)), .val (.ref wSUBJECT_PREDICATE), .val (.ref wKINDS), .val (.int (7 : Int32)), .val (.int (5 : Int32)), .val (.ref wSUBJECT)] [])) _
    refine XS.aload X18.here hx rfl (hb hby own_d1_22) rfl rfl ?_
    show Steps p.tables e below (T18.setTop (mkF m 24 #[.val (.int (1 : Int32)), .val (.int (1 : Int32)), .val (.int (0 : Int32)), .val (.ref wSUBJECT_PREDICATE), .val (.ref wKINDS), .val (.int (7 : Int32)), .val (.int (5 : Int32)), .val (.ref wSUBJECT)] [(.ref wKINDS)])) _
    refine XS.iload X18.here hx rfl (hb hby own_d1_24) rfl ?_
    show Steps p.tables e below (T18.setTop (mkF m 26 #[.val (.int (1 : Int32)), .val (.int (1 : Int32)), .val (.int (0 : Int32)), .val (.ref wSUBJECT_PREDICATE), .val (.ref wKINDS), .val (.int (7 : Int32)), .val (.int (5 : Int32)), .val (.ref wSUBJECT)] [(.int (5 : Int32)), (.ref wKINDS)])) _
    refine X18.aaload hx (j := (5 : Int32)) (v := (.ref wPREDICATE)) (by rw [e18]; exact Ar2.1) (State.isArrayOf_alike hZ.alike Ar2.2.1) rfl Ar2.2.2 hin19 hat19 (g := (mkF m 26 #[.val (.int (1 : Int32)), .val (.int (1 : Int32)), .val (.int (0 : Int32)), .val (.ref wSUBJECT_PREDICATE), .val (.ref wKINDS), .val (.int (7 : Int32)), .val (.int (5 : Int32)), .val (.ref wSUBJECT)] [(.int (5 : Int32)), (.ref wKINDS)])) rfl rfl (hb hby own_d1_26) _ ?_
    show Steps p.tables e below (T18.setTop (mkF m 27 #[.val (.int (1 : Int32)), .val (.int (1 : Int32)), .val (.int (0 : Int32)), .val (.ref wSUBJECT_PREDICATE), .val (.ref wKINDS), .val (.int (7 : Int32)), .val (.int (5 : Int32)), .val (.ref wSUBJECT)] [(.ref wPREDICATE)])) _
    refine XS.astore X18.here hx rfl (hb hby own_d1_27) rfl rfl (l' := #[.val (.int (1 : Int32)), .val (.int (1 : Int32)), .val (.int (0 : Int32)), .val (.ref wSUBJECT_PREDICATE), .val (.ref wKINDS), .val (.int (7 : Int32)), .val (.int (5 : Int32)), .val (.ref wPREDICATE)]) rfl ?_
    show Steps p.tables e below (T18.setTop (mkF m 29 #[.val (.int (1 : Int32)), .val (.int (1 : Int32)), .val (.int (0 : Int32)), .val (.ref wSUBJECT_PREDICATE), .val (.ref wKINDS), .val (.int (7 : Int32)), .val (.int (5 : Int32)), .val (.ref wPREDICATE)] [])) _
    refine XS.aload X18.here hx rfl (hb hby own_d1_29) rfl rfl ?_
    show Steps p.tables e below (T18.setTop (mkF m 31 #[.val (.int (1 : Int32)), .val (.int (1 : Int32)), .val (.int (0 : Int32)), .val (.ref wSUBJECT_PREDICATE), .val (.ref wKINDS), .val (.int (7 : Int32)), .val (.int (5 : Int32)), .val (.ref wPREDICATE)] [(.ref wPREDICATE)])) _
    refine st20 _ ?_
    show Steps p.tables e below (T20.setTop (mkF m 34 #[.val (.int (1 : Int32)), .val (.int (1 : Int32)), .val (.int (0 : Int32)), .val (.ref wSUBJECT_PREDICATE), .val (.ref wKINDS), .val (.int (7 : Int32)), .val (.int (5 : Int32)), .val (.ref wPREDICATE)] [(.int (0 : Int32))])) _
    refine XS.iloadN X20.here hx rfl (hb hby own_d1_34) rfl ?_
    show Steps p.tables e below (T20.setTop (mkF m 35 #[.val (.int (1 : Int32)), .val (.int (1 : Int32)), .val (.int (0 : Int32)), .val (.ref wSUBJECT_PREDICATE), .val (.ref wKINDS), .val (.int (7 : Int32)), .val (.int (5 : Int32)), .val (.ref wPREDICATE)] [(.int (1 : Int32)), (.int (0 : Int32))])) _
    refine XS.icmpYes X20.here hx rfl (pc0 := 35) (pc' := 59) rfl (hb hby own_d1_35) rfl (by decide) (by decide) (by decide) ?_
    show Steps p.tables e below (T20.setTop (mkF m 59 #[.val (.int (1 : Int32)), .val (.int (1 : Int32)), .val (.int (0 : Int32)), .val (.ref wSUBJECT_PREDICATE), .val (.ref wKINDS), .val (.int (7 : Int32)), .val (.int (5 : Int32)), .val (.ref wPREDICATE)] [])) _
    refine XS.iinc X20.here hx rfl (hb hby own_d1_59) rfl (l' := #[.val (.int (1 : Int32)), .val (.int (1 : Int32)), .val (.int (0 : Int32)), .val (.ref wSUBJECT_PREDICATE), .val (.ref wKINDS), .val (.int (7 : Int32)), .val (.int (6 : Int32)), .val (.ref wPREDICATE)]) rfl ?_
    show Steps p.tables e below (T20.setTop (mkF m 62 #[.val (.int (1 : Int32)), .val (.int (1 : Int32)), .val (.int (0 : Int32)), .val (.ref wSUBJECT_PREDICATE), .val (.ref wKINDS), .val (.int (7 : Int32)), .val (.int (6 : Int32)), .val (.ref wPREDICATE)] [])) _
    refine XS.goto X20.here hx rfl (pc0 := 62) (pc' := 15) rfl (hb hby own_d1_62) (by decide) (by decide) ?_
    show Steps p.tables e below (T20.setTop (mkF m 15 #[.val (.int (1 : Int32)), .val (.int (1 : Int32)), .val (.int (0 : Int32)), .val (.ref wSUBJECT_PREDICATE), .val (.ref wKINDS), .val (.int (7 : Int32)), .val (.int (6 : Int32)), .val (.ref wPREDICATE)] [])) _
    refine XS.iload X20.here hx rfl (hb hby own_d1_15) rfl ?_
    show Steps p.tables e below (T20.setTop (mkF m 17 #[.val (.int (1 : Int32)), .val (.int (1 : Int32)), .val (.int (0 : Int32)), .val (.ref wSUBJECT_PREDICATE), .val (.ref wKINDS), .val (.int (7 : Int32)), .val (.int (6 : Int32)), .val (.ref wPREDICATE)] [(.int (6 : Int32))])) _
    refine XS.iload X20.here hx rfl (hb hby own_d1_17) rfl ?_
    show Steps p.tables e below (T20.setTop (mkF m 19 #[.val (.int (1 : Int32)), .val (.int (1 : Int32)), .val (.int (0 : Int32)), .val (.ref wSUBJECT_PREDICATE), .val (.ref wKINDS), .val (.int (7 : Int32)), .val (.int (6 : Int32)), .val (.ref wPREDICATE)] [(.int (7 : Int32)), (.int (6 : Int32))])) _
    refine XS.icmpNo X20.here hx rfl (hb hby own_d1_19) rfl (by decide) ?_
    show Steps p.tables e below (T20.setTop (mkF m 22 #[.val (.int (1 : Int32)), .val (.int (1 : Int32)), .val (.int (0 : Int32)), .val (.ref wSUBJECT_PREDICATE), .val (.ref wKINDS), .val (.int (7 : Int32)), .val (.int (6 : Int32)), .val (.ref wPREDICATE)] [])) _
    refine XS.aload X20.here hx rfl (hb hby own_d1_22) rfl rfl ?_
    show Steps p.tables e below (T20.setTop (mkF m 24 #[.val (.int (1 : Int32)), .val (.int (1 : Int32)), .val (.int (0 : Int32)), .val (.ref wSUBJECT_PREDICATE), .val (.ref wKINDS), .val (.int (7 : Int32)), .val (.int (6 : Int32)), .val (.ref wPREDICATE)] [(.ref wKINDS)])) _
    refine XS.iload X20.here hx rfl (hb hby own_d1_24) rfl ?_
    show Steps p.tables e below (T20.setTop (mkF m 26 #[.val (.int (1 : Int32)), .val (.int (1 : Int32)), .val (.int (0 : Int32)), .val (.ref wSUBJECT_PREDICATE), .val (.ref wKINDS), .val (.int (7 : Int32)), .val (.int (6 : Int32)), .val (.ref wPREDICATE)] [(.int (6 : Int32)), (.ref wKINDS)])) _
    refine X20.aaload hx (j := (6 : Int32)) (v := (.ref wOBJECT)) (by rw [e20]; exact Ar2.1) (State.isArrayOf_alike hZ.alike Ar2.2.1) rfl Ar2.2.2 hin21 hat21 (g := (mkF m 26 #[.val (.int (1 : Int32)), .val (.int (1 : Int32)), .val (.int (0 : Int32)), .val (.ref wSUBJECT_PREDICATE), .val (.ref wKINDS), .val (.int (7 : Int32)), .val (.int (6 : Int32)), .val (.ref wPREDICATE)] [(.int (6 : Int32)), (.ref wKINDS)])) rfl rfl (hb hby own_d1_26) _ ?_
    show Steps p.tables e below (T20.setTop (mkF m 27 #[.val (.int (1 : Int32)), .val (.int (1 : Int32)), .val (.int (0 : Int32)), .val (.ref wSUBJECT_PREDICATE), .val (.ref wKINDS), .val (.int (7 : Int32)), .val (.int (6 : Int32)), .val (.ref wPREDICATE)] [(.ref wOBJECT)])) _
    refine XS.astore X20.here hx rfl (hb hby own_d1_27) rfl rfl (l' := #[.val (.int (1 : Int32)), .val (.int (1 : Int32)), .val (.int (0 : Int32)), .val (.ref wSUBJECT_PREDICATE), .val (.ref wKINDS), .val (.int (7 : Int32)), .val (.int (6 : Int32)), .val (.ref wOBJECT)]) rfl ?_
    show Steps p.tables e below (T20.setTop (mkF m 29 #[.val (.int (1 : Int32)), .val (.int (1 : Int32)), .val (.int (0 : Int32)), .val (.ref wSUBJECT_PREDICATE), .val (.ref wKINDS), .val (.int (7 : Int32)), .val (.int (6 : Int32)), .val (.ref wOBJECT)] [])) _
    refine XS.aload X20.here hx rfl (hb hby own_d1_29) rfl rfl ?_
    show Steps p.tables e below (T20.setTop (mkF m 31 #[.val (.int (1 : Int32)), .val (.int (1 : Int32)), .val (.int (0 : Int32)), .val (.ref wSUBJECT_PREDICATE), .val (.ref wKINDS), .val (.int (7 : Int32)), .val (.int (6 : Int32)), .val (.ref wOBJECT)] [(.ref wOBJECT)])) _
    refine st22 _ ?_
    show Steps p.tables e below (T22.setTop (mkF m 34 #[.val (.int (1 : Int32)), .val (.int (1 : Int32)), .val (.int (0 : Int32)), .val (.ref wSUBJECT_PREDICATE), .val (.ref wKINDS), .val (.int (7 : Int32)), .val (.int (6 : Int32)), .val (.ref wOBJECT)] [(.int (0 : Int32))])) _
    refine XS.iloadN X22.here hx rfl (hb hby own_d1_34) rfl ?_
    show Steps p.tables e below (T22.setTop (mkF m 35 #[.val (.int (1 : Int32)), .val (.int (1 : Int32)), .val (.int (0 : Int32)), .val (.ref wSUBJECT_PREDICATE), .val (.ref wKINDS), .val (.int (7 : Int32)), .val (.int (6 : Int32)), .val (.ref wOBJECT)] [(.int (1 : Int32)), (.int (0 : Int32))])) _
    refine XS.icmpYes X22.here hx rfl (pc0 := 35) (pc' := 59) rfl (hb hby own_d1_35) rfl (by decide) (by decide) (by decide) ?_
    show Steps p.tables e below (T22.setTop (mkF m 59 #[.val (.int (1 : Int32)), .val (.int (1 : Int32)), .val (.int (0 : Int32)), .val (.ref wSUBJECT_PREDICATE), .val (.ref wKINDS), .val (.int (7 : Int32)), .val (.int (6 : Int32)), .val (.ref wOBJECT)] [])) _
    refine XS.iinc X22.here hx rfl (hb hby own_d1_59) rfl (l' := #[.val (.int (1 : Int32)), .val (.int (1 : Int32)), .val (.int (0 : Int32)), .val (.ref wSUBJECT_PREDICATE), .val (.ref wKINDS), .val (.int (7 : Int32)), .val (.int (7 : Int32)), .val (.ref wOBJECT)]) rfl ?_
    show Steps p.tables e below (T22.setTop (mkF m 62 #[.val (.int (1 : Int32)), .val (.int (1 : Int32)), .val (.int (0 : Int32)), .val (.ref wSUBJECT_PREDICATE), .val (.ref wKINDS), .val (.int (7 : Int32)), .val (.int (7 : Int32)), .val (.ref wOBJECT)] [])) _
    refine XS.goto X22.here hx rfl (pc0 := 62) (pc' := 15) rfl (hb hby own_d1_62) (by decide) (by decide) ?_
    show Steps p.tables e below (T22.setTop (mkF m 15 #[.val (.int (1 : Int32)), .val (.int (1 : Int32)), .val (.int (0 : Int32)), .val (.ref wSUBJECT_PREDICATE), .val (.ref wKINDS), .val (.int (7 : Int32)), .val (.int (7 : Int32)), .val (.ref wOBJECT)] [])) _
    refine XS.iload X22.here hx rfl (hb hby own_d1_15) rfl ?_
    show Steps p.tables e below (T22.setTop (mkF m 17 #[.val (.int (1 : Int32)), .val (.int (1 : Int32)), .val (.int (0 : Int32)), .val (.ref wSUBJECT_PREDICATE), .val (.ref wKINDS), .val (.int (7 : Int32)), .val (.int (7 : Int32)), .val (.ref wOBJECT)] [(.int (7 : Int32))])) _
    refine XS.iload X22.here hx rfl (hb hby own_d1_17) rfl ?_
    show Steps p.tables e below (T22.setTop (mkF m 19 #[.val (.int (1 : Int32)), .val (.int (1 : Int32)), .val (.int (0 : Int32)), .val (.ref wSUBJECT_PREDICATE), .val (.ref wKINDS), .val (.int (7 : Int32)), .val (.int (7 : Int32)), .val (.ref wOBJECT)] [(.int (7 : Int32)), (.int (7 : Int32))])) _
    refine XS.icmpYes X22.here hx rfl (pc0 := 19) (pc' := 65) rfl (hb hby own_d1_19) rfl (by decide) (by decide) (by decide) ?_
    show Steps p.tables e below (T22.setTop (mkF m 65 #[.val (.int (1 : Int32)), .val (.int (1 : Int32)), .val (.int (0 : Int32)), .val (.ref wSUBJECT_PREDICATE), .val (.ref wKINDS), .val (.int (7 : Int32)), .val (.int (7 : Int32)), .val (.ref wOBJECT)] [])) _
    refine XS.aloadN X22.here hx rfl (hb hby own_d1_65) rfl rfl ?_
    show Steps p.tables e below (T22.setTop (mkF m 66 #[.val (.int (1 : Int32)), .val (.int (1 : Int32)), .val (.int (0 : Int32)), .val (.ref wSUBJECT_PREDICATE), .val (.ref wKINDS), .val (.int (7 : Int32)), .val (.int (7 : Int32)), .val (.ref wOBJECT)] [(.ref wSUBJECT_PREDICATE)])) _
    jvm_step X22.here [X22.here.top, hx, (hb hby own_d1_66), X22.method', Bd.returns, Value.isRef, FieldType.isReference]
    first | (intro acts; rw [hr _ acts rfl rfl rfl]) | rw [hr _ _ rfl rfl rfl]
    exact Steps.refl _
  · show OwnQ _ h0 n0 _ T22.heap _
    exact ⟨rfl, N0, e22⟩
theorem own_d2_8 : decode method_2_code 8 = .ok (.iload_n 2, 1) := by decide +kernel
theorem own_d2_9 : decode method_2_code 9 = .ok (.ifCond .eq 7, 3) := by decide +kernel
theorem own_d2_16 : decode method_2_code 16 = .ok (.getstatic 13, 3) := by decide +kernel
theorem own_d2_19 : decode method_2_code 19 = .ok (.areturn, 1) := by decide +kernel
set_option maxRecDepth 65536 in
set_option maxHeartbeats 40000000 in
theorem own_expected_7 (l : Launch) (Z : State) (a0 : Array Value) (hw : ∀ d ∈ tables_1, d.before a0 Z = true) (ws : List Jvm.Cond) (wKINDS : Addr) (wSUBJECT_PREDICATE_OBJECT : Addr) (wSUBJECT_PREDICATE : Addr) (wSUBJECT_OBJECT : Addr) (wPREDICATE_OBJECT : Addr) (wSUBJECT : Addr) (wPREDICATE : Addr) (wOBJECT : Addr) (kKINDS : ClassId) (G : OwnG Z wKINDS wSUBJECT_PREDICATE_OBJECT wSUBJECT_PREDICATE wSUBJECT_OBJECT wPREDICATE_OBJECT wSUBJECT wPREDICATE wOBJECT kKINDS) (h0 : Heap) (n0 : Nat) (O0 : Old Z n0 h0) :
    MetFree l (⟨"com/example/quadrille/quadrille/graphfilter/PatternKindKeepingPinLaw", "expected", "(ZZZ)Lcom/example/quadrille/quadrille/graphfilter/PatternKind;"⟩ : MethodName) (head1 (Jvm.Cond.code (⟨"com/example/quadrille/quadrille/graphfilter/PatternKindKeepingPinLaw", "expected", "(ZZZ)Lcom/example/quadrille/quadrille/graphfilter/PatternKind;"⟩ : MethodName) method_2_code 3 (some (.object "com/example/quadrille/quadrille/graphfilter/PatternKind")) :: ws) ({ frames := 0, cells := 0, slots := 0, locals := 0 } : Room)) (fun a U => a = #[(.int (1 : Int32)), (.int (1 : Int32)), (.int (0 : Int32))] ∧ Z.Warmed39 U.vm ∧ U.heap = h0) (fun _ _ _ _ _ => True) (fun _ U o U' => ∃ v L, o = .returned v ∧ OwnQ (some (.ref wSUBJECT_PREDICATE)) h0 n0 v U'.heap L ∧ FrameEnd U o U' L ({ frames := 0, cells := 0, slots := 0, locals := 0 } : Room).cells ({ frames := 0, cells := 0, slots := 0, locals := 0 } : Room).slots) := by
  refine MetFree.of_bodySF (plainFor_of_name own_pn_0) hisR ?_
  intro p e s m args below meth c s₁ Bd hml0 hP hK
  obtain ⟨rfl, hZ, hh⟩ := hP
  have hx := Bd.exec
  have hby := Bd.bytes
  have hml : c.maxLocals = 3 := hml0
  have hown : s.vm.findClass "com/example/quadrille/quadrille/graphfilter/PatternKindKeepingPinLaw" = some m.cls := findClass_of_methodNamed Bd.named
  have hnm := (name_of_methodNamed Bd.named Bd.method).1
  have X0 : Stand p l e ({ frames := 0, cells := 0, slots := 0, locals := 0 } : Room) s m #[(.int (1 : Int32)), (.int (1 : Int32)), (.int (0 : Int32))] below meth c s₁ [] 0 0 := Stand.of_body Bd
  have e0 : s₁.heap = h0 := by rw [← hh, Bd.state]; rfl
  have N0 := Fr.nil n0
  have pre0 : ∀ t, Steps p.tables e below (s₁.setTop (mkF m 0 #[.val (.int (1 : Int32)), .val (.int (1 : Int32)), .val (.int (0 : Int32))] [])) t → Steps p.tables e below (s₁.setTop (entryFrame m #[(.int (1 : Int32)), (.int (1 : Int32)), (.int (0 : Int32))] 3)) t := fun t k => castTop (own_ef_2_III m (1 : Int32) (1 : Int32) (0 : Int32)) k
  obtain ⟨T1, X1, e1, st1⟩ := getS2 X0 hx hZ hown (host := "") (Or.inl (hw _ (List.mem_of_getElem? (i := 23) rfl))) Via.refl e0 (G.2.2.2.1.ext O0.2) (g := (mkF m 16 #[.val (.int (1 : Int32)), .val (.int (1 : Int32)), .val (.int (0 : Int32))] [])) rfl (hb hby own_d2_16)
  obtain ⟨fs, hr, hrun, hended, hW, hsame⟩ := X1.leave (v := some (.ref wSUBJECT_PREDICATE)) (fun h => by rw [Bd.returns] at h; cases h)
  refine ⟨_, _, pre0 _ ?_, hrun, hended, _, _, rfl, ?_, ⟨_, rfl⟩, hW, hsame.mono (by decide) (by decide)⟩
  · show Steps p.tables e below (s₁.setTop (mkF m 0 #[.val (.int (1 : Int32)), .val (.int (1 : Int32)), .val (.int (0 : Int32))] [])) _
    refine XS.iloadN X0.here hx rfl (hb hby own_d2_0) rfl ?_
    show Steps p.tables e below (s₁.setTop (mkF m 1 #[.val (.int (1 : Int32)), .val (.int (1 : Int32)), .val (.int (0 : Int32))] [(.int (1 : Int32))])) _
    refine XS.ifNo X0.here hx rfl (hb hby own_d2_1) rfl (by decide) ?_
    show Steps p.tables e below (s₁.setTop (mkF m 4 #[.val (.int (1 : Int32)), .val (.int (1 : Int32)), .val (.int (0 : Int32))] [])) _
    refine XS.iloadN X0.here hx rfl (hb hby own_d2_4) rfl ?_
    show Steps p.tables e below (s₁.setTop (mkF m 5 #[.val (.int (1 : Int32)), .val (.int (1 : Int32)), .val (.int (0 : Int32))] [(.int (1 : Int32))])) _
    refine XS.ifNo X0.here hx rfl (hb hby own_d2_5) rfl (by decide) ?_
    show Steps p.tables e below (s₁.setTop (mkF m 8 #[.val (.int (1 : Int32)), .val (.int (1 : Int32)), .val (.int (0 : Int32))] [])) _
    refine XS.iloadN X0.here hx rfl (hb hby own_d2_8) rfl ?_
    show Steps p.tables e below (s₁.setTop (mkF m 9 #[.val (.int (1 : Int32)), .val (.int (1 : Int32)), .val (.int (0 : Int32))] [(.int (0 : Int32))])) _
    refine XS.ifYes X0.here hx rfl (pc0 := 9) (pc' := 16) rfl (hb hby own_d2_9) rfl (by decide) (by decide) (by decide) ?_
    show Steps p.tables e below (s₁.setTop (mkF m 16 #[.val (.int (1 : Int32)), .val (.int (1 : Int32)), .val (.int (0 : Int32))] [])) _
    refine st1 _ ?_
    show Steps p.tables e below (T1.setTop (mkF m 19 #[.val (.int (1 : Int32)), .val (.int (1 : Int32)), .val (.int (0 : Int32))] [(.ref wSUBJECT_PREDICATE)])) _
    jvm_step X1.here [X1.here.top, hx, (hb hby own_d2_19), X1.method', Bd.returns, Value.isRef, FieldType.isReference]
    first | (intro acts; rw [hr _ acts rfl rfl rfl]) | rw [hr _ _ rfl rfl rfl]
    exact Steps.refl _
  · show OwnQ _ h0 n0 _ T1.heap _
    exact ⟨rfl, N0, e1⟩
set_option maxRecDepth 65536 in
set_option maxHeartbeats 40000000 in
theorem own_law_3 (l : Launch) (Z : State) (a0 : Array Value) (hw : ∀ d ∈ tables_1, d.before a0 Z = true) (ws : List Jvm.Cond) (wKINDS : Addr) (wSUBJECT_PREDICATE_OBJECT : Addr) (wSUBJECT_PREDICATE : Addr) (wSUBJECT_OBJECT : Addr) (wPREDICATE_OBJECT : Addr) (wSUBJECT : Addr) (wPREDICATE : Addr) (wOBJECT : Addr) (kKINDS : ClassId) (G : OwnG Z wKINDS wSUBJECT_PREDICATE_OBJECT wSUBJECT_PREDICATE wSUBJECT_OBJECT wPREDICATE_OBJECT wSUBJECT wPREDICATE wOBJECT kKINDS) (h0 : Heap) (n0 : Nat) (O0 : Old Z n0 h0) (p1 : Int32) (h1 : ¬ ((p1 &&& (1 : Int32)) = (0 : Int32))) (h2 : ¬ ((p1 &&& (2 : Int32)) = (0 : Int32))) (h4 : (p1 &&& (4 : Int32)) = (0 : Int32)) :
    MetFree l x (head1 (Jvm.Cond.code x code maxLocals ret :: ws) room_1) (fun a U => a = #[(.int p1)] ∧ Z.Warmed39 U.vm ∧ U.heap = h0) (fun _ _ _ _ _ => True) (fun _ U o U' => ∃ v L, o = .returned v ∧ (v = some (.int 1) ∧ Fr n0 L) ∧ FrameEnd U o U' L room_1.cells room_1.slots) := by
  refine MetFree.of_bodySF (plainFor_of_name own_pn_0) hisR ?_
  intro p e s m args below meth c s₁ Bd hml0 hP hK
  obtain ⟨rfl, hZ, hh⟩ := hP
  have hx := Bd.exec
  have hby := Bd.bytes
  have hml : c.maxLocals = 5 := hml0
  have hown : s.vm.findClass "com/example/quadrille/quadrille/graphfilter/PatternKindKeepingPinLaw" = some m.cls := findClass_of_methodNamed Bd.named
  have hnm := (name_of_methodNamed Bd.named Bd.method).1
  have X0 : Stand p l e room_1 s m #[(.int p1)] below meth c s₁ [] 0 0 := Stand.of_body Bd
  have e0 : s₁.heap = h0 := by rw [← hh, Bd.state]; rfl
  have N0 := Fr.nil n0
  have pre0 : ∀ t, Steps p.tables e below (s₁.setTop (mkF m 0 #[.val (.int p1), .unset, .unset, .unset, .unset] [])) t → Steps p.tables e below (s₁.setTop (entryFrame m #[(.int p1)] maxLocals)) t := fun t k => castTop (own_ef_0_I m p1) k
  obtain ⟨_, _, ⟨T1, L1, k1, n1⟩, -, X1, ⟨Lc1, hQ1, l1, y1, z1⟩, st1⟩ := Jvm.LawKit.callS X0 hx (y := (⟨"com/example/quadrille/quadrille/graphfilter/PatternKind", "keeping", "(ZZZ)Lcom/example/quadrille/quadrille/graphfilter/PatternKind;"⟩ : MethodName)) hown (mvT hZ (hw _ (List.mem_of_getElem? (i := 0) rfl))) (mvT hZ (hw _ (List.mem_of_getElem? (i := 1) rfl))) (mvT hZ (hw _ (List.mem_of_getElem? (i := 2) rfl))) (mvT hZ (hw _ (List.mem_of_getElem? (i := 3) rfl))) (by decide) (backOf (W := 0) (own_keeping_6 l Z a0 hw [] wKINDS wSUBJECT_PREDICATE_OBJECT wSUBJECT_PREDICATE wSUBJECT_OBJECT wPREDICATE_OBJECT wSUBJECT wPREDICATE wOBJECT kKINDS G h0 n0 O0) hZ (hw _ (List.mem_of_getElem? (i := 3) rfl)) (hw _ (List.mem_of_getElem? (i := 2) rfl)) (by decide) (by decide)) (g := (mkF m 39 #[.val (.int p1), .val (.int (1 : Int32)), .val (.int (1 : Int32)), .val (.int (0 : Int32)), .unset] [(.int (0 : Int32)), (.int (1 : Int32)), (.int (1 : Int32))])) rfl (by rw [hml]; rfl) (argsL := [(.int (1 : Int32)), (.int (1 : Int32)), (.int (0 : Int32))]) (rest := []) (lenOf own_pd_0 rfl) rfl (by show 2 * 0 + _ ≤ _; exact Nat.le_of_eq rfl) (hb hby at_39) (fun _ _ => ⟨rfl, e0, (by decide : 0 + 0 ≤ _), (by decide : 0 + 0 ≤ _)⟩)
  dsimp only [Pt.U, Pt.locs, Pt.cells, Pt.slots] at X1 l1 y1 z1 st1 hQ1
  subst l1 y1 z1
  obtain ⟨rfl, N1q, e1⟩ := hQ1
  have N1 := Fr.app N0 N1q
  obtain ⟨_, _, ⟨T2, L2, k2, n2⟩, -, X2, ⟨Lc2, hQ2, l2, y2, z2⟩, st2⟩ := Jvm.LawKit.callS X1 hx (y := (⟨"com/example/quadrille/quadrille/graphfilter/PatternKindKeepingPinLaw", "expected", "(ZZZ)Lcom/example/quadrille/quadrille/graphfilter/PatternKind;"⟩ : MethodName)) hown (mvT hZ (hw _ (List.mem_of_getElem? (i := 19) rfl))) (mvT hZ (hw _ (List.mem_of_getElem? (i := 20) rfl))) (mvT hZ (hw _ (List.mem_of_getElem? (i := 21) rfl))) (mvT hZ (hw _ (List.mem_of_getElem? (i := 22) rfl))) (by decide) (backOf (W := 1) (own_expected_7 l Z a0 hw [] wKINDS wSUBJECT_PREDICATE_OBJECT wSUBJECT_PREDICATE wSUBJECT_OBJECT wPREDICATE_OBJECT wSUBJECT wPREDICATE wOBJECT kKINDS G h0 n0 O0) hZ (hw _ (List.mem_of_getElem? (i := 22) rfl)) (hw _ (List.mem_of_getElem? (i := 21) rfl)) (by decide) (by decide)) (g := (mkF m 49 #[.val (.int p1), .val (.int (1 : Int32)), .val (.int (1 : Int32)), .val (.int (0 : Int32)), .val (.ref wSUBJECT_PREDICATE)] [(.int (0 : Int32)), (.int (1 : Int32)), (.int (1 : Int32)), (.ref wSUBJECT_PREDICATE)])) rfl (by rw [hml]; rfl) (argsL := [(.int (1 : Int32)), (.int (1 : Int32)), (.int (0 : Int32))]) (rest := [(.ref wSUBJECT_PREDICATE)]) (lenOf own_pd_0 rfl) rfl (by show 2 * 0 + _ ≤ _; exact Nat.le_of_eq rfl) (hb hby at_49) (fun _ _ => ⟨rfl, e1, (by decide : 0 + 0 ≤ _), (by decide : 0 + 0 ≤ _)⟩)
  dsimp only [Pt.U, Pt.locs, Pt.cells, Pt.slots] at X2 l2 y2 z2 st2 hQ2
  subst l2 y2 z2
  obtain ⟨rfl, N2q, e2⟩ := hQ2
  have N2 := Fr.app N1 N2q
  obtain ⟨fs, hr, hrun, hended, hW, hsame⟩ := X2.leave (v := some (.int (1 : Int32))) (fun h => by rw [Bd.returns] at h; cases h)
  refine ⟨_, _, pre0 _ ?_, hrun, hended, _, _, rfl, ?_, ⟨_, rfl⟩, hW, hsame.mono (by decide) (by decide)⟩
  · show Steps p.tables e below (s₁.setTop (mkF m 0 #[.val (.int p1), .unset, .unset, .unset, .unset] [])) _
    refine XS.iloadN X0.here hx rfl (hb hby at_0) rfl ?_
    show Steps p.tables e below (s₁.setTop (mkF m 1 #[.val (.int p1), .unset, .unset, .unset, .unset] [(.int p1)])) _
    refine XS.iconst X0.here hx rfl (hb hby at_1) ?_
    show Steps p.tables e below (s₁.setTop (mkF m 2 #[.val (.int p1), .unset, .unset, .unset, .unset] [(.int (1 : Int32)), (.int p1)])) _
    refine XS.iand X0.here hx rfl (hb hby at_2) rfl ?_
    show Steps p.tables e below (s₁.setTop (mkF m 3 #[.val (.int p1), .unset, .unset, .unset, .unset] [(.int (p1 &&& (1 : Int32)))])) _
    refine XS.ifNo X0.here hx rfl (hb hby at_3) rfl ((if0 _ _).trans (feq (h1 : ¬ ((p1 &&& (1 : Int32)) = (0 : Int32)))).1) ?_
    show Steps p.tables e below (s₁.setTop (mkF m 6 #[.val (.int p1), .unset, .unset, .unset, .unset] [])) _
    refine XS.iconst X0.here hx rfl (hb hby at_6) ?_
    show Steps p.tables e below (s₁.setTop (mkF m 7 #[.val (.int p1), .unset, .unset, .unset, .unset] [(.int (1 : Int32))])) _
    refine XS.goto X0.here hx rfl (pc0 := 7) (pc' := 11) rfl (hb hby at_7) (by decide) (by decide) ?_
    show Steps p.tables e below (s₁.setTop (mkF m 11 #[.val (.int p1), .unset, .unset, .unset, .unset] [(.int (1 : Int32))])) _
    refine XS.istoreN X0.here hx rfl (hb hby at_11) rfl (l' := #[.val (.int p1), .val (.int (1 : Int32)), .unset, .unset, .unset]) rfl ?_
    show Steps p.tables e below (s₁.setTop (mkF m 12 #[.val (.int p1), .val (.int (1 : Int32)), .unset, .unset, .unset] [])) _
    refine XS.iloadN X0.here hx rfl (hb hby at_12) rfl ?_
    show Steps p.tables e below (s₁.setTop (mkF m 13 #[.val (.int p1), .val (.int (1 : Int32)), .unset, .unset, .unset] [(.int p1)])) _
    refine XS.iconst X0.here hx rfl (hb hby at_13) ?_
    show Steps p.tables e below (s₁.setTop (mkF m 14 #[.val (.int p1), .val (.int (1 : Int32)), .unset, .unset, .unset] [(.int (2 : Int32)), (.int p1)])) _
    refine XS.iand X0.here hx rfl (hb hby at_14) rfl ?_
    show Steps p.tables e below (s₁.setTop (mkF m 15 #[.val (.int p1), .val (.int (1 : Int32)), .unset, .unset, .unset] [(.int (p1 &&& (2 : Int32)))])) _
    refine XS.ifNo X0.here hx rfl (hb hby at_15) rfl ((if0 _ _).trans (feq (h2 : ¬ ((p1 &&& (2 : Int32)) = (0 : Int32)))).1) ?_
    show Steps p.tables e below (s₁.setTop (mkF m 18 #[.val (.int p1), .val (.int (1 : Int32)), .unset, .unset, .unset] [])) _
    refine XS.iconst X0.here hx rfl (hb hby at_18) ?_
    show Steps p.tables e below (s₁.setTop (mkF m 19 #[.val (.int p1), .val (.int (1 : Int32)), .unset, .unset, .unset] [(.int (1 : Int32))])) _
    refine XS.goto X0.here hx rfl (pc0 := 19) (pc' := 23) rfl (hb hby at_19) (by decide) (by decide) ?_
    show Steps p.tables e below (s₁.setTop (mkF m 23 #[.val (.int p1), .val (.int (1 : Int32)), .unset, .unset, .unset] [(.int (1 : Int32))])) _
    refine XS.istoreN X0.here hx rfl (hb hby at_23) rfl (l' := #[.val (.int p1), .val (.int (1 : Int32)), .val (.int (1 : Int32)), .unset, .unset]) rfl ?_
    show Steps p.tables e below (s₁.setTop (mkF m 24 #[.val (.int p1), .val (.int (1 : Int32)), .val (.int (1 : Int32)), .unset, .unset] [])) _
    refine XS.iloadN X0.here hx rfl (hb hby at_24) rfl ?_
    show Steps p.tables e below (s₁.setTop (mkF m 25 #[.val (.int p1), .val (.int (1 : Int32)), .val (.int (1 : Int32)), .unset, .unset] [(.int p1)])) _
    refine XS.iconst X0.here hx rfl (hb hby at_25) ?_
    show Steps p.tables e below (s₁.setTop (mkF m 26 #[.val (.int p1), .val (.int (1 : Int32)), .val (.int (1 : Int32)), .unset, .unset] [(.int (4 : Int32)), (.int p1)])) _
    refine XS.iand X0.here hx rfl (hb hby at_26) rfl ?_
    show Steps p.tables e below (s₁.setTop (mkF m 27 #[.val (.int p1), .val (.int (1 : Int32)), .val (.int (1 : Int32)), .unset, .unset] [(.int (p1 &&& (4 : Int32)))])) _
    refine XS.ifYes X0.here hx rfl (pc0 := 27) (pc' := 34) rfl (hb hby at_27) rfl ((if0 _ _).trans (teq (h4 : (p1 &&& (4 : Int32)) = (0 : Int32))).1) (by decide) (by decide) ?_
    show Steps p.tables e below (s₁.setTop (mkF m 34 #[.val (.int p1), .val (.int (1 : Int32)), .val (.int (1 : Int32)), .unset, .unset] [])) _
    refine XS.iconst X0.here hx rfl (hb hby at_34) ?_
    show Steps p.tables e below (s₁.setTop (mkF m 35 #[.val (.int p1), .val (.int (1 : Int32)), .val (.int (1 : Int32)), .unset, .unset] [(.int (0 : Int32))])) _
    refine XS.istoreN X0.here hx rfl (hb hby at_35) rfl (l' := #[.val (.int p1), .val (.int (1 : Int32)), .val (.int (1 : Int32)), .val (.int (0 : Int32)), .unset]) rfl ?_
    show Steps p.tables e below (s₁.setTop (mkF m 36 #[.val (.int p1), .val (.int (1 : Int32)), .val (.int (1 : Int32)), .val (.int (0 : Int32)), .unset] [])) _
    refine XS.iloadN X0.here hx rfl (hb hby at_36) rfl ?_
    show Steps p.tables e below (s₁.setTop (mkF m 37 #[.val (.int p1), .val (.int (1 : Int32)), .val (.int (1 : Int32)), .val (.int (0 : Int32)), .unset] [(.int (1 : Int32))])) _
    refine XS.iloadN X0.here hx rfl (hb hby at_37) rfl ?_
    show Steps p.tables e below (s₁.setTop (mkF m 38 #[.val (.int p1), .val (.int (1 : Int32)), .val (.int (1 : Int32)), .val (.int (0 : Int32)), .unset] [(.int (1 : Int32)), (.int (1 : Int32))])) _
    refine XS.iloadN X0.here hx rfl (hb hby at_38) rfl ?_
    show Steps p.tables e below (s₁.setTop (mkF m 39 #[.val (.int p1), .val (.int (1 : Int32)), .val (.int (1 : Int32)), .val (.int (0 : Int32)), .unset] [(.int (0 : Int32)), (.int (1 : Int32)), (.int (1 : Int32))])) _
    refine st1 _ ?_
    show Steps p.tables e below (T1.setTop (mkF m 42 #[.val (.int p1), .val (.int (1 : Int32)), .val (.int (1 : Int32)), .val (.int (0 : Int32)), .unset] [(.ref wSUBJECT_PREDICATE)])) _
    refine XS.astore X1.here hx rfl (hb hby at_42) rfl rfl (l' := #[.val (.int p1), .val (.int (1 : Int32)), .val (.int (1 : Int32)), .val (.int (0 : Int32)), .val (.ref wSUBJECT_PREDICATE)]) rfl ?_
    show Steps p.tables e below (T1.setTop (mkF m 44 #[.val (.int p1), .val (.int (1 : Int32)), .val (.int (1 : Int32)), .val (.int (0 : Int32)), .val (.ref wSUBJECT_PREDICATE)] [])) _
    refine XS.aload X1.here hx rfl (hb hby at_44) rfl rfl ?_
    show Steps p.tables e below (T1.setTop (mkF m 46 #[.val (.int p1), .val (.int (1 : Int32)), .val (.int (1 : Int32)), .val (.int (0 : Int32)), .val (.ref wSUBJECT_PREDICATE)] [(.ref wSUBJECT_PREDICATE)])) _
    refine XS.iloadN X1.here hx rfl (hb hby at_46) rfl ?_
    show Steps p.tables e below (T1.setTop (mkF m 47 #[.val (.int p1), .val (.int (1 : Int32)), .val (.int (1 : Int32)), .val (.int (0 : Int32)), .val (.ref wSUBJECT_PREDICATE)] [(.int (1 : Int32)), (.ref wSUBJECT_PREDICATE)])) _
    refine XS.iloadN X1.here hx rfl (hb hby at_47) rfl ?_
    show Steps p.tables e below (T1.setTop (mkF m 48 #[.val (.int p1), .val (.int (1 : Int32)), .val (.int (1 : Int32)), .val (.int (0 : Int32)), .val (.ref wSUBJECT_PREDICATE)] [(.int (1 : Int32)), (.int (1 : Int32)), (.ref wSUBJECT_PREDICATE)])) _
    refine XS.iloadN X1.here hx rfl (hb hby at_48) rfl ?_
    show Steps p.tables e below (T1.setTop (mkF m 49 #[.val (.int p1), .val (.int (1 : Int32)), .val (.int (1 : Int32)), .val (.int (0 : Int32)), .val (.ref wSUBJECT_PREDICATE)] [(.int (0 : Int32)), (.int (1 : Int32)), (.int (1 : Int32)), (.ref wSUBJECT_PREDICATE)])) _
    refine st2 _ ?_
    show Steps p.tables e below (T2.setTop (mkF m 52 #[.val (.int p1), .val (.int (1 : Int32)), .val (.int (1 : Int32)), .val (.int (0 : Int32)), .val (.ref wSUBJECT_PREDICATE)] [(.ref wSUBJECT_PREDICATE), (.ref wSUBJECT_PREDICATE)])) _
    refine Jvm.RoadKit.acmp (g := (mkF m 52 #[.val (.int p1), .val (.int (1 : Int32)), .val (.int (1 : Int32)), .val (.int (0 : Int32)), .val (.ref wSUBJECT_PREDICATE)] [(.ref wSUBJECT_PREDICATE), (.ref wSUBJECT_PREDICATE)])) X2 hx rfl rfl rfl (pc0 := 52) (pc' := 55) (same := true) rfl (hb hby at_52) rfl (decide_eq_true rfl) (by decide) (by decide) ?_
    show Steps p.tables e below (T2.setTop (mkF m 55 #[.val (.int p1), .val (.int (1 : Int32)), .val (.int (1 : Int32)), .val (.int (0 : Int32)), .val (.ref wSUBJECT_PREDICATE)] [])) _
    refine XS.iconst X2.here hx rfl (hb hby at_55) ?_
    show Steps p.tables e below (T2.setTop (mkF m 56 #[.val (.int p1), .val (.int (1 : Int32)), .val (.int (1 : Int32)), .val (.int (0 : Int32)), .val (.ref wSUBJECT_PREDICATE)] [(.int (1 : Int32))])) _
    refine XS.goto X2.here hx rfl (pc0 := 56) (pc' := 60) rfl (hb hby at_56) (by decide) (by decide) ?_
    show Steps p.tables e below (T2.setTop (mkF m 60 #[.val (.int p1), .val (.int (1 : Int32)), .val (.int (1 : Int32)), .val (.int (0 : Int32)), .val (.ref wSUBJECT_PREDICATE)] [(.int (1 : Int32))])) _
    exact retN X2 hx (t := .boolean) Bd.returns (by simp) (hb hby at_60) hr
  · exact ⟨rfl, N2⟩
set_option maxRecDepth 65536 in
set_option maxHeartbeats 40000000 in
theorem own_keeping_8 (l : Launch) (Z : State) (a0 : Array Value) (hw : ∀ d ∈ tables_1, d.before a0 Z = true) (ws : List Jvm.Cond) (wKINDS : Addr) (wSUBJECT_PREDICATE_OBJECT : Addr) (wSUBJECT_PREDICATE : Addr) (wSUBJECT_OBJECT : Addr) (wPREDICATE_OBJECT : Addr) (wSUBJECT : Addr) (wPREDICATE : Addr) (wOBJECT : Addr) (kKINDS : ClassId) (G : OwnG Z wKINDS wSUBJECT_PREDICATE_OBJECT wSUBJECT_PREDICATE wSUBJECT_OBJECT wPREDICATE_OBJECT wSUBJECT wPREDICATE wOBJECT kKINDS) (h0 : Heap) (n0 : Nat) (O0 : Old Z n0 h0) :
    MetFree l (⟨"com/example/quadrille/quadrille/graphfilter/PatternKind", "keeping", "(ZZZ)Lcom/example/quadrille/quadrille/graphfilter/PatternKind;"⟩ : MethodName) (head1 (Jvm.Cond.code (⟨"com/example/quadrille/quadrille/graphfilter/PatternKind", "keeping", "(ZZZ)Lcom/example/quadrille/quadrille/graphfilter/PatternKind;"⟩ : MethodName) prog_67_method_4_code 8 (some (.object "com/example/quadrille/quadrille/graphfilter/PatternKind")) :: ws) ({ frames := 0, cells := 0, slots := 0, locals := 0 } : Room)) (fun a U => a = #[(.int (0 : Int32)), (.int (0 : Int32)), (.int (1 : Int32))] ∧ Z.Warmed39 U.vm ∧ U.heap = h0) (fun _ _ _ _ _ => True) (fun _ U o U' => ∃ v L, o = .returned v ∧ OwnQ (some (.ref wOBJECT)) h0 n0 v U'.heap L ∧ FrameEnd U o U' L ({ frames := 0, cells := 0, slots := 0, locals := 0 } : Room).cells ({ frames := 0, cells := 0, slots := 0, locals := 0 } : Room).slots) := by
  refine MetFree.of_bodySF (plainFor_of_name own_pn_1) hisR ?_
  intro p e s m args below meth c s₁ Bd hml0 hP hK
  obtain ⟨rfl, hZ, hh⟩ := hP
  have hx := Bd.exec
  have hby := Bd.bytes
  have hml : c.maxLocals = 8 := hml0
  have hown : s.vm.findClass "com/example/quadrille/quadrille/graphfilter/PatternKind" = some m.cls := findClass_of_methodNamed Bd.named
  have hnm := (name_of_methodNamed Bd.named Bd.method).1
  have X0 : Stand p l e ({ frames := 0, cells := 0, slots := 0, locals := 0 } : Room) s m #[(.int (0 : Int32)), (.int (0 : Int32)), (.int (1 : Int32))] below meth c s₁ [] 0 0 := Stand.of_body Bd
  have e0 : s₁.heap = h0 := by rw [← hh, Bd.state]; rfl
  have N0 := Fr.nil n0
  have pre0 : ∀ t, Steps p.tables e below (s₁.setTop (mkF m 0 #[.val (.int (0 : Int32)), .val (.int (0 : Int32)), .val (.int (1 : Int32)), .unset, .unset, .unset, .unset, .unset] [])) t → Steps p.tables e below (s₁.setTop (entryFrame m #[(.int (0 : Int32)), (.int (0 : Int32)), (.int (1 : Int32))] 8)) t := fun t k => castTop (own_ef_1_III m (0 : Int32) (0 : Int32) (1 : Int32)) k
  obtain ⟨T1, X1, e1, st1⟩ := getS2 X0 hx hZ hown (host := "") (Or.inl (hw _ (List.mem_of_getElem? (i := 4) rfl))) Via.refl e0 (G.1.ext O0.2) (g := (mkF m 2 #[.val (.int (0 : Int32)), .val (.int (0 : Int32)), .val (.int (1 : Int32)), .val .null, .unset, .unset, .unset, .unset] [])) rfl (hb hby own_d1_2)
  obtain ⟨cl2, Ar2, qk2, Sz2, Nn2, Hs2, Gs2⟩ := id ((G.2.2.2.2.2.2.2.2.2.2.2.2.2.2.2.2.2.2.2.2.2.2.2.2.2.2.2.2.2.2.2.2.2.2.2.2.1.ext O0.2))
  have hin3 : ¬ ((0 : Int32) < 0 ∨ cl2.slots.size ≤ ((0 : Int32)).toNatClampNeg) := inb_of Sz2 ⟨by decide, by decide⟩
  have hat3 : cl2.slots[((0 : Int32)).toNatClampNeg]? = some (.ref wSUBJECT_PREDICATE_OBJECT) := Hs2.at hin3 rfl
  obtain ⟨T4, X4, e4, st4⟩ := getF X1 hx hZ hown (host := "") (Or.inl (hw _ (List.mem_of_getElem? (i := 7) rfl))) Via.refl e1 (G.2.2.2.2.2.2.2.2.2.2.2.2.2.2.2.1.ext O0.2) (g := (mkF m 31 #[.val (.int (0 : Int32)), .val (.int (0 : Int32)), .val (.int (1 : Int32)), .val .null, .val (.ref wKINDS), .val (.int (7 : Int32)), .val (.int (0 : Int32)), .val (.ref wSUBJECT_PREDICATE_OBJECT)] [(.ref wSUBJECT_PREDICATE_OBJECT)])) rfl rfl (hb hby own_d1_31)
  have hin5 : ¬ ((1 : Int32) < 0 ∨ cl2.slots.size ≤ ((1 : Int32)).toNatClampNeg) := inb_of Sz2 ⟨by decide, by decide⟩
  have hat5 : cl2.slots[((1 : Int32)).toNatClampNeg]? = some (.ref wSUBJECT_PREDICATE) := Hs2.at hin5 rfl
  obtain ⟨T6, X6, e6, st6⟩ := getF X4 hx hZ hown (host := "") (Or.inl (hw _ (List.mem_of_getElem? (i := 7) rfl))) Via.refl e4 (G.2.2.2.2.2.2.2.2.2.2.2.2.2.2.2.2.1.ext O0.2) (g := (mkF m 31 #[.val (.int (0 : Int32)), .val (.int (0 : Int32)), .val (.int (1 : Int32)), .val .null, .val (.ref wKINDS), .val (.int (7 : Int32)), .val (.int (1 : Int32)), .val (.ref wSUBJECT_PREDICATE)] [(.ref wSUBJECT_PREDICATE)])) rfl rfl (hb hby own_d1_31)
  have hin7 : ¬ ((2 : Int32) < 0 ∨ cl2.slots.size ≤ ((2 : Int32)).toNatClampNeg) := inb_of Sz2 ⟨by decide, by decide⟩
  have hat7 : cl2.slots[((2 : Int32)).toNatClampNeg]? = some (.ref wSUBJECT_OBJECT) := Hs2.at hin7 rfl
  obtain ⟨T8, X8, e8, st8⟩ := getF X6 hx hZ hown (host := "") (Or.inl (hw _ (List.mem_of_getElem? (i := 7) rfl))) Via.refl e6 (G.2.2.2.2.2.2.2.2.2.2.2.2.2.2.2.2.2.1.ext O0.2) (g := (mkF m 31 #[.val (.int (0 : Int32)), .val (.int (0 : Int32)), .val (.int (1 : Int32)), .val .null, .val (.ref wKINDS), .val (.int (7 : Int32)), .val (.int (2 : Int32)), .val (.ref wSUBJECT_OBJECT)] [(.ref wSUBJECT_OBJECT)])) rfl rfl (hb hby own_d1_31)
  have hin9 : ¬ ((3 : Int32) < 0 ∨ cl2.slots.size ≤ ((3 : Int32)).toNatClampNeg) := inb_of Sz2 ⟨by decide, by decide⟩
  have hat9 : cl2.slots[((3 : Int32)).toNatClampNeg]? = some (.ref wPREDICATE_OBJECT) := Hs2.at hin9 rfl
  obtain ⟨T10, X10, e10, st10⟩ := getF X8 hx hZ hown (host := "") (Or.inl (hw _ (List.mem_of_getElem? (i := 7) rfl))) Via.refl e8 (G.2.2.2.2.2.2.2.2.2.2.2.2.2.2.2.2.2.2.1.ext O0.2) (g := (mkF m 31 #[.val (.int (0 : Int32)), .val (.int (0 : Int32)), .val (.int (1 : Int32)), .val .null, .val (.ref wKINDS), .val (.int (7 : Int32)), .val (.int (3 : Int32)), .val (.ref wPREDICATE_OBJECT)] [(.ref wPREDICATE_OBJECT)])) rfl rfl (hb hby own_d1_31)
  obtain ⟨T11, X11, e11, st11⟩ := getF X10 hx hZ hown (host := "") (Or.inl (hw _ (List.mem_of_getElem? (i := 12) rfl))) Via.refl e10 (G.2.2.2.2.2.2.2.2.2.2.2.2.2.2.2.2.2.2.2.1.ext O0.2) (g := (mkF m 40 #[.val (.int (0 : Int32)), .val (.int (0 : Int32)), .val (.int (1 : Int32)), .val .null, .val (.ref wKINDS), .val (.int (7 : Int32)), .val (.int (3 : Int32)), .val (.ref wPREDICATE_OBJECT)] [(.ref wPREDICATE_OBJECT)])) rfl rfl (hb hby own_d1_40)
  have hin12 : ¬ ((4 : Int32) < 0 ∨ cl2.slots.size ≤ ((4 : Int32)).toNatClampNeg) := inb_of Sz2 ⟨by decide, by decide⟩
  have hat12 : cl2.slots[((4 : Int32)).toNatClampNeg]? = some (.ref wSUBJECT) := Hs2.at hin12 rfl
  obtain ⟨T13, X13, e13, st13⟩ := getF X11 hx hZ hown (host := "") (Or.inl (hw _ (List.mem_of_getElem? (i := 7) rfl))) Via.refl e11 (G.2.2.2.2.2.2.2.2.2.2.2.2.2.2.2.2.2.2.2.2.1.ext O0.2) (g := (mkF m 31 #[.val (.int (0 : Int32)), .val (.int (0 : Int32)), .val (.int (1 : Int32)), .val .null, .val (.ref wKINDS), .val (.int (7 : Int32)), .val (.int (4 : Int32)), .val (.ref wSUBJECT)] [(.ref wSUBJECT)])) rfl rfl (hb hby own_d1_31)
  have hin14 : ¬ ((5 : Int32) < 0 ∨ cl2.slots.size ≤ ((5 : Int32)).toNatClampNeg) := inb_of Sz2 ⟨by decide, by decide⟩
  have hat14 : cl2.slots[((5 : Int32)).toNatClampNeg]? = some (.ref wPREDICATE) := Hs2.at hin14 rfl
  obtain ⟨T15, X15, e15, st15⟩ := getF X13 hx hZ hown (host := "") (Or.inl (hw _ (List.mem_of_getElem? (i := 7) rfl))) Via.refl e13 (G.2.2.2.2.2.2.2.2.2.2.2.2.2.2.2.2.2.2.2.2.2.1.ext O0.2) (g := (mkF m 31 #[.val (.int (0 : Int32)), .val (.int (0 : Int32)), .val (.int (1 : Int32)), .val .null, .val (.ref wKINDS), .val (.int (7 : Int32)), .val (.int (5 : Int32)), .val (.ref wPREDICATE)] [(.ref wPREDICATE)])) rfl rfl (hb hby own_d1_31)
  obtain ⟨T16, X16, e16, st16⟩ := getF X15 hx hZ hown (host := "") (Or.inl (hw _ (List.mem_of_getElem? (i := 12) rfl))) Via.refl e15 (G.2.2.2.2.2.2.2.2.2.2.2.2.2.2.2.2.2.2.2.2.2.2.1.ext O0.2) (g := (mkF m 40 #[.val (.int (0 : Int32)), .val (.int (0 : Int32)), .val (.int (1 : Int32)), .val .null, .val (.ref wKINDS), .val (.int (7 : Int32)), .val (.int (5 : Int32)), .val (.ref wPREDICATE)] [(.ref wPREDICATE)])) rfl rfl (hb hby own_d1_40)
  have hin17 : ¬ ((6 : Int32) < 0 ∨ cl2.slots.size ≤ ((6 : Int32)).toNatClampNeg) := inb_of Sz2 ⟨by decide, by decide⟩
  have hat17 : cl2.slots[((6 : Int32)).toNatClampNeg]? = some (.ref wOBJECT) := Hs2.at hin17 rfl
  obtain ⟨T18, X18, e18, st18⟩ := getF X16 hx hZ hown (host := "") (Or.inl (hw _ (List.mem_of_getElem? (i := 7) rfl))) Via.refl e16 (G.2.2.2.2.2.2.2.2.2.2.2.2.2.2.2.2.2.2.2.2.2.2.2.1.ext O0.2) (g := (mkF m 31 #[.val (.int (0 : Int32)), .val (.int (0 : Int32)), .val (.int (1 : Int32)), .val .null, .val (.ref wKINDS), .val (.int (7 : Int32)), .val (.int (6 : Int32)), .val (.ref wOBJECT)] [(.ref wOBJECT)])) rfl rfl (hb hby own_d1_31)
  obtain ⟨T19, X19, e19, st19⟩ := getF X18 hx hZ hown (host := "") (Or.inl (hw _ (List.mem_of_getElem? (i := 12) rfl))) Via.refl e18 (G.2.2.2.2.2.2.2.2.2.2.2.2.2.2.2.2.2.2.2.2.2.2.2.2.1.ext O0.2) (g := (mkF m 40 #[.val (.int (0 : Int32)), .val (.int (0 : Int32)), .val (.int (1 : Int32)), .val .null, .val (.ref wKINDS), .val (.int (7 : Int32)), .val (.int (6 : Int32)), .val (.ref wOBJECT)] [(.ref wOBJECT)])) rfl rfl (hb hby own_d1_40)
  obtain ⟨T20, X20, e20, st20⟩ := getF X19 hx hZ hown (host := "") (Or.inl (hw _ (List.mem_of_getElem? (i := 17) rfl))) Via.refl e19 (G.2.2.2.2.2.2.2.2.2.2.2.2.2.2.2.2.2.2.2.2.2.2.2.2.2.1.ext O0.2) (g := (mkF m 49 #[.val (.int (0 : Int32)), .val (.int (0 : Int32)), .val (.int (1 : Int32)), .val .null, .val (.ref wKINDS), .val (.int (7 : Int32)), .val (.int (6 : Int32)), .val (.ref wOBJECT)] [(.ref wOBJECT)])) rfl rfl (hb hby own_d1_49)
  obtain ⟨fs, hr, hrun, hended, hW, hsame⟩ := X20.leave (v := some (.ref wOBJECT)) (fun h => by rw [Bd.returns] at h; cases h)
  refine ⟨_, _, pre0 _ ?_, hrun, hended, _, _, rfl, ?_, ⟨_, rfl⟩, hW, hsame.mono (by decide) (by decide)⟩
  · show Steps p.tables e below (s₁.setTop (mkF m 0 #[.val (.int (0 : Int32)), .val (.int (0 : Int32)), .val (.int (1 : Int32)), .unset, .unset, .unset, .unset, .unset] [])) _
    refine XS.aconstNull X0.here hx rfl (hb hby own_d1_0) ?_
    show Steps p.tables e below (s₁.setTop (mkF m 1 #[.val (.int (0 : Int32)), .val (.int (0 : Int32)), .val (.int (1 : Int32)), .unset, .unset, .unset, .unset, .unset] [.null])) _
    refine XS.astoreN X0.here hx rfl (hb hby own_d1_1) rfl rfl (l' := #[.val (.int (0 : Int32)), .val (.int (0 : Int32)), .val (.int (1 : Int32)), .val .null, .unset, .unset, .unset, .unset]) rfl ?_
    show Steps p.tables e below (s₁.setTop (mkF m 2 #[.val (.int (0 : Int32)), .val (.int (0 : Int32)), .val (.int (1 : Int32)), .val .null, .unset, .unset, .unset, .unset] [])) _
    refine st1 _ ?_
    show Steps p.tables e below (T1.setTop (mkF m 5 #[.val (.int (0 : Int32)), .val (.int (0 : Int32)), .val (.int (1 : Int32)), .val .null, .unset, .unset, .unset, .unset] [(.ref wKINDS)])) _
    refine XS.astore X1.here hx rfl (hb hby own_d1_5) rfl rfl (l' := #[.val (.int (0 : Int32)), .val (.int (0 : Int32)), .val (.int (1 : Int32)), .val .null, .val (.ref wKINDS), .unset, .unset, .unset]) rfl ?_
    show Steps p.tables e below (T1.setTop (mkF m 7 #[.val (.int (0 : Int32)), .val (.int (0 : Int32)), .val (.int (1 : Int32)), .val .null, .val (.ref wKINDS), .unset, .unset, .unset] [])) _
    refine XS.aload X1.here hx rfl (hb hby own_d1_7) rfl rfl ?_
    show Steps p.tables e below (T1.setTop (mkF m 9 #[.val (.int (0 : Int32)), .val (.int (0 : Int32)), .val (.int (1 : Int32)), .val .null, .val (.ref wKINDS), .unset, .unset, .unset] [(.ref wKINDS)])) _
    refine X1.arraylength hx (by rw [e1]; exact Ar2.1) (State.isArrayOf_alike hZ.alike Ar2.2.1) (g := (mkF m 9 #[.val (.int (0 : Int32)), .val (.int (0 : Int32)), .val (.int (1 : Int32)), .val .null, .val (.ref wKINDS), .unset, .unset, .unset] [(.ref wKINDS)])) rfl rfl (hb hby own_d1_9) _ ?_
    rw [len_of Sz2 Nn2]
    show Steps p.tables e below (T1.setTop (mkF m 10 #[.val (.int (0 : Int32)), .val (.int (0 : Int32)), .val (.int (1 : Int32)), .val .null, .val (.ref wKINDS), .unset, .unset, .unset] [(.int (7 : Int32))])) _
    refine XS.istore X1.here hx rfl (hb hby own_d1_10) rfl (l' := #[.val (.int (0 : Int32)), .val (.int (0 : Int32)), .val (.int (1 : Int32)), .val .null, .val (.ref wKINDS), .val (.int (7 : Int32)), .unset, .unset]) rfl ?_
    show Steps p.tables e below (T1.setTop (mkF m 12 #[.val (.int (0 : Int32)), .val (.int (0 : Int32)), .val (.int (1 : Int32)), .val .null, .val (.ref wKINDS), .val (.int (7 : Int32)), .unset, .unset] [])) _
    refine XS.iconst X1.here hx rfl (hb hby own_d1_12) ?_
    show Steps p.tables e below (T1.setTop (mkF m 13 #[.val (.int (0 : Int32)), .val (.int (0 : Int32)), .val (.int (1 : Int32)), .val .null, .val (.ref wKINDS), .val (.int (7 : Int32)), .unset, .unset] [(.int (0 : Int32))])) _
    refine XS.istore X1.here hx rfl (hb hby own_d1_13) rfl (l' := #[.val (.int (0 : Int32)), .val (.int (0 : Int32)), .val (.int (1 : Int32)), .val .null, .val (.ref wKINDS), .val (.int (7 : Int32)), .val (.int (0 : Int32)), .unset]) rfl ?_
    show Steps p.tables e below (T1.setTop (mkF m 15 #[.val (.int (0 : Int32)), .val (.int (0 : Int32)), .val (.int (1 : Int32)), .val .null, .val (.ref wKINDS), .val (.int (7 : Int32)), .val (.int (0 : Int32)), .unset] [])) _
    refine XS.iload X1.here hx rfl (hb hby own_d1_15) rfl ?_
    show Steps p.tables e below (T1.setTop (mkF m 17 #[.val (.int (0 : Int32)), .val (.int (0 : Int32)), .val (.int (1 : Int32)), .val .null, .val (.ref wKINDS), .val (.int (7 : Int32)), .val (.int (0 : Int32)), .unset] [(.int (0 : Int32))])) _
    refine XS.iload X1.here hx rfl (hb hby own_d1_17) rfl ?_
    show Steps p.tables e below (T1.setTop (mkF m 19 #[.val (.int (0 : Int32)), .val (.int (0 : Int32)), .val (.int (1 : Int32)), .val .null, .val (.ref wKINDS), .val (.int (7 : Int32)), .val (.int (0 : Int32)), .unset] [(.int (7 : Int32)), (.int (0 : Int32))])) _
    refine XS.icmpNo X1.here hx rfl (hb hby own_d1_19) rfl (by decide) ?_
    show Steps p.tables e below (T1.setTop (mkF m 22 #[.val (.int (0 : Int32)), .val (.int (0 : Int32)), .val (.int (1 : Int32)), .val .null, .val (.ref wKINDS), .val (.int (7 : Int32)), .val (.int (0 : Int32)), .unset] [])) _
    refine XS.aload X1.here hx rfl (hb hby own_d1_22) rfl rfl ?_
    show Steps p.tables e below (T1.setTop (mkF m 24 #[.val (.int (0 : Int32)), .val (.int (0 : Int32)), .val (.int (1 : Int32)), .val .null, .val (.ref wKINDS), .val (.int (7 : Int32)), .val (.int (0 : Int32)), .unset] [(.ref wKINDS)])) _
    refine XS.iload X1.here hx rfl (hb hby own_d1_24) rfl ?_
    show Steps p.tables e below (T1.setTop (mkF m 26 #[.val (.int (0 : Int32)), .val (.int (0 : Int32)), .val (.int (1 : Int32)), .val .null, .val (.ref wKINDS), .val (.int (7 : Int32)), .val (.int (0 : Int32)), .unset] [(.int (0 : Int32)), (.ref wKINDS)])) _
    refine X1.aaload hx (j := (0 : Int32)) (v := (.ref wSUBJECT_PREDICATE_OBJECT)) (by rw [e1]; exact Ar2.1) (State.isArrayOf_alike hZ.alike Ar2.2.1) rfl Ar2.2.2 hin3 hat3 (g := (mkF m 26 #[.val (.int (0 : Int32)), .val (.int (0 : Int32)), .val (.int (1 : Int32)), .val .null, .val (.ref wKINDS), .val (.int (7 : Int32)), .val (.int (0 : Int32)), .unset] [(.int (0 : Int32)), (.ref wKINDS)])) rfl rfl (hb hby own_d1_26) _ ?_
    show Steps p.tables e below (T1.setTop (mkF m 27 #[.val (.int (0 : Int32)), .val (.int (0 : Int32)), .val (.int (1 : Int32)), .val .null, .val (.ref wKINDS), .val (.int (7 : Int32)), .val (.int (0 : Int32)), .unset] [(.ref wSUBJECT_PREDICATE_OBJECT)])) _
    refine XS.astore X1.here hx rfl (hb hby own_d1_27) rfl rfl (l' := #[.val (.int (0 : Int32)), .val (.int (0 : Int32)), .val (.int (1 : Int32)), .val .null, .val (.ref wKINDS), .val (.int (7 : Int32)), .val (.int (0 : Int32)), .val (.ref wSUBJECT_PREDICATE_OBJECT)]) rfl ?_
    show Steps p.tables e below (T1.setTop (mkF m 29 #[.val (.int (0 : Int32)), .val (.int (0 : Int32)), .val (.int (1 : Int32)), .val .null, .val (.ref wKINDS), .val (.int (7 : Int32)), .val (.int (0 : Int32)), .val (.ref wSUBJECT_PREDICATE_OBJECT)] [])) _
    refine XS.aload X1.here hx rfl (hb hby own_d1_29) rfl rfl ?_
    show Steps p.tables e below (T1.setTop (mkF m 31 #[.val (.int (0 : Int32)), .val (.int (0 : Int32)), .val (.int (1 : Int32)), .val .null, .val (.ref wKINDS), .val (.int (7 : Int32)), .val (.int (0 : Int32)), .val (.ref wSUBJECT_PREDICATE_OBJECT)] [(.ref wSUBJECT_PREDICATE_OBJECT)])) _
    refine st4 _ ?_
    show Steps p.tables e below (T4.setTop (mkF m 34 #[.val (.int (0 : Int32)), .val (.int (0 : Int32)), .val (.int (1 : Int32)), .val .null, .val (.ref wKINDS), .val (.int (7 : Int32)), .val (.int (0 : Int32)), .val (.ref wSUBJECT_PREDICATE_OBJECT)] [(.int (1 : Int32))])) _
    refine XS.iloadN X4.here hx rfl (hb hby own_d1_34) rfl ?_
    show Steps p.tables e below (T4.setTop (mkF m 35 #[.val (.int (0 : Int32)), .val (.int (0 : Int32)), .val (.int (1 : Int32)), .val .null, .val (.ref wKINDS), .val (.int (7 : Int32)), .val (.int (0 : Int32)), .val (.ref wSUBJECT_PREDICATE_OBJECT)] [(.int (0 : Int32)), (.int (1 : Int32))])) _
    refine XS.icmpYes X4.here hx rfl (pc0 := 35) (pc' := 59) rfl (hb hby own_d1_35) rfl (by decide) (by decide) (by decide) ?_
    show Steps p.tables e below (T4.setTop (mkF m 59 #[.val (.int (0 : Int32)), .val (.int (0 : Int32)), .val (.int (1 : Int32)), .val .null, .val (.ref wKINDS), .val (.int (7 : Int32)), .val (.int (0 : Int32)), .val (.ref wSUBJECT_PREDICATE_OBJECT)] [])) _
    refine XS.iinc X4.here hx rfl (hb hby own_d1_59) rfl (l' := #[.val (.int (0 : Int32)), .val (.int (0 : Int32)), .val (.int (1 : Int32)), .val .null, .val (.ref wKINDS), .val (.int (7 : Int32)), .val (.int (1 : Int32)), .val (.ref wSUBJECT_PREDICATE_OBJECT)]) rfl ?_
    show Steps p.tables e below (T4.setTop (mkF m 62 #[.val (.int (0 : Int32)), .val (.int (0 : Int32)), .val (.int (1 : Int32)), .val .null, .val (.ref wKINDS), .val (.int (7 : Int32)), .val (.int (1 : Int32)), .val (.ref wSUBJECT_PREDICATE_OBJECT)] [])) _
    refine XS.goto X4.here hx rfl (pc0 := 62) (pc' := 15) rfl (hb hby own_d1_62) (by decide) (by decide) ?_
    show Steps p.tables e below (T4.setTop (mkF m 15 #[.val (.int (0 : Int32)), .val (.int (0 : Int32)), .val (.int (1 : Int32)), .val .null, .val (.ref wKINDS), .val (.int (7 : Int32)), .val (.int (1 : Int32)), .val (.ref wSUBJECT_PREDICATE_OBJECT)] [])) _
    refine XS.iload X4.here hx rfl (hb hby own_d1_15) rfl ?_
    show Steps p.tables e below (T4.setTop (mkF m 17 #[.val (.int (0 : Int32)), .val (.int (0 : Int32)), .val (.int (1 : Int32)), .val .null, .val (.ref wKINDS), .val (.int (7 : Int32)), .val (.int (1 : Int32)), .val (.ref wSUBJECT_PREDICATE_OBJECT)] [(.int (1 : Int32))])) _
    refine XS.iload X4.here hx rfl (hb hby own_d1_17) rfl ?_
    show Steps p.tables e below (T4.setTop (mkF m 19 #[.val (.int (0 : Int32)), .val (.int (0 : Int32)), .val (.int (1 : Int32)), .val .null, .val (.ref wKINDS), .val (.int (7 : Int32)), .val (.int (1 : Int32)), .val (.ref wSUBJECT_PREDICATE_OBJECT)] [(.int (7 : Int32)), (.int (1 : Int32))])) _
    refine XS.icmpNo X4.here hx rfl (hb hby own_d1_19) rfl (by decide) ?_
    show Steps p.tables e below (T4.setTop (mkF m 22 #[.val (.int (0 : Int32)), .val (.int (0 : Int32)), .val (.int (1 : Int32)), .val .null, .val (.ref wKINDS), .val (.int (7 : Int32)), .val (.int (1 : Int32)), .val (.ref wSUBJECT_PREDICATE_OBJECT)] [])) _
    refine XS.aload X4.here hx rfl (hb hby own_d1_22) rfl rfl ?_
    show Steps p.tables e below (T4.setTop (mkF m 24 #[.val (.int (0 : Int32)), .val (.int (0 : Int32)), .val (.int (1 : Int32)), .val .null, .val (.ref wKINDS), .val (.int (7 : Int32)), .val (.int (1 : Int32)), .val (.ref wSUBJECT_PREDICATE_OBJECT)] [(.ref wKINDS)])) _
    refine XS.iload X4.here hx rfl (hb hby own_d1_24) rfl ?_
    show Steps p.tables e below (T4.setTop (mkF m 26 #[.val (.int (0 : Int32)), .val (.int (0 : Int32)), .val (.int (1 : Int32)), .val .null, .val (.ref wKINDS), .val (.int (7 : Int32)), .val (.int (1 : Int32)), .val (.ref wSUBJECT_PREDICATE_OBJECT)] [(.int (1 : Int32)), (.ref wKINDS)])) _
    refine X4.aaload hx (j := (1 : Int32)) (v := (.ref wSUBJECT_PREDICATE)) (by rw [e4]; exact Ar2.1) (State.isArrayOf_alike hZ.alike Ar2.2.1) rfl Ar2.2.2 hin5 hat5 (g := (mkF m 26 #[.val (.int (0 : Int32)), .val (.int (0 : Int32)), .val (.int (1 : Int32)), .val .null, .val (.ref wKINDS), .val (.int (7 : Int32)), .val (.int (1 : Int32)), .val (.ref wSUBJECT_PREDICATE_OBJECT)] [(.int (1 : Int32)), (.ref wKINDS)])) rfl rfl (hb hby own_d1_26) _ ?_
    show Steps p.tables e below (T4.setTop (mkF m 27 #[.val (.int (0 : Int32)), .val (.int (0 : Int32)), .val (.int (1 : Int32)), .val .null, .val (.ref wKINDS), .val (.int (7 : Int32)), .val (.int (1 : Int32)), .val (.ref wSUBJECT_PREDICATE_OBJECT)] [(.ref wSUBJECT_PREDICATE)])) _
    refine XS.astore X4.here hx rfl (hb hby own_d1_27) rfl rfl (l' := #[.val (.int (0 : Int32)), .val (.int (0 : Int32)), .val (.int (1 : Int32)), .val .null, .val (.ref wKINDS), .val (.int (7 : Int32)), .val (.int (1 : Int32)), .val (.ref wSUBJECT_PREDICATE)]) rfl ?_
    show Steps p.tables e below (T4.setTop (mkF m 29 #[.val (.int (0 : Int32)), .val (.int (0 : Int32)), .val (.int (1 : Int32)), .val .null, .val (.ref wKINDS), .val (.int (7 : Int32)), .val (.int (1 : Int32)), .val (.ref wSUBJECT_PREDICATE)] [])) _
    refine XS.aload X4.here hx rfl (hb hby own_d1_29) rfl rfl ?_
    show Steps p.tables e below (T4.setTop (mkF m 31 #[.val (.int (0 : Int32)), .val (.int (0 : Int32)), .val (.int (1 : Int32)), .val .null, .val (.ref wKINDS), .val (.int (7 : Int32)), .val (.int (1 : Int32)), .val (.ref wSUBJECT_PREDICATE)] [(.ref wSUBJECT_PREDICATE)])) _
    refine st6 _ ?_
    show Steps p.tables e below (T6.setTop (mkF m 34 #[.val (.int (0 : Int32)), .val (.int (0 : Int32)), .val (.int (1 : Int32)), .val .null, .val (.ref wKINDS), .val (.int (7 : Int32)), .val (.int (1 : Int32)), .val (.ref wSUBJECT_PREDICATE)] [(.int (1 : Int32))])) _
    refine XS.iloadN X6.here hx rfl (hb hby own_d1_34) rfl ?_
    show Steps p.tables e below (T6.setTop (mkF m 35 #[.val (.int (0 : Int32)), .val (.int (0 : Int32)), .val (.int (1 : Int32)), .val .null, .val (.ref wKINDS), .val (.int (7 : Int32)), .val (.int (1 : Int32)), .val (.ref wSUBJECT_PREDICATE)] [(.int (0 : Int32)), (.int (1 : Int32))])) _
    refine XS.icmpYes X6.here hx rfl (pc0 := 35) (pc' := 59) rfl (hb hby own_d1_35) rfl (by decide) (by decide) (by decide) ?_
    show Steps p.tables e below (T6.setTop (mkF m 59 #[.val (.int (0 : Int32)), .val (.int (0 : Int32)), .val (.int (1 : Int32)), .val .null, .val (.ref wKINDS), .val (.int (7 : Int32)), .val (.int (1 : Int32)), .val (.ref wSUBJECT_PREDICATE)] [])) _
    refine XS.iinc X6.here hx rfl (hb hby own_d1_59) rfl (l' := #[.val (.int (0 : Int32)), .val (.int (0 : Int32)), .val (.int (1 : Int32)), .val .null, .val (.ref wKINDS), .val (.int (7 : Int32)), .val (.int (2 : Int32)), .val (.ref wSUBJECT_PREDICATE)]) rfl ?_
    show Steps p.tables e below (T6.setTop (mkF m 62 #[.val (.int (0 : Int32)), .val (.int (0 : Int32)), .val (.int (1 : Int32)), .val .null, .val (.ref wKINDS), .val (.int (7 : Int32)), .val (.int (2 : Int32)), .val (.ref wSUBJECT_PREDICATE)] [])) _
    refine XS.goto X6.here hx rfl (pc0 := 62) (pc' := 15) rfl (hb hby own_d1_62) (by decide) (by decide) ?_
    show Steps p.tables e below (T6.setTop (mkF m 15 #[.val (.int (0 : Int32)), .val (.int (0 : Int32)), .val (.int (1 : Int32)), .val .null, .val (.ref wKINDS), .val (.int (7 : Int32)), .val (.int (2 : Int32)), .val (.ref wSUBJECT_PREDICATE)] [])) _
    refine XS.iload X6.here hx rfl (hb hby own_d1_15) rfl ?_
    show Steps p.tables e below (T6.setTop (mkF m 17 #[.val (.int (0 : Int32)), .val (.int (0 : Int32)), .val (.int (1 : Int32)), .val .null, .val (.ref wKINDS), .val (.int (7 : Int32)), .val (.int (2 : Int32)), .val (.ref wSUBJECT_PREDICATE)] [(.int (2 : Int32))])) _
    refine XS.iload X6.here hx rfl (hb hby own_d1_17) rfl ?_
    show Steps p.tables e below (T6.setTop (mkF m 19 #[.val (.int (0 : Int32)), .val (.int (0 : Int32)), .val (.int (1 : Int32)), .val .null, .val (.ref wKINDS), .val (.int (7 : Int32)), .val (.int (2 : Int32)), .val (.ref wSUBJECT_PREDICATE)] [(.int (7 : Int32)), (.int (2 : Int32))])) _
    refine XS.icmpNo X6.here hx rfl (hb hby own_d1_19) rfl (by decide) ?_
    show Steps p.tables e below (T6.setTop (mkF m 22 #[.val (.int (0 : Int32)), .val (.int (0 : Int32)), .val (.int (1 : Int32)), .val .null, .val (.ref wKINDS), .val (.int (7 : Int32)), .val (.int (2 : Int32)), .val (.ref wSUBJECT_PREDICATE)] [])) _
    refine XS.aload X6.here hx rfl (hb hby own_d1_22) rfl rfl ?_
    show Steps p.tables e below (T6.setTop (mkF m 24 #[.val (.int (0 : Int32)), .val (.int (0 : Int32)), .val (.int (1 : Int32)), .val .null, .val (.ref wKINDS), .val (.int (7 : Int32)), .val (.int (2 : Int32)), .val (.ref wSUBJECT_PREDICATE)] [(.ref wKINDS)])) _
    refine XS.iload X6.here hx rfl (hb hby own_d1_24) rfl ?_
    show Steps p.tables e below (T6.setTop (mkF m 26 #[.val (.int (0 : Int32)), .val (.int (0 : Int32)), .val (.int (1 : Int32)), .val .null, .val (.ref wKINDS), .val (.int (7 : Int32)), .val (.int (2 : Int32)), .val (.ref wSUBJECT_PREDICATE)] [(.int (2 : Int32)), (.ref wKINDS)])) _
    refine X6.aaload hx (j := (2 : Int32)) (v := (.ref wSUBJECT_OBJECT)) (by rw [e6]; exact Ar2.1) (State.isArrayOf_alike hZ.alike Ar2.2.1) rfl Ar2.2.2 hin7 hat7 (g := (mkF m 26 #[.val (.int (0 : Int32)), .val (.int (0 : Int32)), .val (.int (1 : Int32)), .val .null, .val (.ref wKINDS), .val (.int (7 : Int32)), .val (.int (2 : Int32)), .val (.ref wSUBJECT_PREDICATE)] [(.int (2 : Int32)), (.ref wKINDS)])) rfl rfl (hb hby own_d1_26) _ ?_
    show Steps p.tables e below (T6.setTop (mkF m 27 #[.val (.int (0 : Int32)), .val (.int (0 : Int32)), .val (.int (1 : Int32)), .val .null, .val (.ref wKINDS), .val (.int (7 : Int32)), .val (.int (2 : Int32)), .val (.ref wSUBJECT_PREDICATE)] [(.ref wSUBJECT_OBJECT)])) _
    refine XS.astore X6.here hx rfl (hb hby own_d1_27) rfl rfl (l' := #[.val (.int (0 : Int32)), .val (.int (0 : Int32)), .val (.int (1 : Int32)), .val .null, .val (.ref wKINDS), .val (.int (7 : Int32)), .val (.int (2 : Int32)), .val (.ref wSUBJECT_OBJECT)]) rfl ?_
    show Steps p.tables e below (T6.setTop (mkF m 29 #[.val (.int (0 : Int32)), .val (.int (0 : Int32)), .val (.int (1 : Int32)), .val .null, .val (.ref wKINDS), .val (.int (7 : Int32)), .val (.int (2 : Int32)), .val (.ref wSUBJECT_OBJECT)] [])) _
    refine XS.aload X6.here hx rfl (hb hby own_d1_29) rfl rfl ?_
    show Steps p.tables e below (T6.setTop (mkF m 31 #[.val (.int (0 : Int32)), .val (.int (0 : Int32)), .val (.int (1 : Int32)), .val .null, .val (.ref wKINDS), .val (.int (7 : Int32)), .val (.int (2 : Int32)), .val (.ref wSUBJECT_OBJECT)] [(.ref wSUBJECT_OBJECT)])) _
    refine st8 _ ?_
    show Steps p.tables e below (T8.setTop (mkF m 34 #[.val (.int (0 : Int32)), .val (.int (0 : Int32)), .val (.int (1 : Int32)), .val .null, .val (.ref wKINDS), .val (.int (7 : Int32)), .val (.int (2 : Int32)), .val (.ref wSUBJECT_OBJECT)] [(.int (1 : Int32))])) _
    refine XS.iloadN X8.here hx rfl (hb hby own_d1_34) rfl ?_
    show Steps p.tables e below (T8.setTop (mkF m 35 #[.val (.int (0 : Int32)), .val (.int (0 : Int32)), .val (.int (1 : Int32)), .val .null, .val (.ref wKINDS), .val (.int (7 : Int32)), .val (.int (2 : Int32)), .val (.ref wSUBJECT_OBJECT)] [(.int (0 : Int32)), (.int (1 : Int32))])) _
    refine XS.icmpYes X8.here hx rfl (pc0 := 35) (pc' := 59) rfl (hb hby own_d1_35) rfl (by decide) (by decide) (by decide) ?_
    show Steps p.tables e below (T8.setTop (mkF m 59 #[.val (.int (0 : Int32)), .val (.int (0 : Int32)), .val (.int (1 : Int32)), .val .null, .val (.ref wKINDS), .val (.int (7 : Int32)), .val (.int (2 : Int32)), .val (.ref wSUBJECT_OBJECT)] [])) _
    refine XS.iinc X8.here hx rfl (hb hby own_d1_59) rfl (l' := #[.val (.int (0 : Int32)), .val (.int (0 : Int32)), .val (.int (1 : Int32)), .val .null, .val (.ref wKINDS), .val (.int (7 : Int32)), .val (.int (3 : Int32)), .val (.ref wSUBJECT_OBJECT)]) rfl ?_
    show Steps p.tables e below (T8.setTop (mkF m 62 #[.val (.int (0 : Int32)), .val (.int (0 : Int32)), .val (.int (1 : Int32)), .val .null, .val (.ref wKINDS), .val (.int (7 : Int32)), .val (.int (3 : Int32)), .val (.ref wSUBJECT_OBJECT)] [])) _
    refine XS.goto X8.here hx rfl (pc0 := 62) (pc' := 15) rfl (hb hby own_d1_62) (by decide) (by decide) ?_
    show Steps p.tables e below (T8.setTop (mkF m 15 #[.val (.int (0 : Int32)), .val (.int (0 : Int32)), .val (.int (1 : Int32)), .val .null, .val (.ref wKINDS), .val (.int (7 : Int32)), .val (.int (3 : Int32)), .val (.ref wSUBJECT_OBJECT)] [])) _
    refine XS.iload X8.here hx rfl (hb hby own_d1_15) rfl ?_
    show Steps p.tables e below (T8.setTop (mkF m 17 #[.val (.int (0 : Int32)), .val (.int (0 : Int32)), .val (.int (1 : Int32)), .val .null, .val (.ref wKINDS), .val (.int (7 : Int32)), .val (.int (3 : Int32)), .val (.ref wSUBJECT_OBJECT)] [(.int (3 : Int32))])) _
    refine XS.iload X8.here hx rfl (hb hby own_d1_17) rfl ?_
    show Steps p.tables e below (T8.setTop (mkF m 19 #[.val (.int (0 : Int32)), .val (.int (0 : Int32)), .val (.int (1 : Int32)), .val .null, .val (.ref wKINDS), .val (.int (7 : Int32)), .val (.int (3 : Int32)), .val (.ref wSUBJECT_OBJECT)] [(.int (7 : Int32)), (.int (3 : Int32))])) _
    refine XS.icmpNo X8.here hx rfl (hb hby own_d1_19) rfl (by decide) ?_
    show Steps p.tables e below (T8.setTop (mkF m 22 #[.val (.int (0 : Int32)), .val (.int (0 : Int32)), .val (.int (1 : Int32)), .val .null, .val (.ref wKINDS), .val (.int (7 : Int32)), .val (.int (3 : Int32)), .val (.ref wSUBJECT_OBJECT)] [])) _
    refine XS.aload X8.here hx rfl (hb hby own_d1_22) rfl rfl ?_
    show Steps p.tables e below (T8.setTop (mkF m 24 #[.val (.int (0 : Int32)), .val (.int (0 : Int32)), .val (.int (1 : Int32)), .val .null, .val (.ref wKINDS), .val (.int (7 : Int32)), .val (.int (3 : Int32)), .val (.ref wSUBJECT_OBJECT)] [(.ref wKINDS)])) _
    refine XS.iload X8.here hx rfl (hb hby own_d1_24) rfl ?_
    show Steps p.tables e below (T8.setTop (mkF m 26 #[.val (.int (0 : Int32)), .val (.int (0 : Int32)), .val (.int (1 : Int32)), .val .null, .val (.ref wKINDS), .val (.int (7 : Int32)), .val (.int (3 : Int32)), .val (.ref wSUBJECT_OBJECT)] [(.int (3 : Int32)), (.ref wKINDS)])) _
    refine X8.aaload hx (j := (3 : Int32)) (v := (.ref wPREDICATE_OBJECT)) (by rw [e8]; exact Ar2.1) (State.isArrayOf_alike hZ.alike Ar2.2.1) rfl Ar2.2.2 hin9 hat9 (g := (mkF m 26 #[.val (.int (0 : Int32)), .val (.int (0 : Int32)), .val (.int (1 : Int32)), .val .null, .val (.ref wKINDS), .val (.int (7 : Int32)), .val (.int (3 : Int32)), .val (.ref wSUBJECT_OBJECT)] [(.int (3 : Int32)), (.ref wKINDS)])) rfl rfl (hb hby own_d1_26) _ ?_
    show Steps p.tables e below (T8.setTop (mkF m 27 #[.val (.int (0 : Int32)), .val (.int (0 : Int32)), .val (.int (1 : Int32)), .val .null, .val (.ref wKINDS), .val (.int (7 : Int32)), .val (.int (3 : Int32)), .val (.ref wSUBJECT_OBJECT)] [(.ref wPREDICATE_OBJECT)])) _
    refine XS.astore X8.here hx rfl (hb hby own_d1_27) rfl rfl (l' := #[.val (.int (0 : Int32)), .val (.int (0 : Int32)), .val (.int (1 : Int32)), .val .null, .val (.ref wKINDS), .val (.int (7 : Int32)), .val (.int (3 : Int32)), .val (.ref wPREDICATE_OBJECT)]) rfl ?_
    show Steps p.tables e below (T8.setTop (mkF m 29 #[.val (.int (0 : Int32)), .val (.int (0 : Int32)), .val (.int (1 : Int32)), .val .null, .val (.ref wKINDS), .val (.int (7 : Int32)), .val (.int (3 : Int32)), .val (.ref wPREDICATE_OBJECT)] [])) _
    refine XS.aload X8.here hx rfl (hb hby own_d1_29) rfl rfl ?_
    show Steps p.tables e below (T8.setTop (mkF m 31 #[.val (.int (0 : Int32)), .val (.int (0 : Int32)), .val (.int (1 : Int32)), .val .null, .val (.ref wKINDS), .val (.int (7 : Int32)), .val (.int (3 : Int32)), .val (.ref wPREDICATE_OBJECT)] [(.ref wPREDICATE_OBJECT)])) _
    refine st10 _ ?_
    show Steps p.tables e below (T10.setTop (mkF m 34 #[.val (.int (0 : Int32)), .val (.int (0 : Int32)), .val (.int (1 : Int32)), .val .null, .val (.ref wKINDS), .val (.int (7 : Int32)), .val (.int (3 : Int32)), .val (.ref wPREDICATE_OBJECT)] [(.int (0 : Int32))])) _
    refine XS.iloadN X10.here hx rfl (hb hby own_d1_34) rfl ?_
    show Steps p.tables e below (T10.setTop (mkF m 35 #[.val (.int (0 : Int32)), .val (.int (0 : Int32)), .val (.int (1 : Int32)), .val .null, .val (.ref wKINDS), .val (.int (7 : Int32)), .val (.int (3 : Int32)), .val (.ref wPREDICATE_OBJECT)] [(.int (0 : Int32)), (.int (0 : Int32))])) _
    refine XS.icmpNo X10.here hx rfl (hb hby own_d1_35) rfl (by decide) ?_
    show Steps p.tables e below (T10.setTop (mkF m 38 #[.val (.int (0 : Int32)), .val (.int (0 : Int32)), .val (.int (1 : Int32)), .val .null, .val (.ref wKINDS), .val (.int (7 : Int32)), .val (.int (3 : Int32)), .val (.ref wPREDICATE_OBJECT)] [])) _
    refine XS.aload X10.here hx rfl (hb hby own_d1_38) rfl rfl ?_
    show Steps p.tables e below (T10.setTop (mkF m 40 #[.val (.int (0 : Int32)), .val (.int (0 : Int32)), .val (.int (1 : Int32)), .val .null, .val (.ref wKINDS), .val (.int (7 : Int32)), .val (.int (3 : Int32)), .val (.ref wPREDICATE_OBJECT)] [(.ref wPREDICATE_OBJECT)])) _
    refine st11 _ ?_
    show Steps p.tables e below (T11.setTop (mkF m 43 #[.val (.int (0 : Int32)), .val (.int (0 : Int32)), .val (.int (1 : Int32)), .val .null, .val (.ref wKINDS), .val (.int (7 : Int32)), .val (.int (3 : Int32)), .val (.ref wPREDICATE_OBJECT)] [(.int (1 : Int32))])) _
    refine XS.iloadN X11.here hx rfl (hb hby own_d1_43) rfl ?_
    show Steps p.tables e below (T11.setTop (mkF m 44 #[.val (.int (0 : Int32)), .val (.int (0 : Int32)), .val (.int (1 : Int32)), .val .null, .val (.ref wKINDS), .val (.int (7 : Int32)), .val (.int (3 : Int32)), .val (.ref wPREDICATE_OBJECT)] [(.int (0 : Int32)), (.int (1 : Int32))])) _
    refine XS.icmpYes X11.here hx rfl (pc0 := 44) (pc' := 59) rfl (hb hby own_d1_44) rfl (by decide) (by decide) (by decide) ?_
    show Steps p.tables e below (T11.setTop (mkF m 59 #[.val (.int (0 : Int32)), .val (.int (0 : Int32)), .val (.int (1 : Int32)), .val .null, .val (.ref wKINDS), .val (.int (7 : Int32)), .val (.int (3 : Int32)), .val (.ref wPREDICATE_OBJECT)] [])) _
    refine XS.iinc X11.here hx rfl (hb hby own_d1_59) rfl (l' := #[.val (.int (0 : Int32)), .val (.int (0 : Int32)), .val (.int (1 : Int32)), .val .null, .val (.ref wKINDS), .val (.int (7 : Int32)), .val (.int (4 : Int32)), .val (.ref wPREDICATE_OBJECT)]) rfl ?_
    show Steps p.tables e below (T11.setTop (mkF m 62 #[.val (.int (0 : Int32)), .val (.int (0 : Int32)), .val (.int (1 : Int32)), .val .null, .val (.ref wKINDS), .val (.int (7 : Int32)), .val (.int (4 : Int32)), .val (.ref wPREDICATE_OBJECT)] [])) _
    refine XS.goto X11.here hx rfl (pc0 := 62) (pc' := 15) rfl (hb hby own_d1_62) (by decide) (by decide) ?_
    show Steps p.tables e below (T11.setTop (mkF m 15 #[.val (.int (0 : Int32)), .val (.int (0 : Int32)), .val (.int (1 : Int32)), .val .null, .val (.ref wKINDS), .val (.int (7 : Int32)), .val (.int (4 : Int32)), .val (.ref wPREDICATE_OBJECT)] [])) _
    refine XS.iload X11.here hx rfl (hb hby own_d1_15) rfl ?_
    show Steps p.tables e below (T11.setTop (mkF m 17 #[.val (.int (0 : Int32)), .val (.int (0 : Int32)), .val (.int (1 : Int32)), .val .null, .val (.ref wKINDS), .val (.int (7 : Int32)), .val (.int (4 : Int32)), .val (.ref wPREDICATE_OBJECT)] [(.int (4 : Int32))])) _
    refine XS.iload X11.here hx rfl (hb hby own_d1_17) rfl ?_
    show Steps p.tables e below (T11.setTop (mkF m 19 #[.val (.int (0 : Int32)), .val (.int (0 : Int32)), .val (.int (1 : Int32)), .val .null, .val (.ref wKINDS), .val (.int (7 : Int32)), .val (.int (4 : Int32)), .val (.ref wPREDICATE_OBJECT)] [(.int (7 : Int32)), (.int (4 : Int32))])) _
    refine XS.icmpNo X11.here hx rfl (hb hby own_d1_19) rfl (by decide) ?_
    show Steps p.tables e below (T11.setTop (mkF m 22 #[.val (.int (0 : Int32)), .val (.int (0 : Int32)), .val (.int (1 : Int32)), .val .null, .val (.ref wKINDS), .val (.int (7 : Int32)), .val (.int (4 : Int32)), .val (.ref wPREDICATE_OBJECT)] [])) _
    refine XS.aload X11.here hx rfl (hb hby own_d1_22) rfl rfl ?_
    show Steps p.tables e below (T11.setTop (mkF m 24 #[.val (.int (0 : Int32)), .val (.int (0 : Int32)), .val (.int (1 : Int32)), .val .null, .val (.ref wKINDS), .val (.int (7 : Int32)), .val (.int (4 : Int32)), .val (.ref wPREDICATE_OBJECT)] [(.ref wKINDS)])) _
    refine XS.iload X11.here hx rfl (hb hby own_d1_24) rfl ?_
    show Steps p.tables e below (T11.setTop (mkF m 26 #[.val (.int (0 : Int32)), .val (.int (0 : Int32)), .val (.int (1 : Int32)), .val .null, .val (.ref wKINDS), .val (.int (7 : Int32)), .val (.int (4 : Int32)), .val (.ref wPREDICATE_OBJECT)] [(.int (4 : Int32)), (.ref wKINDS)])) _
    refine X11.aaload hx (j := (4 : Int32)) (v := (.ref wSUBJECT)) (by rw [e11]; exact Ar2.1) (State.isArrayOf_alike hZ.alike Ar2.2.1) rfl Ar2.2.2 hin12 hat12 (g := (mkF m 26 #[.val (.int (0 : Int32)), .val (.int (0 : Int32)), .val (.int (1 : Int32)), .val .null, .val (.ref wKINDS), .val (.int (7 : Int32)), .val (.int (4 : Int32)), .val (.ref wPREDICATE_OBJECT)] [(.int (4 : Int32)), (.ref wKINDS)])) rfl rfl (hb hby own_d1_26) _ ?_
    show Steps p.tables e below (T11.setTop (mkF m 27 #[.val (.int (0 : Int32)), .val (.int (0 : Int32)), .val (.int (1 : Int32)), .val .null, .val (.ref wKINDS), .val (.int (7 : Int32)), .val (.int (4 : Int32)), .val (.ref wPREDICATE_OBJECT)] [(.ref wSUBJECT)])) _
    refine XS.astore X11.here hx rfl (hb hby own_d1_27) rfl rfl (l' := #[.val (.int (0 : Int32)), .val (.int (0 : Int32)), .val (.int (1 : Int32)), .val .null, .val (.ref wKINDS), .val (.int (7 : Int32)), .val (.int (4 : Int32)), .val (.ref wSUBJECT)]) rfl ?_
    show Steps p.tables e below (T11.setTop (mkF m 29 #[.val (.int (0 : Int32)), .val (.int (0 : Int32)), .val (.int (1 : Int32)), .val .null, .val (.ref wKINDS), .val (.int (7 : Int32)), .val (.int (4 : Int32)), .val (.ref wSUBJECT)] [])) _
    refine XS.aload X11.here hx rfl (hb hby own_d1_29) rfl rfl ?_
    show Steps p.tables e below (T11.setTop (mkF m 31 #[.val (.int (0 : Int32)), .val (.int (0 : Int32)), .val (.int (1 : Int32)), .val .null, .val (.ref wKINDS), .val (.int (7 : Int32)), .val (.int (4 : Int32)), .val (.ref wSUBJECT)] [(.ref wSUBJECT)])) _
    refine st13 _ ?_
    show Steps p.tables e below (T13.setTop (mkF m 34 #[.val (.int (0 : Int32)), .val (.int (0 : Int32)), .val (.int (1 : Int32)), .val .null, .val (.ref wKINDS), .val (.int (7 : Int32)), .val (.int (4 : Int32)), .val (.ref wSUBJECT)] [(.int (1 : Int32))])) _
    refine XS.iloadN X13.here hx rfl (hb hby own_d1_34) rfl ?_
    show Steps p.tables e below (T13.setTop (mkF m 35 #[.val (.int (0 : Int32)), .val (.int (0 : Int32)), .val (.int (1 : Int32)), .val .null, .val (.ref wKINDS), .val (.int (7 : Int32)), .val (.int (4 : Int32)), .val (.ref wSUBJECT)] [(.int (0 : Int32)), (.int (1 : Int32))])) _
    refine XS.icmpYes X13.here hx rfl (pc0 := 35) (pc' := 59) rfl (hb hby own_d1_35) rfl (by decide) (by decide) (by decide) ?_
    show Steps p.tables e below (T13.setTop (mkF m 59 #[.val (.int (0 : Int32)), .val (.int (0 : Int32)), .val (.int (1 : Int32)), .val .null, .val (.ref wKINDS), .val (.int (7 : Int32)), .val (.int (4 : Int32)), .val (.ref wSUBJECT)] [])) _
    refine XS.iinc X13.here hx rfl (hb hby own_d1_59) rfl (l' := #[.val (.int (0 : Int32)), .val (.int (0 : Int32)), .val (.int (1 : Int32)), .val .null, .val (.ref wKINDS), .val (.int (7 : Int32)), .val (.int (5 : Int32)), .val (.ref wSUBJECT)]) rfl ?_
    show Steps p.tables e below (T13.setTop (mkF m 62 #[.val (.int (0 : Int32)), .val (.int (0 : Int32)), .val (.int (1 : Int32)), .val .null, .val (.ref wKINDS), .val (.int (7 : Int32)), .val (.int (5 : Int32)), .val (.ref wSUBJECT)] [])) _
    refine XS.goto X13.here hx rfl (pc0 := 62) (pc' := 15) rfl (hb hby own_d1_62) (by decide) (by decide) ?_
    show Steps p.tables e below (T13.setTop (mkF m 15 #[.val (.int (0 : Int32)), .val (.int (0 : Int32)), .val (.int (1 : Int32)), .val .null, .val (.ref wKINDS), .val (.int (7 : Int32)), .val (.int (5 : Int32)), .val (.ref wSUBJECT)] [])) _
    refine XS.iload X13.here hx rfl (hb hby own_d1_15) rfl ?_
    show Steps p.tables e below (T13.setTop (mkF m 17 #[.val (.int (0 : Int32)), .val (.int (0 : Int32)), .val (.int (1 : Int32)), .val .null, .val (.ref wKINDS), .val (.int (7 : Int32)), .val (.int (5 : Int32)), .val (.ref wSUBJECT)] [(.int (5 : Int32))])) _
    refine XS.iload X13.here hx rfl (hb hby own_d1_17) rfl ?_
    show Steps p.tables e below (T13.setTop (mkF m 19 #[.val (.int (0 : Int32)), .val (.int (0 : Int32)), .val (.int (1 : Int32)), .val .null, .val (.ref wKINDS), .val (.int (7 : Int32)), .val (.int (5 : Int32)), .val (.ref wSUBJECT)] [(.int (7 : Int32)), (.int (5 : Int32))])) _
    refine XS.icmpNo X13.here hx rfl (hb hby own_d1_19) rfl (by decide) ?_
    show Steps p.tables e below (T13.setTop (mkF m 22 #[.val (.int (0 : Int32)), .val (.int (0 : Int32)), .val (.int (1 : Int32)), .val .null, .val (.ref wKINDS), .val (.int (7 : Int32)), .val (.int (5 : Int32)), .val (.ref wSUBJECT)] [])) _
    refine XS.aload X13.here hx rfl (hb hby own_d1_22) rfl rfl ?_
    show Steps p.tables e below (T13.setTop (mkF m 24 #[.val (.int (0 : Int32)), .val (.int (0 : Int32)), .val (.int (1 : Int32)), .val .null, .val (.ref wKINDS), .val (.int (7 : Int32)), .val (.int (5 : Int32)), .val (.ref wSUBJECT)] [(.ref wKINDS)])) _
    refine XS.iload X13.here hx rfl (hb hby own_d1_24) rfl ?_
    show Steps p.tables e below (T13.setTop (mkF m 26 #[.val (.int (0 : Int32)), .val (.int (0 : Int32)), .val (.int (1 : Int32)), .val .null, .val (.ref wKINDS), .val (.int (7 : Int32)), .val (.int (5 : Int32)), .val (.ref wSUBJECT)] [(.int (5 : Int32)), (.ref wKINDS)])) _
    refine X13.aaload hx (j := (5 : Int32)) (v := (.ref wPREDICATE)) (by rw [e13]; exact Ar2.1) (State.isArrayOf_alike hZ.alike Ar2.2.1) rfl Ar2.2.2 hin14 hat14 (g := (mkF m 26 #[.val (.int (0 : Int32)), .val (.int (0 : Int32)), .val (.int (1 : Int32)), .val .null, .val (.ref wKINDS), .val (.int (7 : Int32)), .val (.int (5 : Int32)), .val (.ref wSUBJECT)] [(.int (5 : Int32)), (.ref wKINDS)])) rfl rfl (hb hby own_d1_26) _ ?_
    show Steps p.tables e below (T13.setTop (mkF m 27 #[.val (.int (0 : Int32)), .val (.int (0 : Int32)), .val (.int (1 : Int32)), .val .null, .val (.ref wKINDS), .val (.int (7 : Int32)), .val (.int (5 : Int32)), .val (.ref wSUBJECT)] [(.ref wPREDICATE)])) _
    refine XS.astore X13.here hx rfl (hb hby own_d1_27) rfl rfl (l' := #[.val (.int (0 : Int32)), .val (.int (0 : Int32)), .val (.int (1 : Int32)), .val .null, .val (.ref wKINDS), .val (.int (7 : Int32)), .val (.int (5 : Int32)), .val (.ref wPREDICATE)]) rfl ?_
    show Steps p.tables e below (T13.setTop (mkF m 29 #[.val (.int (0 : Int32)), .val (.int (0 : Int32)), .val (.int (1 : Int32)), .val .null, .val (.ref wKINDS), .val (.int (7 : Int32)), .val (.int (5 : Int32)), .val (.ref wPREDICATE)] [])) _
    refine XS.aload X13.here hx rfl (hb hby own_d1_29) rfl rfl ?_
    show Steps p.tables e below (T13.setTop (mkF m 31 #[.val (.int (0 : Int32)), .val (.int (0 : Int32)), .val (.int (1 : Int32)), .val .null, .val (.ref wKINDS), .val (.int (7 : Int32)), .val (.int (5 : Int32)), .val (.ref wPREDICATE)] [(.ref wPREDICATE)])) _
    refine st15 _ ?_
    show Steps p.tables e below (T15.setTop (mkF m 34 #[.val (.int (0 : Int32)), .val (.int (0 : Int32)), .val (.int (1 : Int32)), .val .null, .val (.ref wKINDS), .val (.int (7 : Int32)), .val (.int (5 : Int32)), .val (.ref wPREDICATE)] [(.int (0 : Int32))])) _
    refine XS.iloadN X15.here hx rfl (hb hby own_d1_34) rfl ?_
    show Steps p.tables e below (T15.setTop (mkF m 35 #[.val (.int (0 : Int32)), .val (.int (0 : Int32)), .val (.int (1 : Int32)), .val .null, .val (.ref wKINDS), .val (.int (7 : Int32)), .val (.int (5 : Int32)), .val (.ref wPREDICATE)] [(.int (0 : Int32)), (.int (0 : Int32))])) _
    refine XS.icmpNo X15.here hx rfl (hb hby own_d1_35) rfl (by decide) ?_
    show Steps p.tables e below (T15.setTop (mkF m 38 #[.val (.int (0 : Int32)), .val (.int (0 : Int32)), .val (.int (1 : Int32)), .val .null, .val (.ref wKINDS), .val (.int (7 : Int32)), .val (.int (5 : Int32)), .val (.ref wPREDICATE)] [])) _
    refine XS.aload X15.here hx rfl (hb hby own_d1_38) rfl rfl ?_
    show Steps p.tables e below (T15.setTop (mkF m 40 #[.val (.int (0 : Int32)), .val (.int (0 : Int32)), .val (.int (1 : Int32)), .val .null, .val (.ref wKINDS), .val (.int (7 : Int32)), .val (.int (5 : Int32)), .val (.ref wPREDICATE)] [(.ref wPREDICATE)])) _
    refine st16 _ ?_
    show Steps p.tables e below (T16.setTop (mkF m 43 #[.val (.int (0 : Int32)), .val (.int (0 : Int32)), .val (.int (1 : Int32)), .val .null, .val (.ref wKINDS), .val (.int (7 : Int32)), .val (.int (5 : Int32)), .val (.ref wPREDICATE)] [(.int (1 : Int32))])) _
    refine XS.iloadN X16.here hx rfl (hb hby own_d1_43) rfl ?_
    show Steps p.tables e below (T16.setTop (mkF m 44 #[.val (.int (0 : Int32)), .val (.int (0 : Int32)), .val (.int (1 : Int32)), .val .null, .val (.ref wKINDS), .val (.int (7 : Int32)), .val (.int (5 : Int32)), .val (.ref wPREDICATE)] [(.int (0 : Int32)), (.int (1 : Int32))])) _
    refine XS.icmpYes X16.here hx rfl (pc0 := 44) (pc' := 59) rfl (hb hby own_d1_44) rfl (by decide) (by decide) (by decide) ?_
    show Steps p.tables e below (T16.setTop (mkF m 59 #[.val (.int (0 : Int32)), .val (.int (0 : Int32)), .val (.int (1 : Int32)), .val .null, .val (.ref wKINDS), .val (.int (7 : Int32)), .val (.int (5 : Int32)), .val (.ref wPREDICATE)] [])) _
    refine XS.iinc X16.here hx rfl (hb hby own_d1_59) rfl (l' := #[.val (.int (0 : Int32)), .val (.int (0 : Int32)), .val (.int (1 : Int32)), .val .null, .val (.ref wKINDS), .val (.int (7 : Int32)), .val (.int (6 : Int32)), .val (.ref wPREDICATE)]) rfl ?_
    show Steps p.tables e below (T16.setTop (mkF m 62 #[.val (.int (0 : Int32)), .val (.int (0 : Int32)), .val (.int (1 : Int32)), .val .null, .val (.ref wKINDS), .val (.int (7 : Int32)), .val (.int (6 : Int32)), .val (.ref wPREDICATE)] [])) _
    refine XS.goto X16.here hx rfl (pc0 := 62) (pc' := 15) rfl (hb hby own_d1_62) (by decide) (by decide) ?_
    show Steps p.tables e below (T16.setTop (mkF m 15 #[.val (.int (0 : Int32)), .val (.int (0 : Int32)), .val (.int (1 : Int32)), .val .null, .val (.ref wKINDS), .val (.int (7 : Int32)), .val (.int (6 : Int32)), .val (.ref wPREDICATE)] [])) _
    refine XS.iload X16.here hx rfl (hb hby own_d1_15) rfl ?_
    show Steps p.tables e below (T16.setTop (mkF m 17 #[.val (.int (0 : Int32)), .val (.int (0 : Int32)), .val (.int (1 : Int32)), .val .null, .val (.ref wKINDS), .val (.int (7 : Int32)), .val (.int (6 : Int32)), .val (.ref wPREDICATE)] [(.int (6 : Int32))])) _
    refine XS.iload X16.here hx rfl (hb hby own_d1_17) rfl ?_
    show Steps p.tables e below (T16.setTop (mkF m 19 #[.val (.int (0 : Int32)), .val (.int (0 : Int32)), .val (.int (1 : Int32)), .val .null, .val (.ref wKINDS), .val (.int (7 : Int32)), .val (.int (6 : Int32)), .val (.ref wPREDICATE)] [(.int (7 : Int32)), (.int (6 : Int32))])) _
    refine XS.icmpNo X16.here hx rfl (hb hby own_d1_19) rfl (by decide) ?_
    show Steps p.tables e below (T16.setTop (mkF m 22 #[.val (.int (0 : Int32)), .val (.int (0 : Int32)), .val (.int (1 : Int32)), .val .null, .val (.ref wKINDS), .val (.int (7 : Int32)), .val (.int (6 : Int32)), .val (.ref wPREDICATE)] [])) _
    refine XS.aload X16.here hx rfl (hb hby own_d1_22) rfl rfl ?_
    show Steps p.tables e below (T16.setTop (mkF m 24 #[.val (.int (0 : Int32)), .val (.int (0 : Int32)), .val (.int (1 : Int32)), .val .null, .val (.ref wKINDS), .val (.int (7 : Int32)), .val (.int (6 : Int32)), .val (.ref wPREDICATE)] [(.ref wKINDS)])) _
    refine XS.iload X16.here hx rfl (hb hby own_d1_24) rfl ?_
    show Steps p.tables e below (T16.setTop (mkF m 26 #[.val (.int (0 : Int32)), .val (.int (0 : Int32)), .val (.int (1 : Int32)), .val .null, .val (.ref wKINDS), .val (.int (7 : Int32)), .val (.int (6 : Int32)), .val (.ref wPREDICATE)] [(.int (6 : Int32)), (.ref wKINDS)])) _
    refine X16.aaload hx (j := (6 : Int32)) (v := (.ref wOBJECT)) (by rw [e16]; exact Ar2.1) (State.isArrayOf_alike hZ.alike Ar2.2.1) rfl Ar2.2.2 hin17 hat17 (g := (mkF m 26 #[.val (.int (0 : Int32)), .val (.int (0 : Int32)), .val (.int (1 : Int32)), .val .null, .val (.ref wKINDS), .val (.int (7 : Int32)), .val (.int (6 : Int32)), .val (.ref wPREDICATE)] [(.int (6 : Int32)), (.ref wKINDS)])) rfl rfl (hb hby own_d1_26) _ ?_
    show Steps p.tables e below (T16.setTop (mkF m 27 #[.val (.int (0 : Int32)), .val (.int (0 : Int32)), .val (.int (1 : Int32)), .val .null, .val (.ref wKINDS), .val (.int (7 : Int32)), .val (.int (6 : Int32)), .val (.ref wPREDICATE)] [(.ref wOBJECT)])) _
    refine XS.astore X16.here hx rfl (hb hby own_d1_27) rfl rfl (l' := #[.val (.int (0 : Int32)), .val (.int (0 : Int32)), .val (.int (1 : Int32)), .val .null, .val (.ref wKINDS), .val (.int (7 : Int32)), .val (.int (6 : Int32)), .val (.ref wOBJECT)]) rfl ?_
    show Steps p.tables e below (T16.setTop (mkF m 29 #[.val (.int (0 : Int32)), .val (.int (0 : Int32)), .val (.int (1 : Int32)), .val .null, .val (.ref wKINDS), .val (.int (7 : Int32)), .val (.int (6 : Int32)), .val (.ref wOBJECT)] [])) _
    refine XS.aload X16.here hx rfl (hb hby own_d1_29) rfl rfl ?_
    show Steps p.tables e below (T16.setTop (mkF m 31 #[.val (.int (0 : Int32)), .val (.int (0 : Int32)), .val (.int (1 : Int32)), .val .null, .val (.ref wKINDS), .val (.int (7 : Int32)), .val (.int (6 : Int32)), .val (.ref wOBJECT)] [(.ref wOBJECT)])) _
    refine st18 _ ?_
    show Steps p.tables e below (T18.setTop (mkF m 34 #[.val (.int (0 : Int32)), .val (.int (0 : Int32)), .val (.int (1 : Int32)), .val .null, .val (.ref wKINDS), .val (.int (7 : Int32)), .val (.int (6 : Int32)), .val (.ref wOBJECT)] [(.int (0 : Int32))])) _
    refine XS.iloadN X18.here hx rfl (hb hby own_d1_34) rfl ?_
    show Steps p.tables e below (T18.setTop (mkF m 35 #[.val (.int (0 : Int32)), .val (.int (0 : Int32)), .val (.int (1 : Int32)), .val .null, .val (.ref wKINDS), .val (.int (7 : Int32)), .val (.int (6 : Int32)), .val (.ref wOBJECT)] [(.int (0 : Int32)), (.int (0 : Int32))])) _
    refine XS.icmpNo X18.here hx rfl (hb hby own_d1_35) rfl (by decide) ?_
    show Steps p.tables e below (T18.setTop (mkF m 38 #[.val (.int (0 : Int32)), .val (.int (0 : Int32)), .val (.int (1 : Int32)), .val .null, .val (.ref wKINDS), .val (.int (7 : Int32)), .val (.int (6 : Int32)), .val (.ref wOBJECT)] [])) _
    refine XS.aload X18.here hx rfl (hb hby own_d1_38) rfl rfl ?_
    show Steps p.tables e below (T18.setTop (mkF m 40 #[.val (.int (0 : Int32)), .val (.int (0 : Int32)), .val (.int (1 : Int32)), .val .null, .val (.ref wKINDS), .val (.int (7 : Int32)), .val (.int (6 : Int32)), .val (.ref wOBJECT)] [(.ref wOBJECT)])) _
    refine st19 _ ?_
    show Steps p.tables e below (T19.setTop (mkF m 43 #[.val (.int (0 : Int32)), .val (.int (0 : Int32)), .val (.int (1 : Int32)), .val .null, .val (.ref wKINDS), .val (.int (7 : Int32)), .val (.int (6 : Int32)), .val (.ref wOBJECT)] [(.int (0 : Int32))])) _
    refine XS.iloadN X19.here hx rfl (hb hby own_d1_43) rfl ?_
    show Steps p.tables e below (T19.setTop (mkF m 44 #[.val (.int (0 : Int32)), .val (.int (0 : Int32)), .val (.int (1 : Int32)), .val .null, .val (.ref wKINDS), .val (.int (7 : Int32)), .val (.int (6 : Int32)), .val (.ref wOBJECT)] [(.int (0 : Int32)), (.int (0 : Int32))])) _
    refine XS.icmpNo X19.here hx rfl (hb hby own_d1_44) rfl (by decide) ?_
    show Steps p.tables e below (T19.setTop (mkF m 47 #[.val (.int (0 : Int32)), .val (.int (0 : Int32)), .val (.int (1 : Int32)), .val .null, .val (.ref wKINDS), .val (.int (7 : Int32)), .val (.int (6 : Int32)), .val (.ref wOBJECT)] [])) _
    refine XS.aload X19.here hx rfl (hb hby own_d1_47) rfl rfl ?_
    show Steps p.tables e below (T19.setTop (mkF m 49 #[.val (.int (0 : Int32)), .val (.int (0 : Int32)), .val (.int (1 : Int32)), .val .null, .val (.ref wKINDS), .val (.int (7 : Int32)), .val (.int (6 : Int32)), .val (.ref wOBJECT)] [(.ref wOBJECT)])) _
    refine st20 _ ?_
    show Steps p.tables e below (T20.setTop (mkF m 52 #[.val (.int (0 : Int32)), .val (.int (0 : Int32)), .val (.int (1 : Int32)), .val .null, .val (.ref wKINDS), .val (.int (7 : Int32)), .val (.int (6 : Int32)), .val (.ref wOBJECT)] [(.int (1 : Int32))])) _
    refine XS.iloadN X20.here hx rfl (hb hby own_d1_52) rfl ?_
    show Steps p.tables e below (T20.setTop (mkF m 53 #[.val (.int (0 : Int32)), .val (.int (0 : Int32)), .val (.int (1 : Int32)), .val .null, .val (.ref wKINDS), .val (.int (7 : Int32)), .val (.int (6 : Int32)), .val (.ref wOBJECT)] [(.int (1 : Int32)), (.int (1 : Int32))])) _
    refine XS.icmpNo X20.here hx rfl (hb hby own_d1_53) rfl (by decide) ?_
    show Steps p.tables e below (T20.setTop (mkF m 56 #[.val (.int (0 : Int32)), .val (.int (0 : Int32)), .val (.int (1 : Int32)), .val .null, .val (.ref wKINDS), .val (.int (7 : Int32)), .val (.int (6 : Int32)), .val (.ref wOBJECT)] [])) _
    refine XS.aload X20.here hx rfl (hb hby own_d1_56) rfl rfl ?_
    show Steps p.tables e below (T20.setTop (mkF m 58 #[.val (.int (0 : Int32)), .val (.int (0 : Int32)), .val (.int (1 : Int32)), .val .null, .val (.ref wKINDS), .val (.int (7 : Int32)), .val (.int (6 : Int32)), .val (.ref wOBJECT)] [(.ref wOBJECT)])) _
    refine XS.astoreN X20.here hx rfl (hb hby own_d1_58) rfl rfl (l' := #[.val (.int (0 : Int32)), .val (.int (0 : Int32)), .val (.int (1 : Int32)), .val (.ref wOBJECT), .val (.ref wKINDS), .val (.int (7 : Int32)), .val (.int (6 : Int32)), .val (.ref wOBJECT)]) rfl ?_
    show Steps p.tables e below (T20.setTop (mkF m 59 #[.val (.int (0 : Int32)), .val (.int (0 : Int32)), .val (.int (1 : Int32)), .val (.ref wOBJECT), .val (.ref wKINDS), .val (.int (7 : Int32)), .val (.int (6 : Int32)), .val (.ref wOBJECT)] [])) _
    refine XS.iinc X20.here hx rfl (hb hby own_d1_59) rfl (l' := #[.val (.int (0 : Int32)), .val (.int (0 : Int32)), .val (.int (1 : Int32)), .val (.ref wOBJECT), .val (.ref wKINDS), .val (.int (7 : Int32)), .val (.int (7 : Int32)), .val (.ref wOBJECT)]) rfl ?_
    show Steps p.tables e below (T20.setTop (mkF m 62 #[.val (.int (0 : Int32)), .val (.int (0 : Int32)), .val (.int (1 : Int32)), .val (.ref wOBJECT), .val (.ref wKINDS), .val (.int (7 : Int32)), .val (.int (7 : Int32)), .val (.ref wOBJECT)] [])) _
    refine XS.goto X20.here hx rfl (pc0 := 62) (pc' := 15) rfl (hb hby own_d1_62) (by decide) (by decide) ?_
    show Steps p.tables e below (T20.setTop (mkF m 15 #[.val (.int (0 : Int32)), .val (.int (0 : Int32)), .val (.int (1 : Int32)), .val (.ref wOBJECT), .val (.ref wKINDS), .val (.int (7 : Int32)), .val (.int (7 : Int32)), .val (.ref wOBJECT)] [])) _
    refine XS.iload X20.here hx rfl (hb hby own_d1_15) rfl ?_
    show Steps p.tables e below (T20.setTop (mkF m 17 #[.val (.int (0 : Int32)), .val (.int (0 : Int32)), .val (.int (1 : Int32)), .val (.ref wOBJECT), .val (.ref wKINDS), .val (.int (7 : Int32)), .val (.int (7 : Int32)), .val (.ref wOBJECT)] [(.int (7 : Int32))])) _
    refine XS.iload X20.here hx rfl (hb hby own_d1_17) rfl ?_
    show Steps p.tables e below (T20.setTop (mkF m 19 #[.val (.int (0 : Int32)), .val (.int (0 : Int32)), .val (.int (1 : Int32)), .val (.ref wOBJECT), .val (.ref wKINDS), .val (.int (7 : Int32)), .val (.int (7 : Int32)), .val (.ref wOBJECT)] [(.int (7 : Int32)), (.int (7 : Int32))])) _
    refine XS.icmpYes X20.here hx rfl (pc0 := 19) (pc' := 65) rfl (hb hby own_d1_19) rfl (by decide) (by decide) (by decide) ?_
    show Steps p.tables e below (T20.setTop (mkF m 65 #[.val (.int (0 : Int32)), .val (.int (0 : Int32)), .val (.int (1 : Int32)), .val (.ref wOBJECT), .val (.ref wKINDS), .val (.int (7 : Int32)), .val (.int (7 : Int32)), .val (.ref wOBJECT)] [])) _
    refine XS.aloadN X20.here hx rfl (hb hby own_d1_65) rfl rfl ?_
    show Steps p.tables e below (T20.setTop (mkF m 66 #[.val (.int (0 : Int32)), .val (.int (0 : Int32)), .val (.int (1 : Int32)), .val (.ref wOBJECT), .val (.ref wKINDS), .val (.int (7 : Int32)), .val (.int (7 : Int32)), .val (.ref wOBJECT)] [(.ref wOBJECT)])) _
    jvm_step X20.here [X20.here.top, hx, (hb hby own_d1_66), X20.method', Bd.returns, Value.isRef, FieldType.isReference]
    first | (intro acts; rw [hr _ acts rfl rfl rfl]) | rw [hr _ _ rfl rfl rfl]
    exact Steps.refl _
  · show OwnQ _ h0 n0 _ T20.heap _
    exact ⟨rfl, N0, e20⟩
theorem own_d2_52 : decode method_2_code 52 = .ok (.getstatic 28, 3) := by decide +kernel
theorem own_d2_55 : decode method_2_code 55 = .ok (.areturn, 1) := by decide +kernel
set_option maxRecDepth 65536 in
set_option maxHeartbeats 40000000 in
theorem own_expected_9 (l : Launch) (Z : State) (a0 : Array Value) (hw : ∀ d ∈ tables_1, d.before a0 Z = true) (ws : List Jvm.Cond) (wKINDS : Addr) (wSUBJECT_PREDICATE_OBJECT : Addr) (wSUBJECT_PREDICATE : Addr) (wSUBJECT_OBJECT : Addr) (wPREDICATE_OBJECT : Addr) (wSUBJECT : Addr) (wPREDICATE : Addr) (wOBJECT : Addr) (kKINDS : ClassId) (G : OwnG Z wKINDS wSUBJECT_PREDICATE_OBJECT wSUBJECT_PREDICATE wSUBJECT_OBJECT wPREDICATE_OBJECT wSUBJECT wPREDICATE wOBJECT kKINDS) (h0 : Heap) (n0 : Nat) (O0 : Old Z n0 h0) :
    MetFree l (⟨"com/example/quadrille/quadrille/graphfilter/PatternKindKeepingPinLaw", "expected", "(ZZZ)Lcom/example/quadrille/quadrille/graphfilter/PatternKind;"⟩ : MethodName) (head1 (Jvm.Cond.code (⟨"com/example/quadrille/quadrille/graphfilter/PatternKindKeepingPinLaw", "expected", "(ZZZ)Lcom/example/quadrille/quadrille/graphfilter/PatternKind;"⟩ : MethodName) method_2_code 3 (some (.object "com/example/quadrille/quadrille/graphfilter/PatternKind")) :: ws) ({ frames := 0, cells := 0, slots := 0, locals := 0 } : Room)) (fun a U => a = #[(.int (0 : Int32)), (.int (0 : Int32)), (.int (1 : Int32))] ∧ Z.Warmed39 U.vm ∧ U.heap = h0) (fun _ _ _ _ _ => True) (fun _ U o U' => ∃ v L, o = .returned v ∧ OwnQ (some (.ref wOBJECT)) h0 n0 v U'.heap L ∧ FrameEnd U o U' L ({ frames := 0, cells := 0, slots := 0, locals := 0 } : Room).cells ({ frames := 0, cells := 0, slots := 0, locals := 0 } : Room).slots) := by
  refine MetFree.of_bodySF (plainFor_of_name own_pn_0) hisR ?_
  intro p e s m args below meth c s₁ Bd hml0 hP hK
  obtain ⟨rfl, hZ, hh⟩ := hP
  have hx := Bd.exec
  have hby := Bd.bytes
  have hml : c.maxLocals = 3 := hml0
  have hown : s.vm.findClass "com/example/quadrille/quadrille/graphfilter/PatternKindKeepingPinLaw" = some m.cls := findClass_of_methodNamed Bd.named
  have hnm := (name_of_methodNamed Bd.named Bd.method).1
  have X0 : Stand p l e ({ frames := 0, cells := 0, slots := 0, locals := 0 } : Room) s m #[(.int (0 : Int32)), (.int (0 : Int32)), (.int (1 : Int32))] below meth c s₁ [] 0 0 := Stand.of_body Bd
  have e0 : s₁.heap = h0 := by rw [← hh, Bd.state]; rfl
  have N0 := Fr.nil n0
  have pre0 : ∀ t, Steps p.tables e below (s₁.setTop (mkF m 0 #[.val (.int (0 : Int32)), .val (.int (0 : Int32)), .val (.int (1 : Int32))] [])) t → Steps p.tables e below (s₁.setTop (entryFrame m #[(.int (0 : Int32)), (.int (0 : Int32)), (.int (1 : Int32))] 3)) t := fun t k => castTop (own_ef_2_III m (0 : Int32) (0 : Int32) (1 : Int32)) k
  obtain ⟨T1, X1, e1, st1⟩ := getS2 X0 hx hZ hown (host := "") (Or.inl (hw _ (List.mem_of_getElem? (i := 28) rfl))) Via.refl e0 (G.2.2.2.2.2.2.2.2.2.2.2.2.2.1.ext O0.2) (g := (mkF m 52 #[.val (.int (0 : Int32)), .val (.int (0 : Int32)), .val (.int (1 : Int32))] [])) rfl (hb hby own_d2_52)
  obtain ⟨fs, hr, hrun, hended, hW, hsame⟩ := X1.leave (v := some (.ref wOBJECT)) (fun h => by rw [Bd.returns] at h; cases h)
  refine ⟨_, _, pre0 _ ?_, hrun, hended, _, _, rfl, ?_, ⟨_, rfl⟩, hW, hsame.mono (by decide) (by decide)⟩
  · show Steps p.tables e below (s₁.setTop (mkF m 0 #[.val (.int (0 : Int32)), .val (.int (0 : Int32)), .val (.int (1 : Int32))] [])) _
    refine XS.iloadN X0.here hx rfl (hb hby own_d2_0) rfl ?_
    show Steps p.tables e below (s₁.setTop (mkF m 1 #[.val (.int (0 : Int32)), .val (.int (0 : Int32)), .val (.int (1 : Int32))] [(.int (0 : Int32))])) _
    refine XS.ifYes X0.here hx rfl (pc0 := 1) (pc' := 32) rfl (hb hby own_d2_1) rfl (by decide) (by decide) (by decide) ?_
    show Steps p.tables e below (s₁.setTop (mkF m 32 #[.val (.int (0 : Int32)), .val (.int (0 : Int32)), .val (.int (1 : Int32))] [])) _
    refine XS.iloadN X0.here hx rfl (hb hby own_d2_32) rfl ?_
    show Steps p.tables e below (s₁.setTop (mkF m 33 #[.val (.int (0 : Int32)), .val (.int (0 : Int32)), .val (.int (1 : Int32))] [(.int (0 : Int32))])) _
    refine XS.ifYes X0.here hx rfl (pc0 := 33) (pc' := 48) rfl (hb hby own_d2_33) rfl (by decide) (by decide) (by decide) ?_
    show Steps p.tables e below (s₁.setTop (mkF m 48 #[.val (.int (0 : Int32)), .val (.int (0 : Int32)), .val (.int (1 : Int32))] [])) _
    refine XS.iloadN X0.here hx rfl (hb hby own_d2_48) rfl ?_
    show Steps p.tables e below (s₁.setTop (mkF m 49 #[.val (.int (0 : Int32)), .val (.int (0 : Int32)), .val (.int (1 : Int32))] [(.int (1 : Int32))])) _
    refine XS.ifNo X0.here hx rfl (hb hby own_d2_49) rfl (by decide) ?_
    show Steps p.tables e below (s₁.setTop (mkF m 52 #[.val (.int (0 : Int32)), .val (.int (0 : Int32)), .val (.int (1 : Int32))] [])) _
    refine st1 _ ?_
    show Steps p.tables e below (T1.setTop (mkF m 55 #[.val (.int (0 : Int32)), .val (.int (0 : Int32)), .val (.int (1 : Int32))] [(.ref wOBJECT)])) _
    jvm_step X1.here [X1.here.top, hx, (hb hby own_d2_55), X1.method', Bd.returns, Value.isRef, FieldType.isReference]
    first | (intro acts; rw [hr _ acts rfl rfl rfl]) | rw [hr _ _ rfl rfl rfl]
    exact Steps.refl _
  · show OwnQ _ h0 n0 _ T1.heap _
    exact ⟨rfl, N0, e1⟩
set_option maxRecDepth 65536 in
set_option maxHeartbeats 40000000 in
theorem own_law_4 (l : Launch) (Z : State) (a0 : Array Value) (hw : ∀ d ∈ tables_1, d.before a0 Z = true) (ws : List Jvm.Cond) (wKINDS : Addr) (wSUBJECT_PREDICATE_OBJECT : Addr) (wSUBJECT_PREDICATE : Addr) (wSUBJECT_OBJECT : Addr) (wPREDICATE_OBJECT : Addr) (wSUBJECT : Addr) (wPREDICATE : Addr) (wOBJECT : Addr) (kKINDS : ClassId) (G : OwnG Z wKINDS wSUBJECT_PREDICATE_OBJECT wSUBJECT_PREDICATE wSUBJECT_OBJECT wPREDICATE_OBJECT wSUBJECT wPREDICATE wOBJECT kKINDS) (h0 : Heap) (n0 : Nat) (O0 : Old Z n0 h0) (p1 : Int32) (h1 : (p1 &&& (1 : Int32)) = (0 : Int32)) (h2 : (p1 &&& (2 : Int32)) = (0 : Int32)) (h4 : ¬ ((p1 &&& (4 : Int32)) = (0 : Int32))) :
    MetFree l x (head1 (Jvm.Cond.code x code maxLocals ret :: ws) room_1) (fun a U => a = #[(.int p1)] ∧ Z.Warmed39 U.vm ∧ U.heap = h0) (fun _ _ _ _ _ => True) (fun _ U o U' => ∃ v L, o = .returned v ∧ (v = some (.int 1) ∧ Fr n0 L) ∧ FrameEnd U o U' L room_1.cells room_1.slots) := by
  refine MetFree.of_bodySF (plainFor_of_name own_pn_0) hisR ?_
  intro p e s m args below meth c s₁ Bd hml0 hP hK
  obtain ⟨rfl, hZ, hh⟩ := hP
  have hx := Bd.exec
  have hby := Bd.bytes
  have hml : c.maxLocals = 5 := hml0
  have hown : s.vm.findClass "com/example/quadrille/quadrille/graphfilter/PatternKindKeepingPinLaw" = some m.cls := findClass_of_methodNamed Bd.named
  have hnm := (name_of_methodNamed Bd.named Bd.method).1
  have X0 : Stand p l e room_1 s m #[(.int p1)] below meth c s₁ [] 0 0 := Stand.of_body Bd
  have e0 : s₁.heap = h0 := by rw [← hh, Bd.state]; rfl
  have N0 := Fr.nil n0
  have pre0 : ∀ t, Steps p.tables e below (s₁.setTop (mkF m 0 #[.val (.int p1), .unset, .unset, .unset, .unset] [])) t → Steps p.tables e below (s₁.setTop (entryFrame m #[(.int p1)] maxLocals)) t := fun t k => castTop (own_ef_0_I m p1) k
  obtain ⟨_, _, ⟨T1, L1, k1, n1⟩, -, X1, ⟨Lc1, hQ1, l1, y1, z1⟩, st1⟩ := Jvm.LawKit.callS X0 hx (y := (⟨"com/example/quadrille/quadrille/graphfilter/PatternKind", "keeping", "(ZZZ)Lcom/example/quadrille/quadrille/graphfilter/PatternKind;"⟩ : MethodName)) hown (mvT hZ (hw _ (List.mem_of_getElem? (i := 0) rfl))) (mvT hZ (hw _ (List.mem_of_getElem? (i := 1) rfl))) (mvT hZ (hw _ (List.mem_of_getElem? (i := 2) rfl))) (mvT hZ (hw _ (List.mem_of_getElem? (i := 3) rfl))) (by decide) (backOf (W := 0) (own_keeping_8 l Z a0 hw [] wKINDS wSUBJECT_PREDICATE_OBJECT wSUBJECT_PREDICATE wSUBJECT_OBJECT wPREDICATE_OBJECT wSUBJECT wPREDICATE wOBJECT kKINDS G h0 n0 O0) hZ (hw _ (List.mem_of_getElem? (i := 3) rfl)) (hw _ (List.mem_of_getElem? (i := 2) rfl)) (by decide) (by decide)) (g := (mkF m 39 #[.val (.int p1), .val (.int (0 : Int32)), .val (.int (0 : Int32)), .val (.int (1 : Int32)), .unset] [(.int (1 : Int32)), (.int (0 : Int32)), (.int (0 : Int32))])) rfl (by rw [hml]; rfl) (argsL := [(.int (0 : Int32)), (.int (0 : Int32)), (.int (1 : Int32))]) (rest := []) (lenOf own_pd_0 rfl) rfl (by show 2 * 0 + _ ≤ _; exact Nat.le_of_eq rfl) (hb hby at_39) (fun _ _ => ⟨rfl, e0, (by decide : 0 + 0 ≤ _), (by decide : 0 + 0 ≤ _)⟩)
  dsimp only [Pt.U, Pt.locs, Pt.cells, Pt.slots] at X1 l1 y1 z1 st1 hQ1
  subst l1 y1 z1
  obtain ⟨rfl, N1q, e1⟩ := hQ1
  have N1 := Fr.app N0 N1q
  obtain ⟨_, _, ⟨T2, L2, k2, n2⟩, -, X2, ⟨Lc2, hQ2, l2, y2, z2⟩, st2⟩ := Jvm.LawKit.callS X1 hx (y := (⟨"com/example/quadrille/quadrille/graphfilter/PatternKindKeepingPinLaw", "expected", "(ZZZ)Lcom/example/quadrille/quadrille/graphfilter/PatternKind;"⟩ : MethodName)) hown (mvT hZ (hw _ (List.mem_of_getElem? (i := 19) rfl))) (mvT hZ (hw _ (List.mem_of_getElem? (i := 20) rfl))) (mvT hZ (hw _ (List.mem_of_getElem? (i := 21) rfl))) (mvT hZ (hw _ (List.mem_of_getElem? (i := 22) rfl))) (by decide) (backOf (W := 1) (own_expected_9 l Z a0 hw [] wKINDS wSUBJECT_PREDICATE_OBJECT wSUBJECT_PREDICATE wSUBJECT_OBJECT wPREDICATE_OBJECT wSUBJECT wPREDICATE wOBJECT kKINDS G h0 n0 O0) hZ (hw _ (List.mem_of_getElem? (i := 22) rfl)) (hw _ (List.mem_of_getElem? (i := 21) rfl)) (by decide) (by decide)) (g := (mkF m 49 #[.val (.int p1), .val (.int (0 : Int32)), .val (.int (0 : Int32)), .val (.int (1 : Int32)), .val (.ref wOBJECT)] [(.int (1 : Int32)), (.int (0 : Int32)), (.int (0 : Int32)), (.ref wOBJECT)])) rfl (by rw [hml]; rfl) (argsL := [(.int (0 : Int32)), (.int (0 : Int32)), (.int (1 : Int32))]) (rest := [(.ref wOBJECT)]) (lenOf own_pd_0 rfl) rfl (by show 2 * 0 + _ ≤ _; exact Nat.le_of_eq rfl) (hb hby at_49) (fun _ _ => ⟨rfl, e1, (by decide : 0 + 0 ≤ _), (by decide : 0 + 0 ≤ _)⟩)
  dsimp only [Pt.U, Pt.locs, Pt.cells, Pt.slots] at X2 l2 y2 z2 st2 hQ2
  subst l2 y2 z2
  obtain ⟨rfl, N2q, e2⟩ := hQ2
  have N2 := Fr.app N1 N2q
  obtain ⟨fs, hr, hrun, hended, hW, hsame⟩ := X2.leave (v := some (.int (1 : Int32))) (fun h => by rw [Bd.returns] at h; cases h)
  refine ⟨_, _, pre0 _ ?_, hrun, hended, _, _, rfl, ?_, ⟨_, rfl⟩, hW, hsame.mono (by decide) (by decide)⟩
  · show Steps p.tables e below (s₁.setTop (mkF m 0 #[.val (.int p1), .unset, .unset, .unset, .unset] [])) _
    refine XS.iloadN X0.here hx rfl (hb hby at_0) rfl ?_
    show Steps p.tables e below (s₁.setTop (mkF m 1 #[.val (.int p1), .unset, .unset, .unset, .unset] [(.int p1)])) _
    refine XS.iconst X0.here hx rfl (hb hby at_1) ?_
    show Steps p.tables e below (s₁.setTop (mkF m 2 #[.val (.int p1), .unset, .unset, .unset, .unset] [(.int (1 : Int32)), (.int p1)])) _
    refine XS.iand X0.here hx rfl (hb hby at_2) rfl ?_
    show Steps p.tables e below (s₁.setTop (mkF m 3 #[.val (.int p1), .unset, .unset, .unset, .unset] [(.int (p1 &&& (1 : Int32)))])) _
    refine XS.ifYes X0.here hx rfl (pc0 := 3) (pc' := 10) rfl (hb hby at_3) rfl ((if0 _ _).trans (teq (h1 : (p1 &&& (1 : Int32)) = (0 : Int32))).1) (by decide) (by decide) ?_
    show Steps p.tables e below (s₁.setTop (mkF m 10 #[.val (.int p1), .unset, .unset, .unset, .unset] [])) _
    refine XS.iconst X0.here hx rfl (hb hby at_10) ?_
    show Steps p.tables e below (s₁.setTop (mkF m 11 #[.val (.int p1), .unset, .unset, .unset, .unset] [(.int (0 : Int32))])) _
    refine XS.istoreN X0.here hx rfl (hb hby at_11) rfl (l' := #[.val (.int p1), .val (.int (0 : Int32)), .unset, .unset, .unset]) rfl ?_
    show Steps p.tables e below (s₁.setTop (mkF m 12 #[.val (.int p1), .val (.int (0 : Int32)), .unset, .unset, .unset] [])) _
    refine XS.iloadN X0.here hx rfl (hb hby at_12) rfl ?_
    show Steps p.tables e below (s₁.setTop (mkF m 13 #[.val (.int p1), .val (.int (0 : Int32)), .unset, .unset, .unset] [(.int p1)])) _
    refine XS.iconst X0.here hx rfl (hb hby at_13) ?_
    show Steps p.tables e below (s₁.setTop (mkF m 14 #[.val (.int p1), .val (.int (0 : Int32)), .unset, .unset, .unset] [(.int (2 : Int32)), (.int p1)])) _
    refine XS.iand X0.here hx rfl (hb hby at_14) rfl ?_
    show Steps p.tables e below (s₁.setTop (mkF m 15 #[.val (.int p1), .val (.int (0 : Int32)), .unset, .unset, .unset] [(.int (p1 &&& (2 : Int32)))])) _
    refine XS.ifYes X0.here hx rfl (pc0 := 15) (pc' := 22) rfl (hb hby at_15) rfl ((if0 _ _).trans (teq (h2 : (p1 &&& (2 : Int32)) = (0 : Int32))).1) (by decide) (by decide) ?_
    show Steps p.tables e below (s₁.setTop (mkF m 22 #[.val (.int p1), .val (.int (0 : Int32)), .unset, .unset, .unset] [])) _
    refine XS.iconst X0.here hx rfl (hb hby at_22) ?_
    show Steps p.tables e below (s₁.setTop (mkF m 23 #[.val (.int p1), .val (.int (0 : Int32)), .unset, .unset, .unset] [(.int (0 : Int32))])) _
    refine XS.istoreN X0.here hx rfl (hb hby at_23) rfl (l' := #[.val (.int p1), .val (.int (0 : Int32)), .val (.int (0 : Int32)), .unset, .unset]) rfl ?_
    show Steps p.tables e below (s₁.setTop (mkF m 24 #[.val (.int p1), .val (.int (0 : Int32)), .val (.int (0 : Int32)), .unset, .unset] [])) _
    refine XS.iloadN X0.here hx rfl (hb hby at_24) rfl ?_
    show Steps p.tables e below (s₁.setTop (mkF m 25 #[.val (.int p1), .val (.int (0 : Int32)), .val (.int (0 : Int32)), .unset, .unset] [(.int p1)])) _
    refine XS.iconst X0.here hx rfl (hb hby at_25) ?_
    show Steps p.tables e below (s₁.setTop (mkF m 26 #[.val (.int p1), .val (.int (0 : Int32)), .val (.int (0 : Int32)), .unset, .unset] [(.int (4 : Int32)), (.int p1)])) _
    refine XS.iand X0.here hx rfl (hb hby at_26) rfl ?_
    show Steps p.tables e below (s₁.setTop (mkF m 27 #[.val (.int p1), .val (.int (0 : Int32)), .val (.int (0 : Int32)), .unset, .unset] [(.int (p1 &&& (4 : Int32)))])) _
    refine XS.ifNo X0.here hx rfl (hb hby at_27) rfl ((if0 _ _).trans (feq (h4 : ¬ ((p1 &&& (4 : Int32)) = (0 : Int32)))).1) ?_
    show Steps p.tables e below (s₁.setTop (mkF m 30 #[.val (.int p1), .val (.int (0 : Int32)), .val (.int (0 : Int32)), .unset, .unset] [])) _
    refine XS.iconst X0.here hx rfl (hb hby at_30) ?_
    show Steps p.tables e below (s₁.setTop (mkF m 31 #[.val (.int p1), .val (.int (0 : Int32)), .val (.int (0 : Int32)), .unset, .unset] [(.int (1 : Int32))])) _
    refine XS.goto X0.here hx rfl (pc0 := 31) (pc' := 35) rfl (hb hby at_31) (by decide) (by decide) ?_
    show Steps p.tables e below (s₁.setTop (mkF m 35 #[.val (.int p1), .val (.int (0 : Int32)), .val (.int (0 : Int32)), .unset, .unset] [(.int (1 : Int32))])) _
    refine XS.istoreN X0.here hx rfl (hb hby at_35) rfl (l' := #[.val (.int p1), .val (.int (0 : Int32)), .val (.int (0 : Int32)), .val (.int (1 : Int32)), .unset]) rfl ?_
    show Steps p.tables e below (s₁.setTop (mkF m 36 #[.val (.int p1), .val (.int (0 : Int32)), .val (.int (0 : Int32)), .val (.int (1 : Int32)), .unset] [])) _
    refine XS.iloadN X0.here hx rfl (hb hby at_36) rfl ?_
    show Steps p.tables e below (s₁.setTop (mkF m 37 #[.val (.int p1), .val (.int (0 : Int32)), .val (.int (0 : Int32)), .val (.int (1 : Int32)), .unset] [(.int (0 : Int32))])) _
    refine XS.iloadN X0.here hx rfl (hb hby at_37) rfl ?_
    show Steps p.tables e below (s₁.setTop (mkF m 38 #[.val (.int p1), .val (.int (0 : Int32)), .val (.int (0 : Int32)), .val (.int (1 : Int32)), .unset] [(.int (0 : Int32)), (.int (0 : Int32))])) _
    refine XS.iloadN X0.here hx rfl (hb hby at_38) rfl ?_
    show Steps p.tables e below (s₁.setTop (mkF m 39 #[.val (.int p1), .val (.int (0 : Int32)), .val (.int (0 : Int32)), .val (.int (1 : Int32)), .unset] [(.int (1 : Int32)), (.int (0 : Int32)), (.int (0 : Int32))])) _
    refine st1 _ ?_
    show Steps p.tables e below (T1.setTop (mkF m 42 #[.val (.int p1), .val (.int (0 : Int32)), .val (.int (0 : Int32)), .val (.int (1 : Int32)), .unset] [(.ref wOBJECT)])) _
    refine XS.astore X1.here hx rfl (hb hby at_42) rfl rfl (l' := #[.val (.int p1), .val (.int (0 : Int32)), .val (.int (0 : Int32)), .val (.int (1 : Int32)), .val (.ref wOBJECT)]) rfl ?_
    show Steps p.tables e below (T1.setTop (mkF m 44 #[.val (.int p1), .val (.int (0 : Int32)), .val (.int (0 : Int32)), .val (.int (1 : Int32)), .val (.ref wOBJECT)] [])) _
    refine XS.aload X1.here hx rfl (hb hby at_44) rfl rfl ?_
    show Steps p.tables e below (T1.setTop (mkF m 46 #[.val (.int p1), .val (.int (0 : Int32)), .val (.int (0 : Int32)), .val (.int (1 : Int32)), .val (.ref wOBJECT)] [(.ref wOBJECT)])) _
    refine XS.iloadN X1.here hx rfl (hb hby at_46) rfl ?_
    show Steps p.tables e below (T1.setTop (mkF m 47 #[.val (.int p1), .val (.int (0 : Int32)), .val (.int (0 : Int32)), .val (.int (1 : Int32)), .val (.ref wOBJECT)] [(.int (0 : Int32)), (.ref wOBJECT)])) _
    refine XS.iloadN X1.here hx rfl (hb hby at_47) rfl ?_
    show Steps p.tables e below (T1.setTop (mkF m 48 #[.val (.int p1), .val (.int (0 : Int32)), .val (.int (0 : Int32)), .val (.int (1 : Int32)), .val (.ref wOBJECT)] [(.int (0 : Int32)), (.int (0 : Int32)), (.ref wOBJECT)])) _
    refine XS.iloadN X1.here hx rfl (hb hby at_48) rfl ?_
    show Steps p.tables e below (T1.setTop (mkF m 49 #[.val (.int p1), .val (.int (0 : Int32)), .val (.int (0 : Int32)), .val (.int (1 : Int32)), .val (.ref wOBJECT)] [(.int (1 : Int32)), (.int (0 : Int32)), (.int (0 : Int32)), (.ref wOBJECT)])) _
    refine st2 _ ?_
    show Steps p.tables e below (T2.setTop (mkF m 52 #[.val (.int p1), .val (.int (0 : Int32)), .val (.int (0 : Int32)), .val (.int (1 : Int32)), .val (.ref wOBJECT)] [(.ref wOBJECT), (.ref wOBJECT)])) _
    refine Jvm.RoadKit.acmp (g := (mkF m 52 #[.val (.int p1), .val (.int (0 : Int32)), .val (.int (0 : Int32)), .val (.int (1 : Int32)), .val (.ref wOBJECT)] [(.ref wOBJECT), (.ref wOBJECT)])) X2 hx rfl rfl rfl (pc0 := 52) (pc' := 55) (same := true) rfl (hb hby at_52) rfl (decide_eq_true rfl) (by decide) (by decide) ?_
    show Steps p.tables e below (T2.setTop (mkF m 55 #[.val (.int p1), .val (.int (0 : Int32)), .val (.int (0 : Int32)), .val (.int (1 : Int32)), .val (.ref wOBJECT)] [])) _
    refine XS.iconst X2.here hx rfl (hb hby at_55) ?_
    show Steps p.tables e below (T2.setTop (mkF m 56 #[.val (.int p1), .val (.int (0 : Int32)), .val (.int (0 : Int32)), .val (.int (1 : Int32)), .val (.ref wOBJECT)] [(.int (1 : Int32))])) _
    refine XS.goto X2.here hx rfl (pc0 := 56) (pc' := 60) rfl (hb hby at_56) (by decide) (by decide) ?_
    show Steps p.tables e below (T2.setTop (mkF m 60 #[.val (.int p1), .val (.int (0 : Int32)), .val (.int (0 : Int32)), .val (.int (1 : Int32)), .val (.ref wOBJECT)] [(.int (1 : Int32))])) _
    exact retN X2 hx (t := .boolean) Bd.returns (by simp) (hb hby at_60) hr
  · exact ⟨rfl, N2⟩
set_option maxRecDepth 65536 in
set_option maxHeartbeats 40000000 in
theorem own_keeping_10 (l : Launch) (Z : State) (a0 : Array Value) (hw : ∀ d ∈ tables_1, d.before a0 Z = true) (ws : List Jvm.Cond) (wKINDS : Addr) (wSUBJECT_PREDICATE_OBJECT : Addr) (wSUBJECT_PREDICATE : Addr) (wSUBJECT_OBJECT : Addr) (wPREDICATE_OBJECT : Addr) (wSUBJECT : Addr) (wPREDICATE : Addr) (wOBJECT : Addr) (kKINDS : ClassId) (G : OwnG Z wKINDS wSUBJECT_PREDICATE_OBJECT wSUBJECT_PREDICATE wSUBJECT_OBJECT wPREDICATE_OBJECT wSUBJECT wPREDICATE wOBJECT kKINDS) (h0 : Heap) (n0 : Nat) (O0 : Old Z n0 h0) :
    MetFree l (⟨"com/example/quadrille/quadrille/graphfilter/PatternKind", "keeping", "(ZZZ)Lcom/example/quadrille/quadrille/graphfilter/PatternKind;"⟩ : MethodName) (head1 (Jvm.Cond.code (⟨"com/example/quadrille/quadrille/graphfilter/PatternKind", "keeping", "(ZZZ)Lcom/example/quadrille/quadrille/graphfilter/PatternKind;"⟩ : MethodName) prog_67_method_4_code 8 (some (.object "com/example/quadrille/quadrille/graphfilter/PatternKind")) :: ws) ({ frames := 0, cells := 0, slots := 0, locals := 0 } : Room)) (fun a U => a = #[(.int (1 : Int32)), (.int (0 : Int32)), (.int (1 : Int32))] ∧ Z.Warmed39 U.vm ∧ U.heap = h0) (fun _ _ _ _ _ => True) (fun _ U o U' => ∃ v L, o = .returned v ∧ OwnQ (some (.ref wSUBJECT_OBJECT)) h0 n0 v U'.heap L ∧ FrameEnd U o U' L ({ frames := 0, cells := 0, slots := 0, locals := 0 } : Room).cells ({ frames := 0, cells := 0, slots := 0, locals := 0 } : Room).slots) := by
  refine MetFree.of_bodySF (plainFor_of_name own_pn_1) hisR ?_
  intro p e s m args below meth c s₁ Bd hml0 hP hK
  obtain ⟨rfl, hZ, hh⟩ := hP
  have hx := Bd.exec
  have hby := Bd.bytes
  have hml : c.maxLocals = 8 := hml0
  have hown : s.vm.findClass "com/example/quadrille/quadrille/graphfilter/PatternKind" = some m.cls := findClass_of_methodNamed Bd.named
  have hnm := (name_of_methodNamed Bd.named Bd.method).1
  have X0 : Stand p l e ({ frames := 0, cells := 0, slots := 0, locals := 0 } : Room) s m #[(.int (1 : Int32)), (.int (0 : Int32)), (.int (1 : Int32))] below meth c s₁ [] 0 0 := Stand.of_body Bd
  have e0 : s₁.heap = h0 := by rw [← hh, Bd.state]; rfl
  have N0 := Fr.nil n0
  have pre0 : ∀ t, Steps p.tables e below (s₁.setTop (mkF m 0 #[.val (.int (1 : Int32)), .val (.int (0 : Int32)), .val (.int (1 : Int32)), .unset, .unset, .unset, .unset, .unset] [])) t → Steps p.tables e below (s₁.setTop (entryFrame m #[(.int (1 : Int32)), (.int (0 : Int32)), (.int (1 : Int32))] 8)) t := fun t k => castTop (own_ef_1_III m (1 : Int32) (0 : Int32) (1 : Int32)) k
  obtain ⟨T1, X1, e1, st1⟩ := getS2 X0 hx hZ hown (host := "") (Or.inl (hw _ (List.mem_of_getElem? (i := 4) rfl))) Via.refl e0 (G.1.ext O0.2) (g := (mkF m 2 #[.val (.int (1 : Int32)), .val (.int (0 : Int32)), .val (.int (1 : Int32)), .val .null, .unset, .unset, .unset, .unset] [])) rfl (hb hby own_d1_2)
  obtain ⟨cl2, Ar2, qk2, Sz2, Nn2, Hs2, Gs2⟩ := id ((G.2.2.2.2.2.2.2.2.2.2.2.2.2.2.2.2.2.2.2.2.2.2.2.2.2.2.2.2.2.2.2.2.2.2.2.2.1.ext O0.2))
  have hin3 : ¬ ((0 : Int32) < 0 ∨ cl2.slots.size ≤ ((0 : Int32)).toNatClampNeg) := inb_of Sz2 ⟨by decide, by decide⟩
  have hat3 : cl2.slots[((0 : Int32)).toNatClampNeg]? = some (.ref wSUBJECT_PREDICATE_OBJECT) := Hs2.at hin3 rfl
  obtain ⟨T4, X4, e4, st4⟩ := getF X1 hx hZ hown (host := "") (Or.inl (hw _ (List.mem_of_getElem? (i := 7) rfl))) Via.refl e1 (G.2.2.2.2.2.2.2.2.2.2.2.2.2.2.2.1.ext O0.2) (g := (mkF m 31 #[.val (.int (1 : Int32)), .val (.int (0 : Int32)), .val (.int (1 : Int32)), .val .null, .val (.ref wKINDS), .val (.int (7 : Int32)), .val (.int (0 : Int32)), .val (.ref wSUBJECT_PREDICATE_OBJECT)] [(.ref wSUBJECT_PREDICATE_OBJECT)])) rfl rfl (hb hby own_d1_31)
  obtain ⟨T5, X5, e5, st5⟩ := getF X4 hx hZ hown (host := "") (Or.inl (hw _ (List.mem_of_getElem? (i := 12) rfl))) Via.refl e4 (G.2.2.2.2.2.2.2.2.2.2.2.2.2.2.2.2.2.2.2.2.2.2.2.2.2.2.1.ext O0.2) (g := (mkF m 40 #[.val (.int (1 : Int32)), .val (.int (0 : Int32)), .val (.int (1 : Int32)), .val .null, .val (.ref wKINDS), .val (.int (7 : Int32)), .val (.int (0 : Int32)), .val (.ref wSUBJECT_PREDICATE_OBJECT)] [(.ref wSUBJECT_PREDICATE_OBJECT)])) rfl rfl (hb hby own_d1_40)
  have hin6 : ¬ ((1 : Int32) < 0 ∨ cl2.slots.size ≤ ((1 : Int32)).toNatClampNeg) := inb_of Sz2 ⟨by decide, by decide⟩
  have hat6 : cl2.slots[((1 : Int32)).toNatClampNeg]? = some (.ref wSUBJECT_PREDICATE) := Hs2.at hin6 rfl
  obtain ⟨T7, X7, e7, st7⟩ := getF X5 hx hZ hown (host := "") (Or.inl (hw _ (List.mem_of_getElem? (i := 7) rfl))) Via.refl e5 (G.2.2.2.2.2.2.2.2.2.2.2.2.2.2.2.2.1.ext O0.2) (g := (mkF m 31 #[.val (.int (1 : Int32)), .val (.int (0 : Int32)), .val (.int (1 : Int32)), .val .null, .val (.ref wKINDS), .val (.int (7 : Int32)), .val (.int (1 : Int32)), .val (.ref wSUBJECT_PREDICATE)] [(.ref wSUBJECT_PREDICATE)])) rfl rfl (hb hby own_d1_31)
  obtain ⟨T8, X8, e8, st8⟩ := getF X7 hx hZ hown (host := "") (Or.inl (hw _ (List.mem_of_getElem? (i := 12) rfl))) Via.refl e7 (G.2.2.2.2.2.2.2.2.2.2.2.2.2.2.2.2.2.2.2.2.2.2.2.2.2.2.2.2.1.ext O0.2) (g := (mkF m 40 #[.val (.int (1 : Int32)), .val (.int (0 : Int32)), .val (.int (1 : Int32)), .val .null, .val (.ref wKINDS), .val (.int (7 : Int32)), .val (.int (1 : Int32)), .val (.ref wSUBJECT_PREDICATE)] [(.ref wSUBJECT_PREDICATE)])) rfl rfl (hb hby own_d1_40)
  have hin9 : ¬ ((2 : Int32) < 0 ∨ cl2.slots.size ≤ ((2 : Int32)).toNatClampNeg) := inb_of Sz2 ⟨by decide, by decide⟩
  have hat9 : cl2.slots[((2 : Int32)).toNatClampNeg]? = some (.ref wSUBJECT_OBJECT) := Hs2.at hin9 rfl
  obtain ⟨T10, X10, e10, st10⟩ := getF X8 hx hZ hown (host := "") (Or.inl (hw _ (List.mem_of_getElem? (i := 7) rfl))) Via.refl e8 (G.2.2.2.2.2.2.2.2.2.2.2.2.2.2.2.2.2.1.ext O0.2) (g := (mkF m 31 #[.val (.int (1 : Int32)), .val (.int (0 : Int32)), .val (.int (1 : Int32)), .val .null, .val (.ref wKINDS), .val (.int (7 : Int32)), .val (.int (2 : Int32)), .val (.ref wSUBJECT_OBJECT)] [(.ref wSUBJECT_OBJECT)])) rfl rfl (hb hby own_d1_31)
  obtain ⟨T11, X11, e11, st11⟩ := getF X10 hx hZ hown (host := "") (Or.inl (hw _ (List.mem_of_getElem? (i := 12) rfl))) Via.refl e10 (G.2.2.2.2.2.2.2.2.2.2.2.2.2.2.2.2.2.2.2.2.2.2.2.2.2.2.2.2.2.2.1.ext O0.2) (g := (mkF m 40 #[.val (.int (1 : Int32)), .val (.int (0 : Int32)), .val (.int (1 : Int32)), .val .null, .val (.ref wKINDS), .val (.int (7 : Int32)), .val (.int (2 : Int32)), .val (.ref wSUBJECT_OBJECT)] [(.ref wSUBJECT_OBJECT)])) rfl rfl (hb hby own_d1_40)
  obtain ⟨T12, X12, e12, st12⟩ := getF X11 hx hZ hown (host := "") (Or.inl (hw _ (List.mem_of_getElem? (i := 17) rfl))) Via.refl e11 (G.2.2.2.2.2.2.2.2.2.2.2.2.2.2.2.2.2.2.2.2.2.2.2.2.2.2.2.2.2.2.2.2.2.2.1.ext O0.2) (g := (mkF m 49 #[.val (.int (1 : Int32)), .val (.int (0 : Int32)), .val (.int (1 : Int32)), .val .null, .val (.ref wKINDS), .val (.int (7 : Int32)), .val (.int (2 : Int32)), .val (.ref wSUBJECT_OBJECT)] [(.ref wSUBJECT_OBJECT)])) rfl rfl (hb hby own_d1_49)
  have hin13 : ¬ ((3 : Int32) < 0 ∨ cl2.slots.size ≤ ((3 : Int32)).toNatClampNeg) := inb_of Sz2 ⟨by decide, by decide⟩
  have hat13 : cl2.slots[((3 : Int32)).toNatClampNeg]? = some (.ref wPREDICATE_OBJECT) := Hs2.at hin13 rfl
  obtain ⟨T14, X14, e14, st14⟩ := getF X12 hx hZ hown (host := "") (Or.inl (hw _ (List.mem_of_getElem? (i := 7) rfl))) Via.refl e12 (G.2.2.2.2.2.2.2.2.2.2.2.2.2.2.2.2.2.2.1.ext O0.2) (g := (mkF m 31 #[.val (.int (1 : Int32)), .val (.int (0 : Int32)), .val (.int (1 : Int32)), .val (.ref wSUBJECT_OBJECT), .val (.ref wKINDS), .val (.int (7 : Int32)), .val (.int (3 : Int32)), .val (.ref wPREDICATE_OBJECT)] [(.ref wPREDICATE_OBJECT)])) rfl rfl (hb hby own_d1_31)
  have hin15 : ¬ ((4 : Int32) < 0 ∨ cl2.slots.size ≤ ((4 : Int32)).toNatClampNeg) := inb_of Sz2 ⟨by decide, by decide⟩
  have hat15 : cl2.slots[((4 : Int32)).toNatClampNeg]? = some (.ref wSUBJECT) := Hs2.at hin15 rfl
  obtain ⟨T16, X16, e16, st16⟩ := getF X14 hx hZ hown (host := "") (Or.inl (hw _ (List.mem_of_getElem? (i := 7) rfl))) Via.refl e14 (G.2.2.2.2.2.2.2.2.2.2.2.2.2.2.2.2.2.2.2.2.1.ext O0.2) (g := (mkF m 31 #[.val (.int (1 : Int32)), .val (.int (0 : Int32)), .val (.int (1 : Int32)), .val (.ref wSUBJECT_OBJECT), .val (.ref wKINDS), .val (.int (7 : Int32)), .val (.int (4 : Int32)), .val (.ref wSUBJECT)] [(.ref wSUBJECT)])) rfl rfl (hb hby own_d1_31)
  obtain ⟨T17, X17, e17, st17⟩ := getF X16 hx hZ hown (host := "") (Or.inl (hw _ (List.mem_of_getElem? (i := 12) rfl))) Via.refl e16 (G.2.2.2.2.2.2.2.2.2.2.2.2.2.2.2.2.2.2.2.2.2.2.2.2.2.2.2.2.2.2.2.1.ext O0.2) (g := (mkF m 40 #[.val (.int (1 : Int32)), .val (.int (0 : Int32)), .val (.int (1 : Int32)), .val (.ref wSUBJECT_OBJECT), .val (.ref wKINDS), .val (.int (7 : Int32)), .val (.int (4 : Int32)), .val (.ref wSUBJECT)] [(.ref wSUBJECT)])) rfl rfl (hb hby own_d1_40)
  obtain ⟨T18, X18, e18, st18⟩ := getF X17 hx hZ hown (host := "") (Or.inl (hw _ (List.mem_of_getElem? (i := 17) rfl))) Via.refl e17 (G.2.2.2.2.2.2.2.2.2.2.2.2.2.2.2.2.2.2.2.2.2.2.2.2.2.2.2.2.2.2.2.2.2.2.2.1.ext O0.2) (g := (mkF m 49 #[.val (.int (1 : Int32)), .val (.int (0 : Int32)), .val (.int (1 : Int32)), .val (.ref wSUBJECT_OBJECT), .val (.ref wKINDS), .val (.int (7 : Int32)), .val (.int (4 : Int32)), .val (.ref wSUBJECT)] [(.ref wSUBJECT)])) rfl rfl (hb hby own_d1_49)
  have hin19 : ¬ ((5 : Int32) < 0 ∨ cl2.slots.size ≤ ((5 : Int32)).toNatClampNeg) := inb_of Sz2 ⟨by decide, by decide⟩
  have hat19 : cl2.slots[((5 : Int32)).toNatClampNeg]? = some (.ref wPREDICATE) := Hs2.at hin19 rfl
  obtain ⟨T20, X20, e20, st20⟩ := getF X18 hx hZ hown (host := "") (Or.inl (hw _ (List.mem_of_getElem? (i := 7) rfl))) Via.refl e18 (G.2.2.2.2.2.2.2.2.2.2.2.2.2.2.2.2.2.2.2.2.2.1.ext O0.2) (g := (mkF m 31 #[.val (.int (1 : Int32)), .val (.int (0 : Int32)), .val (.int (1 : Int32)), .val (.ref wSUBJECT_OBJECT), .val (.ref wKINDS), .val (.int (7 : Int32)), .val (.int (5 : Int32)), .val (.ref wPREDICATE)] [(.ref wPREDICATE)])) rfl rfl (hb hby own_d1_31)
  have hin21 : ¬ ((6 : Int32) < 0 ∨ cl2.slots.size ≤ ((6 : Int32)).toNatClampNeg) := inb_of Sz2 ⟨by decide, by decide⟩
  have hat21 : cl2.slots[((6 : Int32)).toNatClampNeg]? = some (.ref wOBJECT) := Hs2.at hin21 rfl
  obtain ⟨T22, X22, e22, st22⟩ := getF X20 hx hZ hown (host := "") (Or.inl (hw _ (List.mem_of_getElem? (i := 7) rfl))) Via.refl e20 (G.2.2.2.2.2.2.2.2.2.2.2.2.2.2.2.2.2.2.2.2.2.2.2.1.ext O0.2) (g := (mkF m 31 #[.val (.int (1 : Int32)), .val (.int (0 : Int32)), .val (.int (1 : Int32)), .val (.ref wSUBJECT_OBJECT), .val (.ref wKINDS), .val (.int (7 : Int32)), .val (.int (6 : Int32)), .val (.ref wOBJECT)] [(.ref wOBJECT)])) rfl rfl (hb hby own_d1_31)
  obtain ⟨fs, hr, hrun, hended, hW, hsame⟩ := X22.leave (v := some (.ref wSUBJECT_OBJECT)) (fun h => by rw [Bd.returns] at h; cases h)
  refine ⟨_, _, pre0 _ ?_, hrun, hended, _, _, rfl, ?_, ⟨_, rfl⟩, hW, hsame.mono (by decide) (by decide)⟩
  · show Steps p.tables e below (s₁.setTop (mkF m 0 #[.val (.int (1 : Int32)), .val (.int (0 : Int32)), .val (.int (1 : Int32)), .unset, .unset, .unset, .unset, .unset] [])) _
    refine XS.aconstNull X0.here hx rfl (hb hby own_d1_0) ?_
    show Steps p.tables e below (s₁.setTop (mkF m 1 #[.val (.int (1 : Int32)), .val (.int (0 : Int32)), .val (.int (1 : Int32)), .unset, .unset, .unset, .unset, .unset] [.null])) _
    refine XS.astoreN X0.here hx rfl (hb hby own_d1_1) rfl rfl (l' := #[.val (.int (1 : Int32)), .val (.int (0 : Int32)), .val (.int (1 : Int32)), .val .null, .unset, .unset, .unset, .unset]) rfl ?_
    show Steps p.tables e below (s₁.setTop (mkF m 2 #[.val (.int (1 : Int32)), .val (.int (0 : Int32)), .val (.int (1 : Int32)), .val .null, .unset, .unset, .unset, .unset] [])) _
    refine st1 _ ?_
    show Steps p.tables e below (T1.setTop (mkF m 5 #[.val (.int (1 : Int32)), .val (.int (0 : Int32)), .val (.int (1 : Int32)), .val .null, .unset, .unset, .unset, .unset] [(.ref wKINDS)])) _
    refine XS.astore X1.here hx rfl (hb hby own_d1_5) rfl rfl (l' := #[.val (.int (1 : Int32)), .val (.int (0 : Int32)), .val (.int (1 : Int32)), .val .null, .val (.ref wKINDS), .unset, .unset, .unset]) rfl ?_
    show Steps p.tables e below (T1.setTop (mkF m 7 #[.val (.int (1 : Int32)), .val (.int (0 : Int32)), .val (.int (1 : Int32)), .val .null, .val (.ref wKINDS), .unset, .unset, .unset] [])) _
    refine XS.aload X1.here hx rfl (hb hby own_d1_7) rfl rfl ?_
    show Steps p.tables e below (T1.setTop (mkF m 9 #[.val (.int (1 : Int32)), .val (.int (0 : Int32)), .val (.int (1 : Int32)), .val .null, .val (.ref wKINDS), .unset, .unset, .unset] [(.ref wKINDS)])) _
    refine X1.arraylength hx (by rw [e1]; exact Ar2.1) (State.isArrayOf_alike hZ.alike Ar2.2.1) (g := (mkF m 9 #[.val (.int (1 : Int32)), .val (.int (0 : Int32)), .val (.int (1 : Int32)), .val .null, .val (.ref wKINDS), .unset, .unset, .unset] [(.ref wKINDS)])) rfl rfl (hb hby own_d1_9) _ ?_
    rw [len_of Sz2 Nn2]
    show Steps p.tables e below (T1.setTop (mkF m 10 #[.val (.int (1 : Int32)), .val (.int (0 : Int32)), .val (.int (1 : Int32)), .val .null, .val (.ref wKINDS), .unset, .unset, .unset] [(.int (7 : Int32))])) _
    refine XS.istore X1.here hx rfl (hb hby own_d1_10) rfl (l' := #[.val (.int (1 : Int32)), .val (.int (0 : Int32)), .val (.int (1 : Int32)), .val .null, .val (.ref wKINDS), .val (.int (7 : Int32)), .unset, .unset]) rfl ?_
    show Steps p.tables e below (T1.setTop (mkF m 12 #[.val (.int (1 : Int32)), .val (.int (0 : Int32)), .val (.int (1 : Int32)), .val .null, .val (.ref wKINDS), .val (.int (7 : Int32)), .unset, .unset] [])) _
    refine XS.iconst X1.here hx rfl (hb hby own_d1_12) ?_
    show Steps p.tables e below (T1.setTop (mkF m 13 #[.val (.int (1 : Int32)), .val (.int (0 : Int32)), .val (.int (1 : Int32)), .val .null, .val (.ref wKINDS), .val (.int (7 : Int32)), .unset, .unset] [(.int (0 : Int32))])) _
    refine XS.istore X1.here hx rfl (hb hby own_d1_13) rfl (l' := #[.val (.int (1 : Int32)), .val (.int (0 : Int32)), .val (.int (1 : Int32)), .val .null, .val (.ref wKINDS), .val (.int (7 : Int32)), .val (.int (0 : Int32)), .unset]) rfl ?_
    show Steps p.tables e below (T1.setTop (mkF m 15 #[.val (.int (1 : Int32)), .val (.int (0 : Int32)), .val (.int (1 : Int32)), .val .null, .val (.ref wKINDS), .val (.int (7 : Int32)), .val (.int (0 : Int32)), .unset] [])) _
    refine XS.iload X1.here hx rfl (hb hby own_d1_15) rfl ?_
    show Steps p.tables e below (T1.setTop (mkF m 17 #[.val (.int (1 : Int32)), .val (.int (0 : Int32)), .val (.int (1 : Int32)), .val .null, .val (.ref wKINDS), .val (.int (7 : Int32)), .val (.int (0 : Int32)), .unset] [(.int (0 : Int32))])) _
    refine XS.iload X1.here hx rfl (hb hby own_d1_17) rfl ?_
    show Steps p.tables e below (T1.setTop (mkF m 19 #[.val (.int (1 : Int32)), .val (.int (0 : Int32)), .val (.int (1 : Int32)), .val .null, .val (.ref wKINDS), .val (.int (7 : Int32)), .val (.int (0 : Int32)), .unset] [(.int (7 : Int32)), (.int (0 : Int32))])) _
    refine XS.icmpNo X1.here hx rfl (hb hby own_d1_19) rfl (by decide) ?_
    show Steps p.tables e below (T1.setTop (mkF m 22 #[.val (.int (1 : Int32)), .val (.int (0 : Int32)), .val (.int (1 : Int32)), .val .null, .val (.ref wKINDS), .val (.int (7 : Int32)), .val (.int (0 : Int32)), .unset] [])) _
    refine XS.aload X1.here hx rfl (hb hby own_d1_22) rfl rfl ?_
    show Steps p.tables e below (T1.setTop (mkF m 24 #[.val (.int (1 : Int32)), .val (.int (0 : Int32)), .val (.int (1 : Int32)), .val .null, .val (.ref wKINDS), .val (.int (7 : Int32)), .val (.int (0 : Int32)), .unset] [(.ref wKINDS)])) _
    refine XS.iload X1.here hx rfl (hb hby own_d1_24) rfl ?_
    show Steps p.tables e below (T1.setTop (mkF m 26 #[.val (.int (1 : Int32)), .val (.int (0 : Int32)), .val (.int (1 : Int32)), .val .null, .val (.ref wKINDS), .val (.int (7 : Int32)), .val (.int (0 : Int32)), .unset] [(.int (0 : Int32)), (.ref wKINDS)])) _
    refine X1.aaload hx (j := (0 : Int32)) (v := (.ref wSUBJECT_PREDICATE_OBJECT)) (by rw [e1]; exact Ar2.1) (State.isArrayOf_alike hZ.alike Ar2.2.1) rfl Ar2.2.2 hin3 hat3 (g := (mkF m 26 #[.val (.int (1 : Int32)), .val (.int (0 : Int32)), .val (.int (1 : Int32)), .val .null, .val (.ref wKINDS), .val (.int (7 : Int32)), .val (.int (0 : Int32)), .unset] [(.int (0 : Int32)), (.ref wKINDS)])) rfl rfl (hb hby own_d1_26) _ ?_
    show Steps p.tables e below (T1.setTop (mkF m 27 #[.val (.int (1 : Int32)), .val (.int (0 : Int32)), .val (.int (1 : Int32)), .val .null, .val (.ref wKINDS), .val (.int (7 : Int32)), .val (.int (0 : Int32)), .unset] [(.ref wSUBJECT_PREDICATE_OBJECT)])) _
    refine XS.astore X1.here hx rfl (hb hby own_d1_27) rfl rfl (l' := #[.val (.int (1 : Int32)), .val (.int (0 : Int32)), .val (.int (1 : Int32)), .val .null, .val (.ref wKINDS), .val (.int (7 : Int32)), .val (.int (0 : Int32)), .val (.ref wSUBJECT_PREDICATE_OBJECT)]) rfl ?_
    show Steps p.tables e below (T1.setTop (mkF m 29 #[.val (.int (1 : Int32)), .val (.int (0 : Int32)), .val (.int (1 : Int32)), .val .null, .val (.ref wKINDS), .val (.int (7 : Int32)), .val (.int (0 : Int32)), .val (.ref wSUBJECT_PREDICATE_OBJECT)] [])) _
    refine XS.aload X1.here hx rfl (hb hby own_d1_29) rfl rfl ?_
    show Steps p.tables e below (T1.setTop (mkF m 31 #[.val (.int (1 : Int32)), .val (.int (0 : Int32)), .val (.int (1 : Int32)), .val .null, .val (.ref wKINDS), .val (.int (7 : Int32)), .val (.int (0 : Int32)), .val (.ref wSUBJECT_PREDICATE_OBJECT)] [(.ref wSUBJECT_PREDICATE_OBJECT)])) _
    refine st4 _ ?_
    show Steps p.tables e below (T4.setTop (mkF m 34 #[.val (.int (1 : Int32)), .val (.int (0 : Int32)), .val (.int (1 : Int32)), .val .null, .val (.ref wKINDS), .val (.int (7 : Int32)), .val (.int (0 : Int32)), .val (.ref wSUBJECT_PREDICATE_OBJECT)] [(.int (1 : Int32))])) _
    refine XS.iloadN X4.here hx rfl (hb hby own_d1_34) rfl ?_
    show Steps p.tables e below (T4.setTop (mkF m 35 #[.val (.int (1 : Int32)), .val (.int (0 : Int32)), .val (.int (1 : Int32)), .val .null, .val (.ref wKINDS), .val (.int (7 : Int32)), .val (.int (0 : Int32)), .val (.ref wSUBJECT_PREDICATE_OBJECT)] [(.int (1 : Int32)), (.int (1 : Int32))])) _
    refine XS.icmpNo X4.here hx rfl (hb hby own_d1_35) rfl (by decide) ?_
    show Steps p.tables e below (T4.setTop (mkF m 38 #[.val (.int (1 : Int32)), .val (.int (0 : Int32)), .val (.int (1 : Int32)), .val .null, .val (.ref wKINDS), .val (.int (7 : Int32)), .val (.int (0 : Int32)), .val (.ref wSUBJECT_PREDICATE_OBJECT)] [])) _
    refine XS.aload X4.here hx rfl (hb hby own_d1_38) rfl rfl ?_
    show Steps p.tables e below (T4.setTop (mkF m 40 #[.val (.int (1 : Int32)), .val (.int (0 : Int32)), .val (.int (1 : Int32)), .val .null, .val (.ref wKINDS), .val (.int (7 : Int32)), .val (.int (0 : Int32)), .val (.ref wSUBJECT_PREDICATE_OBJECT)] [(.ref wSUBJECT_PREDICATE_OBJECT)])) _
    refine st5 _ ?_
    show Steps p.tables e below (T5.setTop (mkF m 43 #[.val (.int (1 : Int32)), .val (.int (0 : Int32)), .val (.int (1 : Int32)), .val .null, .val (.ref wKINDS), .val (.int (7 : Int32)), .val (.int (0 : Int32)), .val (.ref wSUBJECT_PREDICATE_OBJECT)] [(.int (1 : Int32))])) _
    refine XS.iloadN X5.here hx rfl (hb hby own_d1_43) rfl ?_
    show Steps p.tables e below (T5.setTop (mkF m 44 #[.val (.int (1 : Int32)), .val (.int (0 : Int32)), .val (.int (1 : Int32)), .val .null, .val (.ref wKINDS), .val (.int (7 : Int32)), .val (.int (0 : Int32)), .val (.ref wSUBJECT_PREDICATE_OBJECT)] [(.int (0 : Int32)), (.int (1 : Int32))])) _
    refine XS.icmpYes X5.here hx rfl (pc0 := 44) (pc' := 59) rfl (hb hby own_d1_44) rfl (by decide) (by decide) (by decide) ?_
    show Steps p.tables e below (T5.setTop (mkF m 59 #[.val (.int (1 : Int32)), .val (.int (0 : Int32)), .val (.int (1 : Int32)), .val .null, .val (.ref wKINDS), .val (.int (7 : Int32)), .val (.int (0 : Int32)), .val (.ref wSUBJECT_PREDICATE_OBJECT)] [])) _
    refine XS.iinc X5.here hx rfl (hb hby own_d1_59) rfl (l' := #[.val (.int (1 : Int32)), .val (.int (0 : Int32)), .val (.int (1 : Int32)), .val .null, .val (.ref wKINDS), .val (.int (7 : Int32)), .val (.int (1 : Int32)), .val (.ref wSUBJECT_PREDICATE_OBJECT)]) rfl ?_
    show Steps p.tables e below (T5.setTop (mkF m 62 #[.val (.int (1 : Int32)), .val (.int (0 : Int32)), .val (.int (1 : Int32)), .val .null, .val (.ref wKINDS), .val (.int (7 : Int32)), .val (.int (1 : Int32)), .val (.ref wSUBJECT_PREDICATE_OBJECT)] [])) _
    refine XS.goto X5.here hx rfl (pc0 := 62) (pc' := 15) rfl (hb hby own_d1_62) (by decide) (by decide) ?_
    show Steps p.tables e below (T5.setTop (mkF m 15 #[.val (.int (1 : Int32)), .val (.int (0 : Int32)), .val (.int (1 : Int32)), .val .null, .val (.ref wKINDS), .val (.int (7 : Int32)), .val (.int (1 : Int32)), .val (.ref wSUBJECT_PREDICATE_OBJECT)] [])) _
    refine XS.iload X5.here hx rfl (hb hby own_d1_15) rfl ?_
    show Steps p.tables e below (T5.setTop (mkF m 17 #[.val (.int (1 : Int32)), .val (.int (0 : Int32)), .val (.int (1 : Int32)), .val .null, .val (.ref wKINDS), .val (.int (7 : Int32)), .val (.int (1 : Int32)), .val (.ref wSUBJECT_PREDICATE_OBJECT)] [(.int (1 : Int32))])) _
    refine XS.iload X5.here hx rfl (hb hby own_d1_17) rfl ?_
    show Steps p.tables e below (T5.setTop (mkF m 19 #[.val (.int (1 : Int32)), .val (.int (0 : Int32)), .val (.int (1 : Int32)), .val .null, .val (.ref wKINDS), .val (.int (7 : Int32)), .val (.int (1 : Int32)), .val (.ref wSUBJECT_PREDICATE_OBJECT)] [(.int (7 : Int32)), (.int (1 : Int32))])) _
    refine XS.icmpNo X5.here hx rfl (hb hby own_d1_19) rfl (by decide) ?_
    show Steps p.tables e below (T5.setTop (mkF m 22 #[.val (.int (1 : Int32)), .val (.int (0 : Int32)), .val (.int (1 : Int32)), .val .null, .val (.ref wKINDS), .val (.int (7 : Int32)), .val (.int (1 : Int32)), .val (.ref wSUBJECT_PREDICATE_OBJECT)] [])) _
    refine XS.aload X5.here hx rfl (hb hby own_d1_22) rfl rfl ?_
    show Steps p.tables e below (T5.setTop (mkF m 24 #[.val (.int (1 : Int32)), .val (.int (0 : Int32)), .val (.int (1 : Int32)), .val .null, .val (.ref wKINDS), .val (.int (7 : Int32)), .val (.int (1 : Int32)), .val (.ref wSUBJECT_PREDICATE_OBJECT)] [(.ref wKINDS)])) _
    refine XS.iload X5.here hx rfl (hb hby own_d1_24) rfl ?_
    show Steps p.tables e below (T5.setTop (mkF m 26 #[.val (.int (1 : Int32)), .val (.int (0 : Int32)), .val (.int (1 : Int32)), .val .null, .val (.ref wKINDS), .val (.int (7 : Int32)), .val (.int (1 : Int32)), .val (.ref wSUBJECT_PREDICATE_OBJECT)] [(.int (1 : Int32)), (.ref wKINDS)])) _
    refine X5.aaload hx (j := (1 : Int32)) (v := (.ref wSUBJECT_PREDICATE)) (by rw [e5]; exact Ar2.1) (State.isArrayOf_alike hZ.alike Ar2.2.1) rfl Ar2.2.2 hin6 hat6 (g := (mkF m 26 #[.val (.int (1 : Int32)), .val (.int (0 : Int32)), .val (.int (1 : Int32)), .val .null, .val (.ref wKINDS), .val (.int (7 : Int32)), .val (.int (1 : Int32)), .val (.ref wSUBJECT_PREDICATE_OBJECT)] [(.int (1 : Int32)), (.ref wKINDS)])) rfl rfl (hb hby own_d1_26) _ ?_
    show Steps p.tables e below (T5.setTop (mkF m 27 #[.val (.int (1 : Int32)), .val (.int (0 : Int32)), .val (.int (1 : Int32)), .val .null, .val (.ref wKINDS), .val (.int (7 : Int32)), .val (.int (1 : Int32)), .val (.ref wSUBJECT_PREDICATE_OBJECT)] [(.ref wSUBJECT_PREDICATE)])) _
    refine XS.astore X5.here hx rfl (hb hby own_d1_27) rfl rfl (l' := #[.val (.int (1 : Int32)), .val (.int (0 : Int32)), .val (.int (1 : Int32)), .val .null, .val (.ref wKINDS), .val (.int (7 : Int32)), .val (.int (1 : Int32)), .val (.ref wSUBJECT_PREDICATE)]) rfl ?_
    show Steps p.tables e below (T5.setTop (mkF m 29 #[.val (.int (1 : Int32)), .val (.int (0 : Int32)), .val (.int (1 : Int32)), .val .null, .val (.ref wKINDS), .val (.int (7 : Int32)), .val (.int (1 : Int32)), .val (.ref wSUBJECT_PREDICATE)] [])) _
    refine XS.aload X5.here hx rfl (hb hby own_d1_29) rfl rfl ?_
    show Steps p.tables e below (T5.setTop (mkF m 31 #[.val (.int (1 : Int32)), .val (.int (0 : Int32)), .val (.int (1 : Int32)), .val .null, .val (.ref wKINDS), .val (.int (7 : Int32)), .val (.int (1 : Int32)), .val (.ref wSUBJECT_PREDICATE)] [(.ref wSUBJECT_PREDICATE)])) _
    refine st7 _ ?_
    show Steps p.tables e below (T7.setTop (mkF m 34 #[.val (.int (1 : Int32)), .val (.int (0 : Int32)), .val (.int (1 : Int32)), .val .null, .val (.ref wKINDS), .val (.int (7 : Int32)), .val (.int (1 : Int32)), .val (.ref wSUBJECT_PREDICATE)] [(.int (1 : Int32))])) _
    refine XS.iloadN X7.here hx rfl (hb hby own_d1_34) rfl ?_
    show Steps p.tables e below (T7.setTop (mkF m 35 #[.val (.int (1 : Int32)), .val (.int (0 : Int32)), .val (.int (1 : Int32)), .val .null, .val (.ref wKINDS), .val (.int (7 : Int32)), .val (.int (1 : Int32)), .val (.ref wSUBJECT_PREDICATE)] [(.int (1 : Int32)), (.int (1 : Int32))])) _
    refine XS.icmpNo X7.here hx rfl (hb hby own_d1_35) rfl (by decide) ?_
    show Steps p.tables e below (T7.setTop (mkF m 38 #[.val (.int (1 : Int32)), .val (.int (0 : Int32)), .val (.int (1 : Int32)), .val .null, .val (.ref wKINDS), .val (.int (7 : Int32)), .val (.int (1 : Int32)), .val (.ref wSUBJECT_PREDICATE)] [])) _
    refine XS.aload X7.here hx rfl (hb hby own_d1_38) rfl rfl ?_
    show Steps p.tables e below (T7.setTop (mkF m 40 #[.val (.int (1 : Int32)), .val (.int (0 : Int32)), .val (.int (1 : Int32)), .val .null, .val (.ref wKINDS), .val (.int (7 : Int32)), .val (.int (1 : Int32)), .val (.ref wSUBJECT_PREDICATE)] [(.ref wSUBJECT_PREDICATE)])) _
    refine st8 _ ?_
    show Steps p.tables e below (T8.setTop (mkF m 43 #[.val (.int (1 : Int32)), .val (.int (0 : Int32)), .val (.int (1 : Int32)), .val .null, .val (.ref wKINDS), .val (.int (7 : Int32)), .val (.int (1 : Int32)), .val (.ref wSUBJECT_PREDICATE)] [(.int (1 : Int32))])) _
    refine XS.iloadN X8.here hx rfl (hb hby own_d1_43) rfl ?_
    show Steps p.tables e below (T8.setTop (mkF m 44 #[.val (.int (1 : Int32)), .val (.int (0 : Int32)), .val (.int (1 : Int32)), .val .null, .val (.ref wKINDS), .val (.int (7 : Int32)), .val (.int (1 : Int32)), .val (.ref wSUBJECT_PREDICATE)] [(.int (0 : Int32)), (.int (1 : Int32))])) _
    refine XS.icmpYes X8.here hx rfl (pc0 := 44) (pc' := 59) rfl (hb hby own_d1_44) rfl (by decide) (by decide) (by decide) ?_
    show Steps p.tables e below (T8.setTop (mkF m 59 #[.val (.int (1 : Int32)), .val (.int (0 : Int32)), .val (.int (1 : Int32)), .val .null, .val (.ref wKINDS), .val (.int (7 : Int32)), .val (.int (1 : Int32)), .val (.ref wSUBJECT_PREDICATE)] [])) _
    refine XS.iinc X8.here hx rfl (hb hby own_d1_59) rfl (l' := #[.val (.int (1 : Int32)), .val (.int (0 : Int32)), .val (.int (1 : Int32)), .val .null, .val (.ref wKINDS), .val (.int (7 : Int32)), .val (.int (2 : Int32)), .val (.ref wSUBJECT_PREDICATE)]) rfl ?_
    show Steps p.tables e below (T8.setTop (mkF m 62 #[.val (.int (1 : Int32)), .val (.int (0 : Int32)), .val (.int (1 : Int32)), .val .null, .val (.ref wKINDS), .val (.int (7 : Int32)), .val (.int (2 : Int32)), .val (.ref wSUBJECT_PREDICATE)] [])) _
    refine XS.goto X8.here hx rfl (pc0 := 62) (pc' := 15) rfl (hb hby own_d1_62) (by decide) (by decide) ?_
    show Steps p.tables e below (T8.setTop (mkF m 15 #[.val (.int (1 : Int32)), .val (.int (0 : Int32)), .val (.int (1 : Int32)), .val .null, .val (.ref wKINDS), .val (.int (7 : Int32)), .val (.int (2 : Int32)), .val (.ref wSUBJECT_PREDICATE)] [])) _
    refine XS.iload X8.here hx rfl (hb hby own_d1_15) rfl ?_
    show Steps p.tables e below (T8.setTop (mkF m 17 #[.val (.int (1 : Int32)), .val (.int (0 : Int32)), .val (.int (1 : Int32)), .val .null, .val (.ref wKINDS), .val (.int (7 : Int32)), .val (.int (2 : Int32)), .val (.ref wSUBJECT_PREDICATE)] [(.int (2 : Int32))])) _
    refine XS.iload X8.here hx rfl (hb hby own_d1_17) rfl ?_
    show Steps p.tables e below (T8.setTop (mkF m 19 #[.val (.int (1 : Int32)), .val (.int (0 : Int32)), .val (.int (1 : Int32)), .val .null, .val (.ref wKINDS), .val (.int (7 : Int32)), .val (.int (2 : Int32)), .val (.ref wSUBJECT_PREDICATE)] [(.int (7 : Int32)), (.int (2 : Int32))])) _
    refine XS.icmpNo X8.here hx rfl (hb hby own_d1_19) rfl (by decide) ?_
    show Steps p.tables e below (T8.setTop (mkF m 22 #[.val (.int (1 : Int32)), .val (.int (0 : Int32)), .val (.int (1 : Int32)), .val .null, .val (.ref wKINDS), .val (.int (7 : Int32)), .val (.int (2 : Int32)), .val (.ref wSUBJECT_PREDICATE)] [])) _
    refine XS.aload X8.here hx rfl (hb hby own_d1_22) rfl rfl ?_
    show Steps p.tables e below (T8.setTop (mkF m 24 #[.val (.int (1 : Int32)), .val (.int (0 : Int32)), .val (.int (1 : Int32)), .val .null, .val (.ref wKINDS), .val (.int (7 : Int32)), .val (.int (2 : Int32)), .val (.ref wSUBJECT_PREDICATE)] [(.ref wKINDS)])) _
    refine XS.iload X8.here hx rfl (hb hby own_d1_24) rfl ?_
    show Steps p.tables e below (T8.setTop (mkF m 26 #[.val (.int (1 : Int32)), .val (.int (0 : Int32)), .val (.int (1 : Int32)), .val .null, .val (.ref wKINDS), .val (.int (7 : Int32)), .val (.int (2 : Int32)), .val (.ref wSUBJECT_PREDICATE)] [(.int (2 : Int32)), (.ref wKINDS)])) _
    refine X8.aaload hx (j := (2 : Int32)) (v := (.ref wSUBJECT_OBJECT)) (by rw [e8]; exact Ar2.1) (State.isArrayOf_alike hZ.alike Ar2.2.1) rfl Ar2.2.2 hin9 hat9 (g := (mkF m 26 #[.val (.int (1 : Int32)), .val (.int (0 : Int32)), .val (.int (1 : Int32)), .val .null, .val (.ref wKINDS), .val (.int (7 : Int32)), .val (.int (2 : Int32)), .val (.ref wSUBJECT_PREDICATE)] [(.int (2 : Int32)), (.ref wKINDS)])) rfl rfl (hb hby own_d1_26) _ ?_
    show Steps p.tables e below (T8.setTop (mkF m 27 #[.val (.int (1 : Int32)), .val (.int (0 : Int32)), .val (.int (1 : Int32)), .val .null, .val (.ref wKINDS), .val (.int (7 : Int32)), .val (.int (2 : Int32)), .val (.ref wSUBJECT_PREDICATE)] [(.ref wSUBJECT_OBJECT)])) _
    refine XS.astore X8.here hx rfl (hb hby own_d1_27) rfl rfl (l' := #[.val (.int (1 : Int32)), .val (.int (0 : Int32)), .val (.int (1 : Int32)), .val .null, .val (.ref wKINDS), .val (.int (7 : Int32)), .val (.int (2 : Int32)), .val (.ref wSUBJECT_OBJECT)]) rfl ?_
    show Steps p.tables e below (T8.setTop (mkF m 29 #[.val (.int (1 : Int32)), .val (.int (0 : Int32)), .val (.int (1 : Int32)), .val .null, .val (.ref wKINDS), .val (.int (7 : Int32)), .val (.int (2 : Int32)), .val (.ref wSUBJECT_OBJECT)] [])) _
    refine XS.aload X8.here hx rfl (hb hby own_d1_29) rfl rfl ?_
    show Steps p.tables e below (T8.setTop (mkF m 31 #[.val (.int (1 : Int32)), .val (.int (0 : Int32)), .val (.int (1 : Int32)), .val .null, .val (.ref wKINDS), .val (.int (7 : Int32)), .val (.int (2 : Int32)), .val (.ref wSUBJECT_OBJECT)] [(.ref wSUBJECT_OBJECT)])) _
    refine st10 _ ?_
    show Steps p.tables e below (T10.setTop (mkF m 34 #[.val (.int (1 : Int32)), .val (.int (0 : Int32)), .val (.int (1 : Int32)), .val .null, .val (.ref wKINDS), .val (.int (7 : Int32)), .val (.int (2 : Int32)), .val (.ref wSUBJECT_OBJECT)] [(.int (1 : Int32))])) _
    refine XS.iloadN X10.here hx rfl (hb hby own_d1_34) rfl ?_
    show Steps p.tables e below (T10.setTop (mkF m 35 #[.val (.int (1 : Int32)), .val (.int (0 : Int32)), .val (.int (1 : Int32)), .val .null, .val (.ref wKINDS), .val (.int (7 : Int32)), .val (.int (2 : Int32)), .val (.ref wSUBJECT_OBJECT)] [(.int (1 : Int32)), (.int (1 : Int32))])) _
    refine XS.icmpNo X10.here hx rfl (hb hby own_d1_35) rfl (by decide) ?_
    show Steps p.tables e below (T10.setTop (mkF m 38 #[.val (.int (1 : Int32)), .val (.int (0 : Int32)), .val (.int (1 : Int32)), .val .null, .val (.ref wKINDS), .val (.int (7 : Int32)), .val (.int (2 : Int32)), .val (.ref wSUBJECT_OBJECT)] [])) _
    refine XS.aload X10.here hx rfl (hb hby own_d1_38) rfl rfl ?_
    show Steps p.tables e below (T10.setTop (mkF m 40 #[.val (.int (1 : Int32)), .val (.int (0 : Int32)), .val (.int (1 : Int32)), .val .null, .val (.ref wKINDS), .val (.int (7 : Int32)), .val (.int (2 : Int32)), .val (.ref wSUBJECT_OBJECT)] [(.ref wSUBJECT_OBJECT)])) _
    refine st11 _ ?_
    show Steps p.tables e below (T11.setTop (mkF m 43 #[.val (.int (1 : Int32)), .val (.int (0 : Int32)), .val (.int (1 : Int32)), .val .null, .val (.ref wKINDS), .val (.int (7 : Int32)), .val (.int (2 : Int32)), .val (.ref wSUBJECT_OBJECT)] [(.int (0 : Int32))])) _
    refine XS.iloadN X11.here hx rfl (hb hby own_d1_43) rfl ?_
    show Steps p.tables e below (T11.setTop (mkF m 44 #[.val (.int (1 : Int32)), .val (.int (0 : Int32)), .val (.int (1 : Int32)), .val .null, .val (.ref wKINDS), .val (.int (7 : Int32)), .val (.int (2 : Int32)), .val (.ref wSUBJECT_OBJECT)] [(.int (0 : Int32)), (.int (0 : Int32))])) _
    refine XS.icmpNo X11.here hx rfl (hb hby own_d1_44) rfl (by decide) ?_
    show Steps p.tables e below (T11.setTop (mkF m 47 #[.val (.int (1 : Int32)), .val (.int (0 : Int32)), .val (.int (1 : Int32)), .val .null, .val (.ref wKINDS), .val (.int (7 : Int32)), .val (.int (2 : Int32)), .val (.ref wSUBJECT_OBJECT)] [])) _
    refine XS.aload X11.here hx rfl (hb hby own_d1_47) rfl rfl ?_
    show Steps p.tables e below (T11.setTop (mkF m 49 #[.val (.int (1 : Int32)), .val (.int (0 : Int32)), .val (.int (1 : Int32)), .val .null, .val (.ref wKINDS), .val (.int (7 : Int32)), .val (.int (2 : Int32)), .val (.ref wSUBJECT_OBJECT)] [(.ref wSUBJECT_OBJECT)])) _
    refine st12 _ ?_
    show Steps p.tables e below (T12.setTop (mkF m 52 #[.val (.int (1 : Int32)), .val (.int (0 : Int32)), .val (.int (1 : Int32)), .val .null, .val (.ref wKINDS), .val (.int (7 : Int32)), .val (.int (2 : Int32)), .val (.ref wSUBJECT_OBJECT)] [(.int (1 : Int32))])) _
    refine XS.iloadN X12.here hx rfl (hb hby own_d1_52) rfl ?_
    show Steps p.tables e below (T12.setTop (mkF m 53 #[.val (.int (1 : Int32)), .val (.int (0 : Int32)), .val (.int (1 : Int32)), .val .null, .val (.ref wKINDS), .val (.int (7 : Int32)), .val (.int (2 : Int32)), .val (.ref wSUBJECT_OBJECT)] [(.int (1 : Int32)), (.int (1 : Int32))])) _
    refine XS.icmpNo X12.here hx rfl (hb hby own_d1_53) rfl (by decide) ?_
    show Steps p.tables e below (T12.setTop (mkF m 56 #[.val (.int (1 : Int32)), .val (.int (0 : Int32)), .val (.int (1 : Int32)), .val .null, .val (.ref wKINDS), .val (.int (7 : Int32)), .val (.int (2 : Int32)), .val (.ref wSUBJECT_OBJECT)] [])) _
    refine XS.aload X12.here hx rfl (hb hby own_d1_56) rfl rfl ?_
    show Steps p.tables e below (T12.setTop (mkF m 58 #[.val (.int (1 : Int32)), .val (.int (0 : Int32)), .val (.int (1 : Int32)), .val .null, .val (.ref wKINDS), .val (.int (7 : Int32)), .val (.int (2 : Int32)), .val (.ref wSUBJECT_OBJECT)] [(.ref wSUBJECT_OBJECT)])) _
    refine XS.astoreN X12.here hx rfl (hb hby own_d1_58) rfl rfl (l' := #[.val (.int (1 : Int32)), .val (.int (0 : Int32)), .val (.int (1 : Int32)), .val (.ref wSUBJECT_OBJECT), .val (.ref wKINDS), .val (.int (7 : Int32)), .val (.int (2 : Int32)), .val (.ref wSUBJECT_OBJECT)]) rfl ?_
    show Steps p.tables e below (T12.setTop (mkF m 59 #[.val (.int (1 : Int32)), .val (.int (0 : Int32)), .val (.int (1 : Int32)), .val (.ref wSUBJECT_OBJECT), .val (.ref wKINDS), .val (.int (7 : Int32)), .val (.int (2 : Int32)), .val (.ref wSUBJECT_OBJECT)] [])) _
    refine XS.iinc X12.here hx rfl (hb hby own_d1_59) rfl (l' := #[.val (.int (1 : Int32)), .val (.int (0 : Int32)), .val (.int (1 : Int32)), .val (.ref wSUBJECT_OBJECT), .val (.ref wKINDS), .val (.int (7 : Int32)), .val (.int (3 : Int32)), .val (.ref wSUBJECT_OBJECT)]) rfl ?_
    show Steps p.tables e below (T12.setTop (mkF m 62 #[.val (.int (1 : Int32)), .val (.int (0 : Int32)), .val (.int (1 : Int32)), .val (.ref wSUBJECT_OBJECT), .val (.ref wKINDS), .val (.int (7 : Int32)), .val (.int (3 : Int32)), .val (.ref wSUBJECT_OBJECT)] [])) _
    refine XS.goto X12.here hx rfl (pc0 := 62) (pc' := 15) rfl (hb hby own_d1_62) (by decide) (by decide) ?_
    show Steps p.tables e below (T12.setTop (mkF m 15 #[.val (.int (1 : Int32)), .val (.int (0 : Int32)), .val (.int (1 : Int32)), .val (.ref wSUBJECT_OBJECT), .val (.ref wKINDS), .val (.int (7 : Int32)), .val (.int (3 : Int32)), .val (.ref wSUBJECT_OBJECT)] [])) _
    refine XS.iload X12.here hx rfl (hb hby own_d1_15) rfl ?_
    show Steps p.tables e below (T12.setTop (mkF m 17 #[.val (.int (1 : Int32)), .val (.int (0 : Int32)), .val (.int (1 : Int32)), .val (.ref wSUBJECT_OBJECT), .val (.ref wKINDS), .val (.int (7 : Int32)), .val (.int (3 : Int32)), .val (.ref wSUBJECT_OBJECT)] [(.int (3 : Int32))])) _
    refine XS.iload X12.here hx rfl (hb hby own_d1_17) rfl ?_
    show Steps p.tables e below (T12.setTop (mkF m 19 #[.val (.int (1 : Int32)), .val (.int (0 : Int32)), .val (.int (1 : Int32)), .val (.ref wSUBJECT_OBJECT), .val (.ref wKINDS), .val (.int (7 : Int32)), .val (.int (3 : Int32)), .val (.ref wSUBJECT_OBJECT)] [(.int (7 : Int32)), (.int (3 : Int32))])) _
    refine XS.icmpNo X12.here hx rfl (hb hby own_d1_19) rfl (by decide) ?_
    show Steps p.tables e below (T12.setTop (mkF m 22 #[.val (.int (1 : Int32)), .val (.int (0 : Int32)), .val (.int (1 : Int32)), .val (.ref wSUBJECT_OBJECT), .val (.ref wKINDS), .val (.int (7 : Int32)), .val (.int (3 : Int32)), .val (.ref wSUBJECT_OBJECT)] [])) _
    refine XS.aload X12.here hx rfl (hb hby own_d1_22) rfl rfl ?_
    show Steps p.tables e below (T12.setTop (mkF m 24 #[.val (.int (1 : Int32)), .val (.int (0 : Int32)), .val (.int (1 : Int32)), .val (.ref wSUBJECT_OBJECT), .val (.ref wKINDS), .val (.int (7 : Int32)), .val (.int (3 : Int32)), .val (.ref wSUBJECT_OBJECT)] [(.ref wKINDS)])) _
    refine XS.iload X12.here hx rfl (hb hby own_d1_24) rfl ?_
    show Steps p.tables e below (T12.setTop (mkF m 26 #[.val (.int (1 : Int32)), .val (.int (0 : Int32)), .val (.int (1 : Int32)), .val (.ref wSUBJECT_OBJECT), .val (.ref wKINDS), .val (.int (7 : Int32)), .val (.int (3 : Int32)), .val (.ref wSUBJECT_OBJECT)] [(.int (3 : Int32)), (.ref wKINDS)])) _
    refine X12.aaload hx (j := (3 : Int32)) (v := (.ref wPREDICATE_OBJECT)) (by rw [e12]; exact Ar2.1) (State.isArrayOf_alike hZ.alike Ar2.2.1) rfl Ar2.2.2 hin13 hat13 (g := (mkF m 26 #[.val (.int (1 : Int32)), .val (.int (0 : Int32)), .val (.int (1 : Int32)), .val (.ref wSUBJECT_OBJECT), .val (.ref wKINDS), .val (.int (7 : Int32)), .val (.int (3 : Int32)), .val (.ref wSUBJECT_OBJECT)] [(.int (3 : Int32)), (.ref wKINDS)])) rfl rfl (hb hby own_d1_26) _ ?_
    show Steps p.tables e below (T12.setTop (mkF m 27 #[.val (.int (1 : Int32)), .val (.int (0 : Int32)), .val (.int (1 : Int32)), .val (.ref wSUBJECT_OBJECT), .val (.ref wKINDS), .val (.int (7 : Int32)), .val (.int (3 : Int32)), .val (.ref wSUBJECT_OBJECT)] [(.ref wPREDICATE_OBJECT)])) _
    refine XS.astore X12.here hx rfl (hb hby own_d1_27) rfl rfl (l' := #[.val (.int (1 : Int32)), .val (.int (0 : Int32)), .val (.int (1 : Int32)), .val (.ref wSUBJECT_OBJECT), .val (.ref wKINDS), .val (.int (7 : Int32)), .val (.int (3 : Int32)), .val (.ref wPREDICATE_OBJECT)]) rfl ?_
    show Steps p.tables e below (T12.setTop (mkF m 29 #[.val (.int (1 : Int32)), .val (.int (0 : Int32)), .val (.int (1 : Int32)), .val (.ref wSUBJECT_OBJECT), .val (.ref wKINDS), .val (.int (7 : Int32)), .val (.int (3 : Int32)), .val (.ref wPREDICATE_OBJECT)] [])) _
    refine XS.aload X12.here hx rfl (hb hby own_d1_29) rfl rfl ?_
    show Steps p.tables e below (T12.setTop (mkF m 31 #[.val (.int (1 : Int32)), .val (.int (0 : Int32)), .val (.int (1 : Int32)), .val (.ref wSUBJECT_OBJECT), .val (.ref wKINDS), .val (.int (7 : Int32)), .val (.int (3 : Int32)), .val (.ref wPREDICATE_OBJECT)] [(.ref wPREDICATE_OBJECT)])) _
    refine st14 _ ?_
    show Steps p.tables e below (T14.setTop (mkF m 34 #[.val (.int (1 : Int32)), .val (.int (0 : Int32)), .val (.int (1 : Int32)), .val (.ref wSUBJECT_OBJECT), .val (.ref wKINDS), .val (.int (7 : Int32)), .val (.int (3 : Int32)), .val (.ref wPREDICATE_OBJECT)] [(.int (0 : Int32))])) _
    refine XS.iloadN X14.here hx rfl (hb hby own_d1_34) rfl ?_
    show Steps p.tables e below (T14.setTop (mkF m 35 #[.val (.int (1 : Int32)), .val (.int (0 : Int32)), .val (.int (1 : Int32)), .val (.ref wSUBJECT_OBJECT), .val (.ref wKINDS), .val (.int (7 : Int32)), .val (.int (3 : Int32)), .val (.ref wPREDICATE_OBJECT)] [(.int (1 : Int32)), (.int (0 : Int32))])) _
    refine XS.icmpYes X14.here hx rfl (pc0 := 35) (pc' := 59) rfl (hb hby own_d1_35) rfl (by decide) (by decide) (by decide) ?_
    show Steps p.tables e below (T14.setTop (mkF m 59 #[.val (.int (1 : Int32)), .val (.int (0 : Int32)), .val (.int (1 : Int32)), .val (.ref wSUBJECT_OBJECT), .val (.ref wKINDS), .val (.int (7 : Int32)), .val (.int (3 : Int32)), .val (.ref wPREDICATE_OBJECT)] [])) _
    refine XS.iinc X14.here hx rfl (hb hby own_d1_59) rfl (l' := #[.val (.int (1 : Int32)), .val (.int (0 : Int32)), .val (.int (1 : Int32)), .val (.ref wSUBJECT_OBJECT), .val (.ref wKINDS), .val (.int (7 : Int32)), .val (.int (4 : Int32)), .val (.ref wPREDICATE_OBJECT)]) rfl ?_
    show Steps p.tables e below (T14.setTop (mkF m 62 #[.val (.int (1 : Int32)), .val (.int (0 : Int32)), .val (.int (1 : Int32)), .val (.ref wSUBJECT_OBJECT), .val (.ref wKINDS), .val (.int (7 : Int32)), .val (.int (4 : Int32)), .val (.ref wPREDICATE_OBJECT)] [])) _
    refine XS.goto X14.here hx rfl (pc0 := 62) (pc' := 15) rfl (hb hby own_d1_62) (by decide) (by decide) ?_
    show Steps p.tables e below (T14.setTop (mkF m 15 #[.val (.int (1 : Int32)), .val (.int (0 : Int32)), .val (.int (1 : Int32)), .val (.ref wSUBJECT_OBJECT), .val (.ref wKINDS), .val (.int (7 : Int32)), .val (.int (4 : Int32)), .val (.ref wPREDICATE_OBJECT)] [])) _
    refine XS.iload X14.here hx rfl (hb hby own_d1_15) rfl ?_
    show Steps p.tables e below (T14.setTop (mkF m 17 #[.val (.int (1 : Int32)), .val (.int (0 : Int32)), .val (.int (1 : Int32)), .val (.ref wSUBJECT_OBJECT), .val (.ref wKINDS), .val (.int (7 : Int32)), .val (.int (4 : Int32)), .val (.ref wPREDICATE_OBJECT)] [(.int (4 : Int32))])) _
    refine XS.iload X14.here hx rfl (hb hby own_d1_17) rfl ?_
    show Steps p.tables e below (T14.setTop (mkF m 19 #[.val (.int (1 : Int32)), .val (.int (0 : Int32)), .val (.int (1 : Int32)), .val (.ref wSUBJECT_OBJECT), .val (.ref wKINDS), .val (.int (7 : Int32)), .val (.int (4 : Int32)), .val (.ref wPREDICATE_OBJECT)] [(.int (7 : Int32)), (.int (4 : Int32))])) _
    refine XS.icmpNo X14.here hx rfl (hb hby own_d1_19) rfl (by decide) ?_
    show Steps p.tables e below (T14.setTop (mkF m 22 #[.val (.int (1 : Int32)), .val (.int (0 : Int32)), .val (.int (1 : Int32)), .val (.ref wSUBJECT_OBJECT), .val (.ref wKINDS), .val (.int (7 : Int32)), .val (.int (4 : Int32)), .val (.ref wPREDICATE_OBJECT)] [])) _
    refine XS.aload X14.here hx rfl (hb hby own_d1_22) rfl rfl ?_
    show Steps p.tables e below (T14.setTop (mkF m 24 #[.val (.int (1 : Int32)), .val (.int (0 : Int32)), .val (.int (1 : Int32)), .val (.ref wSUBJECT_OBJECT), .val (.ref wKINDS), .val (.int (7 : Int32)), .val (.int (4 : Int32)), .val (.ref wPREDICATE_OBJECT)] [(.ref wKINDS)])) _
    refine XS.iload X14.here hx rfl (hb hby own_d1_24) rfl ?_
    show Steps p.tables e below (T14.setTop (mkF m 26 #[.val (.int (1 : Int32)), .val (.int (0 : Int32)), .val (.int (1 : Int32)), .val (.ref wSUBJECT_OBJECT), .val (.ref wKINDS), .val (.int (7 : Int32)), .val (.int (4 : Int32)), .val (.ref wPREDICATE_OBJECT)] [(.int (4 : Int32)), (.ref wKINDS)])) _
    refine X14.aaload hx (j := (4 : Int32)) (v := (.ref wSUBJECT)) (by rw [e14]; exact Ar2.1) (State.isArrayOf_alike hZ.alike Ar2.2.1) rfl Ar2.2.2 hin15 hat15 (g := (mkF m 26 #[.val (.int (1 : Int32)), .val (.int (0 : Int32)), .val (.int (1 : Int32)), .val (.ref wSUBJECT_OBJECT), .val (.ref wKINDS), .val (.int (7 : Int32)), .val (.int (4 : Int32)), .val (.ref wPREDICATE_OBJECT)] [(.int (4 : Int32)), (.ref wKINDS)])) rfl rfl (hb hby own_d1_26) _ ?_
    show Steps p.tables e below (T14.setTop (mkF m 27 #[.val (.int (1 : Int32)), .val (.int (0 : Int32)), .val (.int (1 : Int32)), .val (.ref wSUBJECT_OBJECT), .val (.ref wKINDS), .val (.int (7 : Int32)), .val (.int (4 : Int32)), .val (.ref wPREDICATE_OBJECT)] [(.ref wSUBJECT)])) _
    refine XS.astore X14.here hx rfl (hb hby own_d1_27) rfl rfl (l' := #[.val (.int (1 : Int32)), .val (.int (0 : Int32)), .val (.int (1 : Int32)), .val (.ref wSUBJECT_OBJECT), .val (.ref wKINDS), .val (.int (7 : Int32)), .val (.int (4 : Int32)), .val (.ref wSUBJECT)]) rfl ?_
    show Steps p.tables e below (T14.setTop (mkF m 29 #[.val (.int (1 : Int32)), .val (.int (0 : Int32)), .val (.int (1 : Int32)), .val (.ref wSUBJECT_OBJECT), .val (.ref wKINDS), .val (.int (7 : Int32)), .val (.int (4 : Int32)), .val (.ref wSUBJECT)] [])) _
    refine XS.aload X14.here hx rfl (hb hby own_d1_29) rfl rfl ?_
    show Steps p.tables e below (T14.setTop (mkF m 31 #[.val (.int (1 : Int32)), .val (.int (0 : Int32)), .val (.int (1 : Int32)), .val (.ref wSUBJECT_OBJECT), .val (.ref wKINDS), .val (.int (7 : Int32)), .val (.int (4 : Int32)), .val (.ref wSUBJECT)] [(.ref wSUBJECT)])) _
    refine st16 _ ?_
    show Steps p.tables e below (T16.setTop (mkF m 34 #[.val (.int (1 : Int32)), .val (.int (0 : Int32)), .val (.int (1 : Int32)), .val (.ref wSUBJECT_OBJECT), .val (.ref wKINDS), .val (.int (7 : Int32)), .val (.int (4 : Int32)), .val (.ref wSUBJECT)] [(.int (1 : Int32))])) _
    refine XS.iloadN X16.here hx rfl (hb hby own_d1_34) rfl ?_
    show Steps p.tables e below (T16.setTop (mkF m 35 #[.val (.int (1 : Int32)), .val (.int (0 : Int32)), .val (.int (1 : Int32)), .val (.ref wSUBJECT_OBJECT), .val (.ref wKINDS), .val (.int (7 : Int32)), .val (.int (4 : Int32)), .val (.ref wSUBJECT)] [(.int (1 : Int32)), (.int (1 : Int32))])) _
    refine XS.icmpNo X16.here hx rfl (hb hby own_d1_35) rfl (by decide) ?_
    show Steps p.tables e below (T16.setTop (mkF m 38 #[.val (.int (1 : Int32)), .val (.int (0 : Int32)), .val (.int (1 : Int32)), .val (.ref wSUBJECT_OBJECT), .val (.ref wKINDS), .val (.int (7 : Int32)), .val (.int (4 : Int32)), .val (.ref wSUBJECT)] [])) _
    refine XS.aload X16.here hx rfl (hb hby own_d1_38) rfl rfl ?_
    show Steps p.tables e below (T16.setTop (mkF m 40 #[.val (.int (1 : Int32)), .val (.int (0 : Int32)), .val (.int (1 : Int32)), .val (.ref wSUBJECT_OBJECT), .val (.ref wKINDS), .val (.int (7 : Int32)), .val (.int (4 : Int32)), .val (.ref wSUBJECT)] [(.ref wSUBJECT)])) _
    refine st17 _ ?_
    show Steps p.tables e below (T17.setTop (mkF m 43 #[.val (.int (1 : Int32)), .val (.int (0 : Int32)), .val (.int (1 : Int32)), .val (.ref wSUBJECT_OBJECT), .val (.ref wKINDS), .val (.int (7 : Int32)), .val (.int (4 : Int32)), .val (.ref wSUBJECT)] [(.int (0 : Int32))])) _
    refine XS.iloadN X17.here hx rfl (hb hby own_d1_43) rfl ?_
    show Steps p.tables e below (T17.setTop (mkF m 44 #[.val (.int (1 : Int32)), .val (.int (0 : Int32)), .val (.int (1 : Int32)), .val (.ref wSUBJECT_OBJECT), .val (.ref wKINDS), .val (.int (7 : Int32)), .val (.int (4 : Int32)), .val (.ref wSUBJECT)] [(.int (0 : Int32)), (.int (0 : Int32))])) _
    refine XS.icmpNo X17.here hx rfl (hb hby own_d1_44) rfl (by decide) ?_
    show Steps p.tables e below (T17.setTop (mkF m 47 #[.val (.int (1 : Int32)), .val (.int (0 : Int32)), .val (.int (1 : Int32)), .val (.ref wSUBJECT_OBJECT), .val (.ref wKINDS), .val (.int (7 : Int32)), .val (.int (4 : Int32)), .val (.ref wSUBJECT)] [])) _
    refine XS.aload X17.here hx rfl (hb hby own_d1_47) rfl rfl ?_
    show Steps p.tables e below (T17.setTop (mkF m 49 #[.val (.int (1 : Int32)), .val (.int (0 : Int32)), .val (.int (1 : Int32)), .val (.ref wSUBJECT_OBJECT), .val (.ref wKINDS), .val (.int (7 : Int32)), .val (.int (4 : Int32)), .val (.ref wSUBJECT)] [(.ref wSUBJECT)])) _
    refine st18 _ ?_
    show Steps p.tables e below (T18.setTop (mkF m 52 #[.val (.int (1 : Int32)), .val (.int (0 : Int32)), .val (.int (1 : Int32)), .val (.ref wSUBJECT_OBJECT), .val (.ref wKINDS), .val (.int (7 : Int32)), .val (.int (4 : Int32)), .val (.ref wSUBJECT)] [(.int (0 : Int32))])) _
    refine XS.iloadN X18.here hx rfl (hb hby own_d1_52) rfl ?_
    show Steps p.tables e below (T18.setTop (mkF m 53 #[.val (.int (1 : Int32)), .val (.int (0 : Int32)), .val (.int (1 : Int32)), .val (.ref wSUBJECT_OBJECT), .val (.ref wKINDS), .val (.int (7 : Int32)), .val (.int (4 : Int32)), .val (.ref wSUBJECT)] [(.int (1 : Int32)), (.int (0 : Int32))])) _
    refine XS.icmpYes X18.here hx rfl (pc0 := 53) (pc' := 59) rfl (hb hby own_d1_53) rfl (by decide) (by decide) (by decide) ?_
    show Steps p.tables e below (T18.setTop (mkF m 59 #[.val (.int (1 : Int32)), .val (.int (0 : Int32)), .val (.int (1 : Int32)), .val (.ref wSUBJECT_OBJECT), .val (.ref wKINDS), .val (.int (7 : Int32)), .val (.int (4 : Int32)), .val (.ref wSUBJECT)] [])) _
    refine XS.iinc X18.here hx rfl (hb hby own_d1_59) rfl (l' := #[.val (.int (1 : Int32)), .val (.int (0 : Int32)), .val (.int (1 : Int32)), .val (.ref wSUBJECT_OBJECT), .val (.ref wKINDS), .val (.int (7 : Int32)), .val (.int (5 : Int32)), .val (.ref wSUBJECT)]) rfl ?_
    show Steps p.tables e below (T18.setTop (mkF m 62 #[.val (.int (1 : Int32)), .val (.int (0 : Int32)), .val (.int (1 : Int32)), .val (.ref wSUBJECT_OBJECT), .val (.ref wKINDS), .val (.int (7 : Int32)), .val (.int (5 : Int32)), .val (.ref wSUBJECT)] [])) _
    refine XS.goto X18.here hx rfl (pc0 := 62) (pc' := 15) rfl (hb hby own_d1_62) (by decide) (by decide) ?_
    show Steps p.tables e below (T18.setTop (mkF m 15 #[.val (.int (1 : Int32)), .val (.int (0 : Int32)), .val (.int (1 : Int32)), .val (.ref wSUBJECT_OBJECT), .val (.ref wKINDS), .val (.int (7 : Int32)), .val (.int (5 : Int32)), .val (.ref wSUBJECT)] [])) _
    refine XS.iload X18.here hx rfl (hb hby own_d1_15) rfl ?_
    show Steps p.tables e below (T18.setTop (mkF m 17 #[.val (.int (1 : Int32)), .val (.int (0 : Int32)), .val (.int (1 : Int32)), .val (.ref wSUBJECT_OBJECT), .val (.ref wKINDS), .val (.int (7 : Int32)), .val (.int (5 : Int32)), .val (.ref wSUBJECT)] [(.int (5 : Int32))])) _
    refine XS.iload X18.here hx rfl (hb hby own_d1_17) rfl ?_
    show Steps p.tables e below (T18.setTop (mkF m 19 #[.val (.int (1 : Int32)), .val (.int (0 : Int32)), .val (.int (1 : Int32)), .val (.ref wSUBJECT_OBJECT), .val (.ref wKINDS), .val (.int (7 : Int32)), .val (.int (5 : Int32)), .val (.ref wSUBJECT)] [(.int (7 : Int32)), (.int (5 : Int32))])) _
    refine XS.icmpNo X18.here hx rfl (hb hby own_d1_19) rfl (by decide) ?_
    show Steps p.tables e below (T18.setTop (mkF m 22 #[.val (.int (1 : Int32)), .val (.int (0 : Int32)), .val (.int (1 : Int32)), .val (.ref wSUBJECT_OBJECT), .val (.ref wKINDS), .val (.int (7 : Int32)), .val (.int (5 : Int32)), .val (.ref wSUBJECT)] [])) _
    refine XS.aload X18.here hx rfl (hb hby own_d1_22) rfl rfl ?_
    show Steps p.tables e below (T18.setTop (mkF m 24 #[.val (.int (1 : Int32)), .val (.int (0 : Int32)), .val (.int (1 : Int32)), .val (.ref wSUBJECT_OBJECT), .val (.ref wKINDS), .val (.int (7 : Int32)), .val (.int (5 : Int32)), .val (.ref wSUBJECT)] [(.ref wKINDS)])) _
    refine XS.iload X18.here hx rfl (hb hby own_d1_24) rfl ?_
    show Steps p.tables e below (T18.setTop (mkF m 26 #[.val (.int (1 : Int32)), .val (.int (0 : Int32)), .val (.int (1 : Int32)), .val (.ref wSUBJECT_OBJECT), .val (.ref wKINDS), .val (.int (7 : Int32)), .val (.int (5 : Int32)), .val (.ref wSUBJECT)] [(.int (5 : Int32)), (.ref wKINDS)])) _
    refine X18.aaload hx (j := (5 : Int32)) (v := (.ref wPREDICATE)) (by rw [e18]; exact Ar2.1) (State.isArrayOf_alike hZ.alike Ar2.2.1) rfl Ar2.2.2 hin19 hat19 (g := (mkF m 26 #[.val (.int (1 : Int32)), .val (.int (0 : Int32)), .val (.int (1 : Int32)), .val (.ref wSUBJECT_OBJECT), .val (.ref wKINDS), .val (.int (7 : Int32)), .val (.int (5 : Int32)), .val (.ref wSUBJECT)] [(.int (5 : Int32)), (.ref wKINDS)])) rfl rfl (hb hby own_d1_26) _ ?_
    show Steps p.tables e below (T18.setTop (mkF m 27 #[.val (.int (1 : Int32)), .val (.int (0 : Int32)), .val (.int (1 : Int32)), .val (.ref wSUBJECT_OBJECT), .val (.ref wKINDS), .val (.int (7 : Int32)), .val (.int (5 : Int32)), .val (.ref wSUBJECT)] [(.ref wPREDICATE)])) _
    refine XS.astore X18.here hx rfl (hb hby own_d1_27) rfl rfl (l' := #[.val (.int (1 : Int32)), .val (.int (0 : Int32)), .val (.int (1 : Int32)), .val (.ref wSUBJECT_OBJECT), .val (.ref wKINDS), .val (.int (7 : Int32)), .val (.int (5 : Int32)), .val (.ref wPREDICATE)]) rfl ?_
    show Steps p.tables e below (T18.setTop (mkF m 29 #[.val (.int (1 : Int32)), .val (.int (0 : Int32)), .val (.int (1 : Int32)), .val (.ref wSUBJECT_OBJECT), .val (.ref wKINDS), .val (.int (7 : Int32)), .val (.int (5 : Int32)), .val (.ref wPREDICATE)] [])) _
    refine XS.aload X18.here hx rfl (hb hby own_d1_29) rfl rfl ?_
    show Steps p.tables e below (T18.setTop (mkF m 31 #[.val (.int (1 : Int32)), .val (.int (0 : Int32)), .val (.int (1 : Int32)), .val (.ref wSUBJECT_OBJECT), .val (.ref wKINDS), .val (.int (7 : Int32)), .val (.int (5 : Int32)), .val (.ref wPREDICATE)] [(.ref wPREDICATE)])) _
    refine st20 _ ?_
    show Steps p.tables e below (T20.setTop (mkF m 34 #[.val (.int (1 : Int32)), .val (.int (0 : Int32)), .val (.int (1 : Int32)), .val (.ref wSUBJECT_OBJECT), .val (.ref wKINDS), .val (.int (7 : Int32)), .val (.int (5 : Int32)), .val (.ref wPREDICATE)] [(.int (0 : Int32))])) _
    refine XS.iloadN X20.here hx rfl (hb hby own_d1_34) rfl ?_
    show Steps p.tables e below (T20.setTop (mkF m 35 #[.val (.int (1 : Int32)), .val (.int (0 : Int32)), .val (.int (1 : Int32)), .val (.ref wSUBJECT_OBJECT), .val (.ref wKINDS), .val (.int (7 : Int32)), .val (.int (5 : Int32)), .val (.ref wPREDICATE)] [(.int (1 : Int32)), (.int (0 : Int32))])) _
    refine XS.icmpYes X20.here hx rfl (pc0 := 35) (pc' := 59) rfl (hb hby own_d1_35) rfl (by decide) (by decide) (by decide) ?_
    show Steps p.tables e below (T20.setTop (mkF m 59 #[.val (.int (1 : Int32)), .val (.int (0 : Int32)), .val (.int (1 : Int32)), .val (.ref wSUBJECT_OBJECT), .val (.ref wKINDS), .val (.int (7 : Int32)), .val (.int (5 : Int32)), .val (.ref wPREDICATE)] [])) _
    refine XS.iinc X20.here hx rfl (hb hby own_d1_59) rfl (l' := #[.val (.int (1 : Int32)), .val (.int (0 : Int32)), .val (.int (1 : Int32)), .val (.ref wSUBJECT_OBJECT), .val (.ref wKINDS), .val (.int (7 : Int32)), .val (.int (6 : Int32)), .val (.ref wPREDICATE)]) rfl ?_
    show Steps p.tables e below (T20.setTop (mkF m 62 #[.val (.int (1 : Int32)), .val (.int (0 : Int32)), .val (.int (1 : Int32)), .val (.ref wSUBJECT_OBJECT), .val (.ref wKINDS), .val (.int (7 : Int32)), .val (.int (6 : Int32)), .val (.ref wPREDICATE)] [])) _
    refine XS.goto X20.here hx rfl (pc0 := 62) (pc' := 15) rfl (hb hby own_d1_62) (by decide) (by decide) ?_
    show Steps p.tables e below (T20.setTop (mkF m 15 #[.val (.int (1 : Int32)), .val (.int (0 : Int32)), .val (.int (1 : Int32)), .val (.ref wSUBJECT_OBJECT), .val (.ref wKINDS), .val (.int (7 : Int32)), .val (.int (6 : Int32)), .val (.ref wPREDICATE)] [])) _
    refine XS.iload X20.here hx rfl (hb hby own_d1_15) rfl ?_
    show Steps p.tables e below (T20.setTop (mkF m 17 #[.val (.int (1 : Int32)), .val (.int (0 : Int32)), .val (.int (1 : Int32)), .val (.ref wSUBJECT_OBJECT), .val (.ref wKINDS), .val (.int (7 : Int32)), .val (.int (6 : Int32)), .val (.ref wPREDICATE)] [(.int (6 : Int32))])) _
    refine XS.iload X20.here hx rfl (hb hby own_d1_17) rfl ?_
    show Steps p.tables e below (T20.setTop (mkF m 19 #[.val (.int (1 : Int32)), .val (.int (0 : Int32)), .val (.int (1 : Int32)), .val (.ref wSUBJECT_OBJECT), .val (.ref wKINDS), .val (.int (7 : Int32)), .val (.int (6 : Int32)), .val (.ref wPREDICATE)] [(.int (7 : Int32)), (.int (6 : Int32))])) _
    refine XS.icmpNo X20.here hx rfl (hb hby own_d1_19) rfl (by decide) ?_
    show Steps p.tables e below (T20.setTop (mkF m 22 #[.val (.int (1 : Int32)), .val (.int (0 : Int32)), .val (.int (1 : Int32)), .val (.ref wSUBJECT_OBJECT), .val (.ref wKINDS), .val (.int (7 : Int32)), .val (.int (6 : Int32)), .val (.ref wPREDICATE)] [])) _
    refine XS.aload X20.here hx rfl (hb hby own_d1_22) rfl rfl ?_
    show Steps p.tables e below (T20.setTop (mkF m 24 #[.val (.int (1 : Int32)), .val (.int (0 : Int32)), .val (.int (1 : Int32)), .val (.ref wSUBJECT_OBJECT), .val (.ref wKINDS), .val (.int (7 : Int32)), .val (.int (6 : Int32)), .val (.ref wPREDICATE)] [(.ref wKINDS)])) _
    refine XS.iload X20.here hx rfl (hb hby own_d1_24) rfl ?_
    show Steps p.tables e below (T20.setTop (mkF m 26 #[.val (.int (1 : Int32)), .val (.int (0 : Int32)), .val (.int (1 : Int32)), .val (.ref wSUBJECT_OBJECT), .val (.ref wKINDS), .val (.int (7 : Int32)), .val (.int (6 : Int32)), .val (.ref wPREDICATE)] [(.int (6 : Int32)), (.ref wKINDS)])) _
    refine X20.aaload hx (j := (6 : Int32)) (v := (.ref wOBJECT)) (by rw [e20]; exact Ar2.1) (State.isArrayOf_alike hZ.alike Ar2.2.1) rfl Ar2.2.2 hin21 hat21 (g := (mkF m 26 #[.val (.int (1 : Int32)), .val (.int (0 : Int32)), .val (.int (1 : Int32)), .val (.ref wSUBJECT_OBJECT), .val (.ref wKINDS), .val (.int (7 : Int32)), .val (.int (6 : Int32)), .val (.ref wPREDICATE)] [(.int (6 : Int32)), (.ref wKINDS)])) rfl rfl (hb hby own_d1_26) _ ?_
    show Steps p.tables e below (T20.setTop (mkF m 27 #[.val (.int (1 : Int32)), .val (.int (0 : Int32)), .val (.int (1 : Int32)), .val (.ref wSUBJECT_OBJECT), .val (.ref wKINDS), .val (.int (7 : Int32)), .val (.int (6 : Int32)), .val (.ref wPREDICATE)] [(.ref wOBJECT)])) _
    refine XS.astore X20.here hx rfl (hb hby own_d1_27) rfl rfl (l' := #[.val (.int (1 : Int32)), .val (.int (0 : Int32)), .val (.int (1 : Int32)), .val (.ref wSUBJECT_OBJECT), .val (.ref wKINDS), .val (.int (7 : Int32)), .val (.int (6 : Int32)), .val (.ref wOBJECT)]) rfl ?_
    show Steps p.tables e below (T20.setTop (mkF m 29 #[.val (.int (1 : Int32)), .val (.int (0 : Int32)), .val (.int (1 : Int32)), .val (.ref wSUBJECT_OBJECT), .val (.ref wKINDS), .val (.int (7 : Int32)), .val (.int (6 : Int32)), .val (.ref wOBJECT)] [])) _
    refine XS.aload X20.here hx rfl (hb hby own_d1_29) rfl rfl ?_
    show Steps p.tables e below (T20.setTop (mkF m 31 #[.val (.int (1 : Int32)), .val (.int (0 : Int32)), .val (.int (1 : Int32)), .val (.ref wSUBJECT_OBJECT), .val (.ref wKINDS), .val (.int (7 : Int32)), .val (.int (6 : Int32)), .val (.ref wOBJECT)] [(.ref wOBJECT)])) _
    refine st22 _ ?_
    show Steps p.tables e below (T22.setTop (mkF m 34 #[.val (.int (1 : Int32)), .val (.int (0 : Int32)), .val (.int (1 : Int32)), .val (.ref wSUBJECT_OBJECT), .val (.ref wKINDS), .val (.int (7 : Int32)), .val (.int (6 : Int32)), .val (.ref wOBJECT)] [(.int (0 : Int32))])) _
    refine XS.iloadN X22.here hx rfl (hb hby own_d1_34) rfl ?_
    show Steps p.tables e below (T22.setTop (mkF m 35 #[.val (.int (1 : Int32)), .val (.int (0 : Int32)), .val (.int (1 : Int32)), .val (.ref wSUBJECT_OBJECT), .val (.ref wKINDS), .val (.int (7 : Int32)), .val (.int (6 : Int32)), .val (.ref wOBJECT)] [(.int (1 : Int32)), (.int (0 : Int32))])) _
    refine XS.icmpYes X22.here hx rfl (pc0 := 35) (pc' := 59) rfl (hb hby own_d1_35) rfl (by decide) (by decide) (by decide) ?_
    show Steps p.tables e below (T22.setTop (mkF m 59 #[.val (.int (1 : Int32)), .val (.int (0 : Int32)), .val (.int (1 : Int32)), .val (.ref wSUBJECT_OBJECT), .val (.ref wKINDS), .val (.int (7 : Int32)), .val (.int (6 : Int32)), .val (.ref wOBJECT)] [])) _
    refine XS.iinc X22.here hx rfl (hb hby own_d1_59) rfl (l' := #[.val (.int (1 : Int32)), .val (.int (0 : Int32)), .val (.int (1 : Int32)), .val (.ref wSUBJECT_OBJECT), .val (.ref wKINDS), .val (.int (7 : Int32)), .val (.int (7 : Int32)), .val (.ref wOBJECT)]) rfl ?_
    show Steps p.tables e below (T22.setTop (mkF m 62 #[.val (.int (1 : Int32)), .val (.int (0 : Int32)), .val (.int (1 : Int32)), .val (.ref wSUBJECT_OBJECT), .val (.ref wKINDS), .val (.int (7 : Int32)), .val (.int (7 : Int32)), .val (.ref wOBJECT)] [])) _
    refine XS.goto X22.here hx rfl (pc0 := 62) (pc' := 15) rfl (hb hby own_d1_62) (by decide) (by decide) ?_
    show Steps p.tables e below (T22.setTop (mkF m 15 #[.val (.int (1 : Int32)), .val (.int (0 : Int32)), .val (.int (1 : Int32)), .val (.ref wSUBJECT_OBJECT), .val (.ref wKINDS), .val (.int (7 : Int32)), .val (.int (7 : Int32)), .val (.ref wOBJECT)] [])) _
    refine XS.iload X22.here hx rfl (hb hby own_d1_15) rfl ?_
    show Steps p.tables e below (T22.setTop (mkF m 17 #[.val (.int (1 : Int32)), .val (.int (0 : Int32)), .val (.int (1 : Int32)), .val (.ref wSUBJECT_OBJECT), .val (.ref wKINDS), .val (.int (7 : Int32)), .val (.int (7 : Int32)), .val (.ref wOBJECT)] [(.int (7 : Int32))])) _
    refine XS.iload X22.here hx rfl (hb hby own_d1_17) rfl ?_
    show Steps p.tables e below (T22.setTop (mkF m 19 #[.val (.int (1 : Int32)), .val (.int (0 : Int32)), .val (.int (1 : Int32)), .val (.ref wSUBJECT_OBJECT), .val (.ref wKINDS), .val (.int (7 : Int32)), .val (.int (7 : Int32)), .val (.ref wOBJECT)] [(.int (7 : Int32)), (.int (7 : Int32))])) _
    refine XS.icmpYes X22.here hx rfl (pc0 := 19) (pc' := 65) rfl (hb hby own_d1_19) rfl (by decide) (by decide) (by decide) ?_
    show Steps p.tables e below (T22.setTop (mkF m 65 #[.val (.int (1 : Int32)), .val (.int (0 : Int32)), .val (.int (1 : Int32)), .val (.ref wSUBJECT_OBJECT), .val (.ref wKINDS), .val (.int (7 : Int32)), .val (.int (7 : Int32)), .val (.ref wOBJECT)] [])) _
    refine XS.aloadN X22.here hx rfl (hb hby own_d1_65) rfl rfl ?_
    show Steps p.tables e below (T22.setTop (mkF m 66 #[.val (.int (1 : Int32)), .val (.int (0 : Int32)), .val (.int (1 : Int32)), .val (.ref wSUBJECT_OBJECT), .val (.ref wKINDS), .val (.int (7 : Int32)), .val (.int (7 : Int32)), .val (.ref wOBJECT)] [(.ref wSUBJECT_OBJECT)])) _
    jvm_step X22.here [X22.here.top, hx, (hb hby own_d1_66), X22.method', Bd.returns, Value.isRef, FieldType.isReference]
    first | (intro acts; rw [hr _ acts rfl rfl rfl]) | rw [hr _ _ rfl rfl rfl]
    exact Steps.refl _
  · show OwnQ _ h0 n0 _ T22.heap _
    exact ⟨rfl, N0, e22⟩
theorem own_d2_24 : decode method_2_code 24 = .ok (.getstatic 16, 3) := by decide +kernel
theorem own_d2_27 : decode method_2_code 27 = .ok (.areturn, 1) := by decide +kernel
set_option maxRecDepth 65536 in
set_option maxHeartbeats 40000000 in
theorem own_expected_11 (l : Launch) (Z : State) (a0 : Array Value) (hw : ∀ d ∈ tables_1, d.before a0 Z = true) (ws : List Jvm.Cond) (wKINDS : Addr) (wSUBJECT_PREDICATE_OBJECT : Addr) (wSUBJECT_PREDICATE : Addr) (wSUBJECT_OBJECT : Addr) (wPREDICATE_OBJECT : Addr) (wSUBJECT : Addr) (wPREDICATE : Addr) (wOBJECT : Addr) (kKINDS : ClassId) (G : OwnG Z wKINDS wSUBJECT_PREDICATE_OBJECT wSUBJECT_PREDICATE wSUBJECT_OBJECT wPREDICATE_OBJECT wSUBJECT wPREDICATE wOBJECT kKINDS) (h0 : Heap) (n0 : Nat) (O0 : Old Z n0 h0) :
    MetFree l (⟨"com/example/quadrille/quadrille/graphfilter/PatternKindKeepingPinLaw", "expected", "(ZZZ)Lcom/example/quadrille/quadrille/graphfilter/PatternKind;"⟩ : MethodName) (head1 (Jvm.Cond.code (⟨"com/example/quadrille/quadrille/graphfilter/PatternKindKeepingPinLaw", "expected", "(ZZZ)Lcom/example/quadrille/quadrille/graphfilter/PatternKind;"⟩ : MethodName) method_2_code 3 (some (.object "com/example/quadrille/quadrille/graphfilter/PatternKind")) :: ws) ({ frames := 0, cells := 0, slots := 0, locals := 0 } : Room)) (fun a U => a = #[(.int (1 : Int32)), (.int (0 : Int32)), (.int (1 : Int32))] ∧ Z.Warmed39 U.vm ∧ U.heap = h0) (fun _ _ _ _ _ => True) (fun _ U o U' => ∃ v L, o = .returned v ∧ OwnQ (some (.ref wSUBJECT_OBJECT)) h0 n0 v U'.heap L ∧ FrameEnd U o U' L ({ frames := 0, cells := 0, slots := 0, locals := 0 } : Room).cells ({ frames := 0, cells := 0, slots := 0, locals := 0 } : Room).slots) := by
  refine MetFree.of_bodySF (plainFor_of_name own_pn_0) hisR ?_
  intro p e s m args below meth c s₁ Bd hml0 hP hK
  obtain ⟨rfl, hZ, hh⟩ := hP
  have hx := Bd.exec
  have hby := Bd.bytes
  have hml : c.maxLocals = 3 := hml0
  have hown : s.vm.findClass "com/example/quadrille/quadrille/graphfilter/PatternKindKeepingPinLaw" = some m.cls := findClass_of_methodNamed Bd.named
  have hnm := (name_of_methodNamed Bd.named Bd.method).1
  have X0 : Stand p l e ({ frames := 0, cells := 0, slots := 0, locals := 0 } : Room) s m #[(.int (1 : Int32)), (.int (0 : Int32)), (.int (1 : Int32))] below meth c s₁ [] 0 0 := Stand.of_body Bd
  have e0 : s₁.heap = h0 := by rw [← hh, Bd.state]; rfl
  have N0 := Fr.nil n0
  have pre0 : ∀ t, Steps p.tables e below (s₁.setTop (mkF m 0 #[.val (.int (1 : Int32)), .val (.int (0 : Int32)), .val (.int (1 : Int32))] [])) t → Steps p.tables e below (s₁.setTop (entryFrame m #[(.int (1 : Int32)), (.int (0 : Int32)), (.int (1 : Int32))] 3)) t := fun t k => castTop (own_ef_2_III m (1 : Int32) (0 : Int32) (1 : Int32)) k
  obtain ⟨T1, X1, e1, st1⟩ := getS2 X0 hx hZ hown (host := "") (Or.inl (hw _ (List.mem_of_getElem? (i := 29) rfl))) Via.refl e0 (G.2.2.2.2.2.1.ext O0.2) (g := (mkF m 24 #[.val (.int (1 : Int32)), .val (.int (0 : Int32)), .val (.int (1 : Int32))] [])) rfl (hb hby own_d2_24)
  obtain ⟨fs, hr, hrun, hended, hW, hsame⟩ := X1.leave (v := some (.ref wSUBJECT_OBJECT)) (fun h => by rw [Bd.returns] at h; cases h)
  refine ⟨_, _, pre0 _ ?_, hrun, hended, _, _, rfl, ?_, ⟨_, rfl⟩, hW, hsame.mono (by decide) (by decide)⟩
  · show Steps p.tables e below (s₁.setTop (mkF m 0 #[.val (.int (1 : Int32)), .val (.int (0 : Int32)), .val (.int (1 : Int32))] [])) _
    refine XS.iloadN X0.here hx rfl (hb hby own_d2_0) rfl ?_
    show Steps p.tables e below (s₁.setTop (mkF m 1 #[.val (.int (1 : Int32)), .val (.int (0 : Int32)), .val (.int (1 : Int32))] [(.int (1 : Int32))])) _
    refine XS.ifNo X0.here hx rfl (hb hby own_d2_1) rfl (by decide) ?_
    show Steps p.tables e below (s₁.setTop (mkF m 4 #[.val (.int (1 : Int32)), .val (.int (0 : Int32)), .val (.int (1 : Int32))] [])) _
    refine XS.iloadN X0.here hx rfl (hb hby own_d2_4) rfl ?_
    show Steps p.tables e below (s₁.setTop (mkF m 5 #[.val (.int (1 : Int32)), .val (.int (0 : Int32)), .val (.int (1 : Int32))] [(.int (0 : Int32))])) _
    refine XS.ifYes X0.here hx rfl (pc0 := 5) (pc' := 20) rfl (hb hby own_d2_5) rfl (by decide) (by decide) (by decide) ?_
    show Steps p.tables e below (s₁.setTop (mkF m 20 #[.val (.int (1 : Int32)), .val (.int (0 : Int32)), .val (.int (1 : Int32))] [])) _
    refine XS.iloadN X0.here hx rfl (hb hby own_d2_20) rfl ?_
    show Steps p.tables e below (s₁.setTop (mkF m 21 #[.val (.int (1 : Int32)), .val (.int (0 : Int32)), .val (.int (1 : Int32))] [(.int (1 : Int32))])) _
    refine XS.ifNo X0.here hx rfl (hb hby own_d2_21) rfl (by decide) ?_
    show Steps p.tables e below (s₁.setTop (mkF m 24 #[.val (.int (1 : Int32)), .val (.int (0 : Int32)), .val (.int (1 : Int32))] [])) _
    refine st1 _ ?_
    show Steps p.tables e below (T1.setTop (mkF m 27 #[.val (.int (1 : Int32)), .val (.int (0 : Int32)), .val (.int (1 : Int32))] [(.ref wSUBJECT_OBJECT)])) _
    jvm_step X1.here [X1.here.top, hx, (hb hby own_d2_27), X1.method', Bd.returns, Value.isRef, FieldType.isReference]
    first | (intro acts; rw [hr _ acts rfl rfl rfl]) | rw [hr _ _ rfl rfl rfl]
    exact Steps.refl _
  · show OwnQ _ h0 n0 _ T1.heap _
    exact ⟨rfl, N0, e1⟩
set_option maxRecDepth 65536 in
set_option maxHeartbeats 40000000 in
theorem own_law_5 (l : Launch) (Z : State) (a0 : Array Value) (hw : ∀ d ∈ tables_1, d.before a0 Z = true) (ws : List Jvm.Cond) (wKINDS : Addr) (wSUBJECT_PREDICATE_OBJECT : Addr) (wSUBJECT_PREDICATE : Addr) (wSUBJECT_OBJECT : Addr) (wPREDICATE_OBJECT : Addr) (wSUBJECT : Addr) (wPREDICATE : Addr) (wOBJECT : Addr) (kKINDS : ClassId) (G : OwnG Z wKINDS wSUBJECT_PREDICATE_OBJECT wSUBJECT_PREDICATE wSUBJECT_OBJECT wPREDICATE_OBJECT wSUBJECT wPREDICATE wOBJECT kKINDS) (h0 : Heap) (n0 : Nat) (O0 : Old Z n0 h0) (p1 : Int32) (h1 : ¬ ((p1 &&& (1 : Int32)) = (0 : Int32))) (h2 : (p1 &&& (2 : Int32)) = (0 : Int32)) (h4 : ¬ ((p1 &&& (4 : Int32)) = (0 : Int32))) :
    MetFree l x (head1 (Jvm.Cond.code x code maxLocals ret :: ws) room_1) (fun a U => a = #[(.int p1)] ∧ Z.Warmed39 U.vm ∧ U.heap = h0) (fun _ _ _ _ _ => True) (fun _ U o U' => ∃ v L, o = .returned v ∧ (v = some (.int 1) ∧ Fr n0 L) ∧ FrameEnd U o U' L room_1.cells room_1.slots) := by
  refine MetFree.of_bodySF (plainFor_of_name own_pn_0) hisR ?_
  intro p e s m args below meth c s₁ Bd hml0 hP hK
  obtain ⟨rfl, hZ, hh⟩ := hP
  have hx := Bd.exec
  have hby := Bd.bytes
  have hml : c.maxLocals = 5 := hml0
  have hown : s.vm.findClass "com/example/quadrille/quadrille/graphfilter/PatternKindKeepingPinLaw" = some m.cls := findClass_of_methodNamed Bd.named
  have hnm := (name_of_methodNamed Bd.named Bd.method).1
  have X0 : Stand p l e room_1 s m #[(.int p1)] below meth c s₁ [] 0 0 := Stand.of_body Bd
  have e0 : s₁.heap = h0 := by rw [← hh, Bd.state]; rfl
  have N0 := Fr.nil n0
  have pre0 : ∀ t, Steps p.tables e below (s₁.setTop (mkF m 0 #[.val (.int p1), .unset, .unset, .unset, .unset] [])) t → Steps p.tables e below (s₁.setTop (entryFrame m #[(.int p1)] maxLocals)) t := fun t k => castTop (own_ef_0_I m p1) k
  obtain ⟨_, _, ⟨T1, L1, k1, n1⟩, -, X1, ⟨Lc1, hQ1, l1, y1, z1⟩, st1⟩ := Jvm.LawKit.callS X0 hx (y := (⟨"com/example/quadrille/quadrille/graphfilter/PatternKind", "keeping", "(ZZZ)Lcom/example/quadrille/quadrille/graphfilter/PatternKind;"⟩ : MethodName)) hown (mvT hZ (hw _ (List.mem_of_getElem? (i := 0) rfl))) (mvT hZ (hw _ (List.mem_of_getElem? (i := 1) rfl))) (mvT hZ (hw _ (List.mem_of_getElem? (i := 2) rfl))) (mvT hZ (hw _ (List.mem_of_getElem? (i := 3) rfl))) (by decide) (backOf (W := 0) (own_keeping_10 l Z a0 hw [] wKINDS wSUBJECT_PREDICATE_OBJECT wSUBJECT_PREDICATE wSUBJECT_OBJECT wPREDICATE_OBJECT wSUBJECT wPREDICATE wOBJECT kKINDS G h0 n0 O0) hZ (hw _ (List.mem_of_getElem? (i := 3) rfl)) (hw _ (List.mem_of_getElem? (i := 2) rfl)) (by decide) (by decide)) (g := (mkF m 39 #[.val (.int p1), .val (.int (1 : Int32)), .val (.int (0 : Int32)), .val (.int (1 : Int32)), .unset] [(.int (1 : Int32)), (.int (0 : Int32)), (.int (1 : Int32))])) rfl (by rw [hml]; rfl) (argsL := [(.int (1 : Int32)), (.int (0 : Int32)), (.int (1 : Int32))]) (rest := []) (lenOf own_pd_0 rfl) rfl (by show 2 * 0 + _ ≤ _; exact Nat.le_of_eq rfl) (hb hby at_39) (fun _ _ => ⟨rfl, e0, (by decide : 0 + 0 ≤ _), (by decide : 0 + 0 ≤ _)⟩)
  dsimp only [Pt.U, Pt.locs, Pt.cells, Pt.slots] at X1 l1 y1 z1 st1 hQ1
  subst l1 y1 z1
  obtain ⟨rfl, N1q, e1⟩ := hQ1
  have N1 := Fr.app N0 N1q
  obtain ⟨_, _, ⟨T2, L2, k2, n2⟩, -, X2, ⟨Lc2, hQ2, l2, y2, z2⟩, st2⟩ := Jvm.LawKit.callS X1 hx (y := (⟨"com/example/quadrille/quadrille/graphfilter/PatternKindKeepingPinLaw", "expected", "(ZZZ)Lcom/example/quadrille/quadrille/graphfilter/PatternKind;"⟩ : MethodName)) hown (mvT hZ (hw _ (List.mem_of_getElem? (i := 19) rfl))) (mvT hZ (hw _ (List.mem_of_getElem? (i := 20) rfl))) (mvT hZ (hw _ (List.mem_of_getElem? (i := 21) rfl))) (mvT hZ (hw _ (List.mem_of_getElem? (i := 22) rfl))) (by decide) (backOf (W := 1) (own_expected_11 l Z a0 hw [] wKINDS wSUBJECT_PREDICATE_OBJECT wSUBJECT_PREDICATE wSUBJECT_OBJECT wPREDICATE_OBJECT wSUBJECT wPREDICATE wOBJECT kKINDS G h0 n0 O0) hZ (hw _ (List.mem_of_getElem? (i := 22) rfl)) (hw _ (List.mem_of_getElem? (i := 21) rfl)) (by decide) (by decide)) (g := (mkF m 49 #[.val (.int p1), .val (.int (1 : Int32)), .val (.int (0 : Int32)), .val (.int (1 : Int32)), .val (.ref wSUBJECT_OBJECT)] [(.int (1 : Int32)), (.int (0 : Int32)), (.int (1 : Int32)), (.ref wSUBJECT_OBJECT)])) rfl (by rw [hml]; rfl) (argsL := [(.int (1 : Int32)), (.int (0 : Int32)), (.int (1 : Int32))]) (rest := [(.ref wSUBJECT_OBJECT)]) (lenOf own_pd_0 rfl) rfl (by show 2 * 0 + _ ≤ _; exact Nat.le_of_eq rfl) (hb hby at_49) (fun _ _ => ⟨rfl, e1, (by decide : 0 + 0 ≤ _), (by decide : 0 + 0 ≤ _)⟩)
  dsimp only [Pt.U, Pt.locs, Pt.cells, Pt.slots] at X2 l2 y2 z2 st2 hQ2
  subst l2 y2 z2
  obtain ⟨rfl, N2q, e2⟩ := hQ2
  have N2 := Fr.app N1 N2q
  obtain ⟨fs, hr, hrun, hended, hW, hsame⟩ := X2.leave (v := some (.int (1 : Int32))) (fun h => by rw [Bd.returns] at h; cases h)
  refine ⟨_, _, pre0 _ ?_, hrun, hended, _, _, rfl, ?_, ⟨_, rfl⟩, hW, hsame.mono (by decide) (by decide)⟩
  · show Steps p.tables e below (s₁.setTop (mkF m 0 #[.val (.int p1), .unset, .unset, .unset, .unset] [])) _
    refine XS.iloadN X0.here hx rfl (hb hby at_0) rfl ?_
    show Steps p.tables e below (s₁.setTop (mkF m 1 #[.val (.int p1), .unset, .unset, .unset, .unset] [(.int p1)])) _
    refine XS.iconst X0.here hx rfl (hb hby at_1) ?_
    show Steps p.tables e below (s₁.setTop (mkF m 2 #[.val (.int p1), .unset, .unset, .unset, .unset] [(.int (1 : Int32)), (.int p1)])) _
    refine XS.iand X0.here hx rfl (hb hby at_2) rfl ?_
    show Steps p.tables e below (s₁.setTop (mkF m 3 #[.val (.int p1), .unset, .unset, .unset, .unset] [(.int (p1 &&& (1 : Int32)))])) _
    refine XS.ifNo X0.here hx rfl (hb hby at_3) rfl ((if0 _ _).trans (feq (h1 : ¬ ((p1 &&& (1 : Int32)) = (0 : Int32)))).1) ?_
    show Steps p.tables e below (s₁.setTop (mkF m 6 #[.val (.int p1), .unset, .unset, .unset, .unset] [])) _
    refine XS.iconst X0.here hx rfl (hb hby at_6) ?_
    show Steps p.tables e below (s₁.setTop (mkF m 7 #[.val (.int p1), .unset, .unset, .unset, .unset] [(.int (1 : Int32))])) _
    refine XS.goto X0.here hx rfl (pc0 := 7) (pc' := 11) rfl (hb hby at_7) (by decide) (by decide) ?_
    show Steps p.tables e below (s₁.setTop (mkF m 11 #[.val (.int p1), .unset, .unset, .unset, .unset] [(.int (1 : Int32))])) _
    refine XS.istoreN X0.here hx rfl (hb hby at_11) rfl (l' := #[.val (.int p1), .val (.int (1 : Int32)), .unset, .unset, .unset]) rfl ?_
    show Steps p.tables e below (s₁.setTop (mkF m 12 #[.val (.int p1), .val (.int (1 : Int32)), .unset, .unset, .unset] [])) _
    refine XS.iloadN X0.here hx rfl (hb hby at_12) rfl ?_
    show Steps p.tables e below (s₁.setTop (mkF m 13 #[.val (.int p1), .val (.int (1 : Int32)), .unset, .unset, .unset] [(.int p1)])) _
    refine XS.iconst X0.here hx rfl (hb hby at_13) ?_
    show Steps p.tables e below (s₁.setTop (mkF m 14 #[.val (.int p1), .val (.int (1 : Int32)), .unset, .unset, .unset] [(.int (2 : Int32)), (.int p1)])) _
    refine XS.iand X0.here hx rfl (hb hby at_14) rfl ?_
    show Steps p.tables e below (s₁.setTop (mkF m 15 #[.val (.int p1), .val (.int (1 : Int32)), .unset, .unset, .unset] [(.int (p1 &&& (2 : Int32)))])) _
    refine XS.ifYes X0.here hx rfl (pc0 := 15) (pc' := 22) rfl (hb hby at_15) rfl ((if0 _ _).trans (teq (h2 : (p1 &&& (2 : Int32)) = (0 : Int32))).1) (by decide) (by decide) ?_
    show Steps p.tables e below (s₁.setTop (mkF m 22 #[.val (.int p1), .val (.int (1 : Int32)), .unset, .unset, .unset] [])) _
    refine XS.iconst X0.here hx rfl (hb hby at_22) ?_
    show Steps p.tables e below (s₁.setTop (mkF m 23 #[.val (.int p1), .val (.int (1 : Int32)), .unset, .unset, .unset] [(.int (0 : Int32))])) _
    refine XS.istoreN X0.here hx rfl (hb hby at_23) rfl (l' := #[.val (.int p1), .val (.int (1 : Int32)), .val (.int (0 : Int32)), .unset, .unset]) rfl ?_
    show Steps p.tables e below (s₁.setTop (mkF m 24 #[.val (.int p1), .val (.int (1 : Int32)), .val (.int (0 : Int32)), .unset, .unset] [])) _
    refine XS.iloadN X0.here hx rfl (hb hby at_24) rfl ?_
    show Steps p.tables e below (s₁.setTop (mkF m 25 #[.val (.int p1), .val (.int (1 : Int32)), .val (.int (0 : Int32)), .unset, .unset] [(.int p1)])) _
    refine XS.iconst X0.here hx rfl (hb hby at_25) ?_
    show Steps p.tables e below (s₁.setTop (mkF m 26 #[.val (.int p1), .val (.int (1 : Int32)), .val (.int (0 : Int32)), .unset, .unset] [(.int (4 : Int32)), (.int p1)])) _
    refine XS.iand X0.here hx rfl (hb hby at_26) rfl ?_
    show Steps p.tables e below (s₁.setTop (mkF m 27 #[.val (.int p1), .val (.int (1 : Int32)), .val (.int (0 : Int32)), .unset, .unset] [(.int (p1 &&& (4 : Int32)))])) _
    refine XS.ifNo X0.here hx rfl (hb hby at_27) rfl ((if0 _ _).trans (feq (h4 : ¬ ((p1 &&& (4 : Int32)) = (0 : Int32)))).1) ?_
    show Steps p.tables e below (s₁.setTop (mkF m 30 #[.val (.int p1), .val (.int (1 : Int32)), .val (.int (0 : Int32)), .unset, .unset] [])) _
    refine XS.iconst X0.here hx rfl (hb hby at_30) ?_
    show Steps p.tables e below (s₁.setTop (mkF m 31 #[.val (.int p1), .val (.int (1 : Int32)), .val (.int (0 : Int32)), .unset, .unset] [(.int (1 : Int32))])) _
    refine XS.goto X0.here hx rfl (pc0 := 31) (pc' := 35) rfl (hb hby at_31) (by decide) (by decide) ?_
    show Steps p.tables e below (s₁.setTop (mkF m 35 #[.val (.int p1), .val (.int (1 : Int32)), .val (.int (0 : Int32)), .unset, .unset] [(.int (1 : Int32))])) _
    refine XS.istoreN X0.here hx rfl (hb hby at_35) rfl (l' := #[.val (.int p1), .val (.int (1 : Int32)), .val (.int (0 : Int32)), .val (.int (1 : Int32)), .unset]) rfl ?_
    show Steps p.tables e below (s₁.setTop (mkF m 36 #[.val (.int p1), .val (.int (1 : Int32)), .val (.int (0 : Int32)), .val (.int (1 : Int32)), .unset] [])) _
    refine XS.iloadN X0.here hx rfl (hb hby at_36) rfl ?_
    show Steps p.tables e below (s₁.setTop (mkF m 37 #[.val (.int p1), .val (.int (1 : Int32)), .val (.int (0 : Int32)), .val (.int (1 : Int32)), .unset] [(.int (1 : Int32))])) _
    refine XS.iloadN X0.here hx rfl (hb hby at_37) rfl ?_
    show Steps p.tables e below (s₁.setTop (mkF m 38 #[.val (.int p1), .val (.int (1 : Int32)), .val (.int (0 : Int32)), .val (.int (1 : Int32)), .unset] [(.int (0 : Int32)), (.int (1 : Int32))])) _
    refine XS.iloadN X0.here hx rfl (hb hby at_38) rfl ?_
    show Steps p.tables e below (s₁.setTop (mkF m 39 #[.val (.int p1), .val (.int (1 : Int32)), .val (.int (0 : Int32)), .val (.int (1 : Int32)), .unset] [(.int (1 : Int32)), (.int (0 : Int32)), (.int (1 : Int32))])) _
    refine st1 _ ?_
    show Steps p.tables e below (T1.setTop (mkF m 42 #[.val (.int p1), .val (.int (1 : Int32)), .val (.int (0 : Int32)), .val (.int (1 : Int32)), .unset] [(.ref wSUBJECT_OBJECT)])) _
    refine XS.astore X1.here hx rfl (hb hby at_42) rfl rfl (l' := #[.val (.int p1), .val (.int (1 : Int32)), .val (.int (0 : Int32)), .val (.int (1 : Int32)), .val (.ref wSUBJECT_OBJECT)]) rfl ?_
    show Steps p.tables e below (T1.setTop (mkF m 44 #[.val (.int p1), .val (.int (1 : Int32)), .val (.int (0 : Int32)), .val (.int (1 : Int32)), .val (.ref wSUBJECT_OBJECT)] [])) _
    refine XS.aload X1.here hx rfl (hb hby at_44) rfl rfl ?_
    show Steps p.tables e below (T1.setTop (mkF m 46 #[.val (.int p1), .val (.int (1 : Int32)), .val (.int (0 : Int32)), .val (.int (1 : Int32)), .val (.ref wSUBJECT_OBJECT)] [(.ref wSUBJECT_OBJECT)])) _
    refine XS.iloadN X1.here hx rfl (hb hby at_46) rfl ?_
    show Steps p.tables e below (T1.setTop (mkF m 47 #[.val (.int p1), .val (.int (1 : Int32)), .val (.int (0 : Int32)), .val (.int (1 : Int32)), .val (.ref wSUBJECT_OBJECT)] [(.int (1 : Int32)), (.ref wSUBJECT_OBJECT)])) _
    refine XS.iloadN X1.here hx rfl (hb hby at_47) rfl ?_
    show Steps p.tables e below (T1.setTop (mkF m 48 #[.val (.int p1), .val (.int (1 : Int32)), .val (.int (0 : Int32)), .val (.int (1 : Int32)), .val (.ref wSUBJECT_OBJECT)] [(.int (0 : Int32)), (.int (1 : Int32)), (.ref wSUBJECT_OBJECT)])) _
    refine XS.iloadN X1.here hx rfl (hb hby at_48) rfl ?_
    show Steps p.tables e below (T1.setTop (mkF m 49 #[.val (.int p1), .val (.int (1 : Int32)), .val (.int (0 : Int32)), .val (.int (1 : Int32)), .val (.ref wSUBJECT_OBJECT)] [(.int (1 : Int32)), (.int (0 : Int32)), (.int (1 : Int32)), (.ref wSUBJECT_OBJECT)])) _
    refine st2 _ ?_
    show Steps p.tables e below (T2.setTop (mkF m 52 #[.val (.int p1), .val (.int (1 : Int32)), .val (.int (0 : Int32)), .val (.int (1 : Int32)), .val (.ref wSUBJECT_OBJECT)] [(.ref wSUBJECT_OBJECT), (.ref wSUBJECT_OBJECT)])) _
    refine Jvm.RoadKit.acmp (g := (mkF m 52 #[.val (.int p1), .val (.int (1 : Int32)), .val (.int (0 : Int32)), .val (.int (1 : Int32)), .val (.ref wSUBJECT_OBJECT)] [(.ref wSUBJECT_OBJECT), (.ref wSUBJECT_OBJECT)])) X2 hx rfl rfl rfl (pc0 := 52) (pc' := 55) (same := true) rfl (hb hby at_52) rfl (decide_eq_true rfl) (by decide) (by decide) ?_
    show Steps p.tables e below (T2.setTop (mkF m 55 #[.val (.int p1), .val (.int (1 : Int32)), .val (.int (0 : Int32)), .val (.int (1 : Int32)), .val (.ref wSUBJECT_OBJECT)] [])) _
    refine XS.iconst X2.here hx rfl (hb hby at_55) ?_
    show Steps p.tables e below (T2.setTop (mkF m 56 #[.val (.int p1), .val (.int (1 : Int32)), .val (.int (0 : Int32)), .val (.int (1 : Int32)), .val (.ref wSUBJECT_OBJECT)] [(.int (1 : Int32))])) _
    refine XS.goto X2.here hx rfl (pc0 := 56) (pc' := 60) rfl (hb hby at_56) (by decide) (by decide) ?_
    show Steps p.tables e below (T2.setTop (mkF m 60 #[.val (.int p1), .val (.int (1 : Int32)), .val (.int (0 : Int32)), .val (.int (1 : Int32)), .val (.ref wSUBJECT_OBJECT)] [(.int (1 : Int32))])) _
    exact retN X2 hx (t := .boolean) Bd.returns (by simp) (hb hby at_60) hr
  · exact ⟨rfl, N2⟩
set_option maxRecDepth 65536 in
set_option maxHeartbeats 40000000 in
theorem own_keeping_12 (l : Launch) (Z : State) (a0 : Array Value) (hw : ∀ d ∈ tables_1, d.before a0 Z = true) (ws : List Jvm.Cond) (wKINDS : Addr) (wSUBJECT_PREDICATE_OBJECT : Addr) (wSUBJECT_PREDICATE : Addr) (wSUBJECT_OBJECT : Addr) (wPREDICATE_OBJECT : Addr) (wSUBJECT : Addr) (wPREDICATE : Addr) (wOBJECT : Addr) (kKINDS : ClassId) (G : OwnG Z wKINDS wSUBJECT_PREDICATE_OBJECT wSUBJECT_PREDICATE wSUBJECT_OBJECT wPREDICATE_OBJECT wSUBJECT wPREDICATE wOBJECT kKINDS) (h0 : Heap) (n0 : Nat) (O0 : Old Z n0 h0) :
    MetFree l (⟨"com/example/quadrille/quadrille/graphfilter/PatternKind", "keeping", "(ZZZ)Lcom/example/quadrille/quadrille/graphfilter/PatternKind;"⟩ : MethodName) (head1 (Jvm.Cond.code (⟨"com/example/quadrille/quadrille/graphfilter/PatternKind", "keeping", "(ZZZ)Lcom/example/quadrille/quadrille/graphfilter/PatternKind;"⟩ : MethodName) prog_67_method_4_code 8 (some (.object "com/example/quadrille/quadrille/graphfilter/PatternKind")) :: ws) ({ frames := 0, cells := 0, slots := 0, locals := 0 } : Room)) (fun a U => a = #[(.int (0 : Int32)), (.int (1 : Int32)), (.int (1 : Int32))] ∧ Z.Warmed39 U.vm ∧ U.heap = h0) (fun _ _ _ _ _ => True) (fun _ U o U' => ∃ v L, o = .returned v ∧ OwnQ (some (.ref wPREDICATE_OBJECT)) h0 n0 v U'.heap L ∧ FrameEnd U o U' L ({ frames := 0, cells := 0, slots := 0, locals := 0 } : Room).cells ({ frames := 0, cells := 0, slots := 0, locals := 0 } : Room).slots) := by
  refine MetFree.of_bodySF (plainFor_of_name own_pn_1) hisR ?_
  intro p e s m args below meth c s₁ Bd hml0 hP hK
  obtain ⟨rfl, hZ, hh⟩ := hP
  have hx := Bd.exec
  have hby := Bd.bytes
  have hml : c.maxLocals = 8 := hml0
  have hown : s.vm.findClass "com/example/quadrille/quadrille/graphfilter/PatternKind" = some m.cls := findClass_of_methodNamed Bd.named
  have hnm := (name_of_methodNamed Bd.named Bd.method).1
  have X0 : Stand p l e ({ frames := 0, cells := 0, slots := 0, locals := 0 } : Room) s m #[(.int (0 : Int32)), (.int (1 : Int32)), (.int (1 : Int32))] below meth c s₁ [] 0 0 := Stand.of_body Bd
  have e0 : s₁.heap = h0 := by rw [← hh, Bd.state]; rfl
  have N0 := Fr.nil n0
  have pre0 : ∀ t, Steps p.tables e below (s₁.setTop (mkF m 0 #[.val (.int (0 : Int32)), .val (.int (1 : Int32)), .val (.int (1 : Int32)), .unset, .unset, .unset, .unset, .unset] [])) t → Steps p.tables e below (s₁.setTop (entryFrame m #[(.int (0 : Int32)), (.int (1 : Int32)), (.int (1 : Int32))] 8)) t := fun t k => castTop (own_ef_1_III m (0 : Int32) (1 : Int32) (1 : Int32)) k
  obtain ⟨T1, X1, e1, st1⟩ := getS2 X0 hx hZ hown (host := "") (Or.inl (hw _ (List.mem_of_getElem? (i := 4) rfl))) Via.refl e0 (G.1.ext O0.2) (g := (mkF m 2 #[.val (.int (0 : Int32)), .val (.int (1 : Int32)), .val (.int (1 : Int32)), .val .null, .unset, .unset, .unset, .unset] [])) rfl (hb hby own_d1_2)
  obtain ⟨cl2, Ar2, qk2, Sz2, Nn2, Hs2, Gs2⟩ := id ((G.2.2.2.2.2.2.2.2.2.2.2.2.2.2.2.2.2.2.2.2.2.2.2.2.2.2.2.2.2.2.2.2.2.2.2.2.1.ext O0.2))
  have hin3 : ¬ ((0 : Int32) < 0 ∨ cl2.slots.size ≤ ((0 : Int32)).toNatClampNeg) := inb_of Sz2 ⟨by decide, by decide⟩
  have hat3 : cl2.slots[((0 : Int32)).toNatClampNeg]? = some (.ref wSUBJECT_PREDICATE_OBJECT) := Hs2.at hin3 rfl
  obtain ⟨T4, X4, e4, st4⟩ := getF X1 hx hZ hown (host := "") (Or.inl (hw _ (List.mem_of_getElem? (i := 7) rfl))) Via.refl e1 (G.2.2.2.2.2.2.2.2.2.2.2.2.2.2.2.1.ext O0.2) (g := (mkF m 31 #[.val (.int (0 : Int32)), .val (.int (1 : Int32)), .val (.int (1 : Int32)), .val .null, .val (.ref wKINDS), .val (.int (7 : Int32)), .val (.int (0 : Int32)), .val (.ref wSUBJECT_PREDICATE_OBJECT)] [(.ref wSUBJECT_PREDICATE_OBJECT)])) rfl rfl (hb hby own_d1_31)
  have hin5 : ¬ ((1 : Int32) < 0 ∨ cl2.slots.size ≤ ((1 : Int32)).toNatClampNeg) := inb_of Sz2 ⟨by decide, by decide⟩
  have hat5 : cl2.slots[((1 : Int32)).toNatClampNeg]? = some (.ref wSUBJECT_PREDICATE) := Hs2.at hin5 rfl
  obtain ⟨T6, X6, e6, st6⟩ := getF X4 hx hZ hown (host := "") (Or.inl (hw _ (List.mem_of_getElem? (i := 7) rfl))) Via.refl e4 (G.2.2.2.2.2.2.2.2.2.2.2.2.2.2.2.2.1.ext O0.2) (g := (mkF m 31 #[.val (.int (0 : Int32)), .val (.int (1 : Int32)), .val (.int (1 : Int32)), .val .null, .val (.ref wKINDS), .val (.int (7 : Int32)), .val (.int (1 : Int32)), .val (.ref wSUBJECT_PREDICATE)] [(.ref wSUBJECT_PREDICATE)])) rfl rfl (hb hby own_d1_31)
  have hin7 : ¬ ((2 : Int32) < 0 ∨ cl2.slots.size ≤ ((2 : Int32)).toNatClampNeg) := inb_of Sz2 ⟨by decide, by decide⟩
  have hat7 : cl2.slots[((2 : Int32)).toNatClampNeg]? = some (.ref wSUBJECT_OBJECT) := Hs2.at hin7 rfl
  obtain ⟨T8, X8, e8, st8⟩ := getF X6 hx hZ hown (host := "") (Or.inl (hw _ (List.mem_of_getElem? (i := 7) rfl))) Via.refl e6 (G.2.2.2.2.2.2.2.2.2.2.2.2.2.2.2.2.2.1.ext O0.2) (g := (mkF m 31 #[.val (.int (0 : Int32)), .val (.int (1 : Int32)), .val (.int (1 : Int32)), .val .null, .val (.ref wKINDS), .val (.int (7 : Int32)), .val (.int (2 : Int32)), .val (.ref wSUBJECT_OBJECT)] [(.ref wSUBJECT_OBJECT)])) rfl rfl (hb hby own_d1_31)
  have hin9 : ¬ ((3 : Int32) < 0 ∨ cl2.slots.size ≤ ((3 : Int32)).toNatClampNeg) := inb_of Sz2 ⟨by decide, by decide⟩
  have hat9 : cl2.slots[((3 : Int32)).toNatClampNeg]? = some (.ref wPREDICATE_OBJECT) := Hs2.at hin9 rfl
  obtain ⟨T10, X10, e10, st10⟩ := getF X8 hx hZ hown (host := "") (Or.inl (hw _ (List.mem_of_getElem? (i := 7) rfl))) Via.refl e8 (G.2.2.2.2.2.2.2.2.2.2.2.2.2.2.2.2.2.2.1.ext O0.2) (g := (mkF m 31 #[.val (.int (0 : Int32)), .val (.int (1 : Int32)), .val (.int (1 : Int32)), .val .null, .val (.ref wKINDS), .val (.int (7 : Int32)), .val (.int (3 : Int32)), .val (.ref wPREDICATE_OBJECT)] [(.ref wPREDICATE_OBJECT)])) rfl rfl (hb hby own_d1_31)
  obtain ⟨T11, X11, e11, st11⟩ := getF X10 hx hZ hown (host := "") (Or.inl (hw _ (List.mem_of_getElem? (i := 12) rfl))) Via.refl e10 (G.2.2.2.2.2.2.2.2.2.2.2.2.2.2.2.2.2.2.2.1.ext O0.2) (g := (mkF m 40 #[.val (.int (0 : Int32)), .val (.int (1 : Int32)), .val (.int (1 : Int32)), .val .null, .val (.ref wKINDS), .val (.int (7 : Int32)), .val (.int (3 : Int32)), .val (.ref wPREDICATE_OBJECT)] [(.ref wPREDICATE_OBJECT)])) rfl rfl (hb hby own_d1_40)
  obtain ⟨T12, X12, e12, st12⟩ := getF X11 hx hZ hown (host := "") (Or.inl (hw _ (List.mem_of_getElem? (i := 17) rfl))) Via.refl e11 (G.2.2.2.2.2.2.2.2.2.2.2.2.2.2.2.2.2.2.2.2.2.2.2.2.2.2.2.2.2.2.2.2.1.ext O0.2) (g := (mkF m 49 #[.val (.int (0 : Int32)), .val (.int (1 : Int32)), .val (.int (1 : Int32)), .val .null, .val (.ref wKINDS), .val (.int (7 : Int32)), .val (.int (3 : Int32)), .val (.ref wPREDICATE_OBJECT)] [(.ref wPREDICATE_OBJECT)])) rfl rfl (hb hby own_d1_49)
  have hin13 : ¬ ((4 : Int32) < 0 ∨ cl2.slots.size ≤ ((4 : Int32)).toNatClampNeg) := inb_of Sz2 ⟨by decide, by decide⟩
  have hat13 : cl2.slots[((4 : Int32)).toNatClampNeg]? = some (.ref wSUBJECT) := Hs2.at hin13 rfl
  obtain ⟨T14, X14, e14, st14⟩ := getF X12 hx hZ hown (host := "") (Or.inl (hw _ (List.mem_of_getElem? (i := 7) rfl))) Via.refl e12 (G.2.2.2.2.2.2.2.2.2.2.2.2.2.2.2.2.2.2.2.2.1.ext O0.2) (g := (mkF m 31 #[.val (.int (0 : Int32)), .val (.int (1 : Int32)), .val (.int (1 : Int32)), .val (.ref wPREDICATE_OBJECT), .val (.ref wKINDS), .val (.int (7 : Int32)), .val (.int (4 : Int32)), .val (.ref wSUBJECT)] [(.ref wSUBJECT)])) rfl rfl (hb hby own_d1_31)
  have hin15 : ¬ ((5 : Int32) < 0 ∨ cl2.slots.size ≤ ((5 : Int32)).toNatClampNeg) := inb_of Sz2 ⟨by decide, by decide⟩
  have hat15 : cl2.slots[((5 : Int32)).toNatClampNeg]? = some (.ref wPREDICATE) := Hs2.at hin15 rfl
  obtain ⟨T16, X16, e16, st16⟩ := getF X14 hx hZ hown (host := "") (Or.inl (hw _ (List.mem_of_getElem? (i := 7) rfl))) Via.refl e14 (G.2.2.2.2.2.2.2.2.2.2.2.2.2.2.2.2.2.2.2.2.2.1.ext O0.2) (g := (mkF m 31 #[.val (.int (0 : Int32)), .val (.int (1 : Int32)), .val (.int (1 : Int32)), .val (.ref wPREDICATE_OBJECT), .val (.ref wKINDS), .val (.int (7 : Int32)), .val (.int (5 : Int32)), .val (.ref wPREDICATE)] [(.ref wPREDICATE)])) rfl rfl (hb hby own_d1_31)
  obtain ⟨T17, X17, e17, st17⟩ := getF X16 hx hZ hown (host := "") (Or.inl (hw _ (List.mem_of_getElem? (i := 12) rfl))) Via.refl e16 (G.2.2.2.2.2.2.2.2.2.2.2.2.2.2.2.2.2.2.2.2.2.2.1.ext O0.2) (g := (mkF m 40 #[.val (.int (0 : Int32)), .val (.int (1 : Int32)), .val (.int (1 : Int32)), .val (.ref wPREDICATE_OBJECT), .val (.ref wKINDS), .val (.int (7 : Int32)), .val (.int (5 : Int32)), .val (.ref wPREDICATE)] [(.ref wPREDICATE)])) rfl rfl (hb hby own_d1_40)
  obtain ⟨T18, X18, e18, st18⟩ := getF X17 hx hZ hown (host := "") (Or.inl (hw _ (List.mem_of_getElem? (i := 17) rfl))) Via.refl e17 (G.2.2.2.2.2.2.2.2.2.2.2.2.2.2.2.2.2.2.2.2.2.2.2.2.2.2.2.2.2.2.2.2.2.1.ext O0.2) (g := (mkF m 49 #[.val (.int (0 : Int32)), .val (.int (1 : Int32)), .val (.int (1 : Int32)), .val (.ref wPREDICATE_OBJECT), .val (.ref wKINDS), .val (.int (7 : Int32)), .val (.int (5 : Int32)), .val (.ref wPREDICATE)] [(.ref wPREDICATE)])) rfl rfl (hb hby own_d1_49)
  have hin19 : ¬ ((6 : Int32) < 0 ∨ cl2.slots.size ≤ ((6 : Int32)).toNatClampNeg) := inb_of Sz2 ⟨by decide, by decide⟩
  have hat19 : cl2.slots[((6 : Int32)).toNatClampNeg]? = some (.ref wOBJECT) := Hs2.at hin19 rfl
  obtain ⟨T20, X20, e20, st20⟩ := getF X18 hx hZ hown (host := "") (Or.inl (hw _ (List.mem_of_getElem? (i := 7) rfl))) Via.refl e18 (G.2.2.2.2.2.2.2.2.2.2.2.2.2.2.2.2.2.2.2.2.2.2.2.1.ext O0.2) (g := (mkF m 31 #[.val (.int (0 : Int32)), .val (.int (1 : Int32)), .val (.int (1 : Int32)), .val (.ref wPREDICATE_OBJECT), .val (.ref wKINDS), .val (.int (7 : Int32)), .val (.int (6 : Int32)), .val (.ref wOBJECT)] [(.ref wOBJECT)])) rfl rfl (hb hby own_d1_31)
  obtain ⟨T21, X21, e21, st21⟩ := getF X20 hx hZ hown (host := "") (Or.inl (hw _ (List.mem_of_getElem? (i := 12) rfl))) Via.refl e20 (G.2.2.2.2.2.2.2.2.2.2.2.2.2.2.2.2.2.2.2.2.2.2.2.2.1.ext O0.2) (g := (mkF m 40 #[.val (.int (0 : Int32)), .val (.int (1 : Int32)), .val (.int (1 : Int32)), .val (.ref wPREDICATE_OBJECT), .val (.ref wKINDS), .val (.int (7 : Int32)), .val (.int (6 : Int32)), .val (.ref wOBJECT)] [(.ref wOBJECT)])) rfl rfl (hb hby own_d1_40)
  obtain ⟨fs, hr, hrun, hended, hW, hsame⟩ := X21.leave (v := some (.ref wPREDICATE_OBJECT)) (fun h => by rw [Bd.returns] at h; cases h)
  refine ⟨_, _, pre0 _ ?_, hrun, hended, _, _, rfl, ?_, ⟨_, rfl⟩, hW, hsame.mono (by decide) (by decide)⟩
  · show Steps p.tables e below (s₁.setTop (mkF m 0 #[.val (.int (0 : Int32)), .val (.int (1 : Int32)), .val (.int (1 : Int32)), .unset, .unset, .unset, .unset, .unset] [])) _
    refine XS.aconstNull X0.here hx rfl (hb hby own_d1_0) ?_
    show Steps p.tables e below (s₁.setTop (mkF m 1 #[.val (.int (0 : Int32)), .val (.int (1 : Int32)), .val (.int (1 : Int32)), .unset, .unset, .unset, .unset, .unset] [.null])) _
    refine XS.astoreN X0.here hx rfl (hb hby own_d1_1) rfl rfl (l' := #[.val (.int (0 : Int32)), .val (.int (1 : Int32)), .val (.int (1 : Int32)), .val .null, .unset, .unset, .unset, .unset]) rfl ?_
    show Steps p.tables e below (s₁.setTop (mkF m 2 #[.val (.int (0 : Int32)), .val (.int (1 : Int32)), .val (.int (1 : Int32)), .val .null, .unset, .unset, .unset, .unset] [])) _
    refine st1 _ ?_
    show Steps p.tables e below (T1.setTop (mkF m 5 #[.val (.int (0 : Int32)), .val (.int (1 : Int32)), .val (.int (1 : Int32)), .val .null, .unset, .unset, .unset, .unset] [(.ref wKINDS)])) _
    refine XS.astore X1.here hx rfl (hb hby own_d1_5) rfl rfl (l' := #[.val (.int (0 : Int32)), .val (.int (1 : Int32)), .val (.int (1 : Int32)), .val .null, .val (.ref wKINDS), .unset, .unset, .unset]) rfl ?_
    show Steps p.tables e below (T1.setTop (mkF m 7 #[.val (.int (0 : Int32)), .val (.int (1 : Int32)), .val (.int (1 : Int32)), .val .null, .val (.ref wKINDS), .unset, .unset, .unset] [])) _
    refine XS.aload X1.here hx rfl (hb hby own_d1_7) rfl rfl ?_
    show Steps p.tables e below (T1.setTop (mkF m 9 #[.val (.int (0 : Int32)), .val (.int (1 : Int32)), .val (.int (1 : Int32)), .val .null, .val (.ref wKINDS), .unset, .unset, .unset] [(.ref wKINDS)])) _
    refine X1.arraylength hx (by rw [e1]; exact Ar2.1) (State.isArrayOf_alike hZ.alike Ar2.2.1) (g := (mkF m 9 #[.val (.int (0 : Int32)), .val (.int (1 : Int32)), .val (.int (1 : Int32)), .val .null, .val (.ref wKINDS), .unset, .unset, .unset] [(.ref wKINDS)])) rfl rfl (hb hby own_d1_9) _ ?_
    rw [len_of Sz2 Nn2]
    show Steps p.tables e below (T1.setTop (mkF m 10 #[.val (.int (0 : Int32)), .val (.int (1 : Int32)), .val (.int (1 : Int32)), .val .null, .val (.ref wKINDS), .unset, .unset, .unset] [(.int (7 : Int32))])) _
    refine XS.istore X1.here hx rfl (hb hby own_d1_10) rfl (l' := #[.val (.int (0 : Int32)), .val (.int (1 : Int32)), .val (.int (1 : Int32)), .val .null, .val (.ref wKINDS), .val (.int (7 : Int32)), .unset, .unset]) rfl ?_
    show Steps p.tables e below (T1.setTop (mkF m 12 #[.val (.int (0 : Int32)), .val (.int (1 : Int32)), .val (.int (1 : Int32)), .val .null, .val (.ref wKINDS), .val (.int (7 : Int32)), .unset, .unset] [])) _
    refine XS.iconst X1.here hx rfl (hb hby own_d1_12) ?_
    show Steps p.tables e below (T1.setTop (mkF m 13 #[.val (.int (0 : Int32)), .val (.int (1 : Int32)), .val (.int (1 : Int32)), .val .null, .val (.ref wKINDS), .val (.int (7 : Int32)), .unset, .unset] [(.int (0 : Int32))])) _
    refine XS.istore X1.here hx rfl (hb hby own_d1_13) rfl (l' := #[.val (.int (0 : Int32)), .val (.int (1 : Int32)), .val (.int (1 : Int32)), .val .null, .val (.ref wKINDS), .val (.int (7 : Int32)), .val (.int (0 : Int32)), .unset]) rfl ?_
    show Steps p.tables e below (T1.setTop (mkF m 15 #[.val (.int (0 : Int32)), .val (.int (1 : Int32)), .val (.int (1 : Int32)), .val .null, .val (.ref wKINDS), .val (.int (7 : Int32)), .val (.int (0 : Int32)), .unset] [])) _
    refine XS.iload X1.here hx rfl (hb hby own_d1_15) rfl ?_
    show Steps p.tables e below (T1.setTop (mkF m 17 #[.val (.int (0 : Int32)), .val (.int (1 : Int32)), .val (.int (1 : Int32)), .val .null, .val (.ref wKINDS), .val (.int (7 : Int32)), .val (.int (0 : Int32)), .unset] [(.int (0 : Int32))])) _
    refine XS.iload X1.here hx rfl (hb hby own_d1_17) rfl ?_
    show Steps p.tables e below (T1.setTop (mkF m 19 #[.val (.int (0 : Int32)), .val (.int (1 : Int32)), .val (.int (1 : Int32)), .val .null, .val (.ref wKINDS), .val (.int (7 : Int32)), .val (.int (0 : Int32)), .unset] [(.int (7 : Int32)), (.int (0 : Int32))])) _
    refine XS.icmpNo X1.here hx rfl (hb hby own_d1_19) rfl (by decide) ?_
    show Steps p.tables e below (T1.setTop (mkF m 22 #[.val (.int (0 : Int32)), .val (.int (1 : Int32)), .val (.int (1 : Int32)), .val .null, .val (.ref wKINDS), .val (.int (7 : Int32)), .val (.int (0 : Int32)), .unset] [])) _
    refine XS.aload X1.here hx rfl (hb hby own_d1_22) rfl rfl ?_
    show Steps p.tables e below (T1.setTop (mkF m 24 #[.val (.int (0 : Int32)), .val (.int (1 : Int32)), .val (.int (1 : Int32)), .val .null, .val (.ref wKINDS), .val (.int (7 : Int32)), .val (.int (0 : Int32)), .unset] [(.ref wKINDS)])) _
    refine XS.iload X1.here hx rfl (hb hby own_d1_24) rfl ?_
    show Steps p.tables e below (T1.setTop (mkF m 26 #[.val (.int (0 : Int32)), .val (.int (1 : Int32)), .val (.int (1 : Int32)), .val .null, .val (.ref wKINDS), .val (.int (7 : Int32)), .val (.int (0 : Int32)), .unset] [(.int (0 : Int32)), (.ref wKINDS)])) _
    refine X1.aaload hx (j := (0 : Int32)) (v := (.ref wSUBJECT_PREDICATE_OBJECT)) (by rw [e1]; exact Ar2.1) (State.isArrayOf_alike hZ.alike Ar2.2.1) rfl Ar2.2.2 hin3 hat3 (g := (mkF m 26 #[.val (.int (0 : Int32)), .val (.int (1 : Int32)), .val (.int (1 : Int32)), .val .null, .val (.ref wKINDS), .val (.int (7 : Int32)), .val (.int (0 : Int32)), .unset] [(.int (0 : Int32)), (.ref wKINDS)])) rfl rfl (hb hby own_d1_26) _ ?_
    show Steps p.tables e below (T1.setTop (mkF m 27 #[.val (.int (0 : Int32)), .val (.int (1 : Int32)), .val (.int (1 : Int32)), .val .null, .val (.ref wKINDS), .val (.int (7 : Int32)), .val (.int (0 : Int32)), .unset] [(.ref wSUBJECT_PREDICATE_OBJECT)])) _
    refine XS.astore X1.here hx rfl (hb hby own_d1_27) rfl rfl (l' := #[.val (.int (0 : Int32)), .val (.int (1 : Int32)), .val (.int (1 : Int32)), .val .null, .val (.ref wKINDS), .val (.int (7 : Int32)), .val (.int (0 : Int32)), .val (.ref wSUBJECT_PREDICATE_OBJECT)]) rfl ?_
    show Steps p.tables e below (T1.setTop (mkF m 29 #[.val (.int (0 : Int32)), .val (.int (1 : Int32)), .val (.int (1 : Int32)), .val .null, .val (.ref wKINDS), .val (.int (7 : Int32)), .val (.int (0 : Int32)), .val (.ref wSUBJECT_PREDICATE_OBJECT)] [])) _
    refine XS.aload X1.here hx rfl (hb hby own_d1_29) rfl rfl ?_
    show Steps p.tables e below (T1.setTop (mkF m 31 #[.val (.int (0 : Int32)), .val (.int (1 : Int32)), .val (.int (1 : Int32)), .val .null, .val (.ref wKINDS), .val (.int (7 : Int32)), .val (.int (0 : Int32)), .val (.ref wSUBJECT_PREDICATE_OBJECT)] [(.ref wSUBJECT_PREDICATE_OBJECT)])) _
    refine st4 _ ?_
    show Steps p.tables e below (T4.setTop (mkF m 34 #[.val (.int (0 : Int32)), .val (.int (1 : Int32)), .val (.int (1 : Int32)), .val .null, .val (.ref wKINDS), .val (.int (7 : Int32)), .val (.int (0 : Int32)), .val (.ref wSUBJECT_PREDICATE_OBJECT)] [(.int (1 : Int32))])) _
    refine XS.iloadN X4.here hx rfl (hb hby own_d1_34) rfl ?_
    show Steps p.tables e below (T4.setTop (mkF m 35 #[.val (.int (0 : Int32)), .val (.int (1 : Int32)), .val (.int (1 : Int32)), .val .null, .val (.ref wKINDS), .val (.int (7 : Int32)), .val (.int (0 : Int32)), .val (.ref wSUBJECT_PREDICATE_OBJECT)] [(.int (0 : Int32)), (.int (1 : Int32))])) _
    refine XS.icmpYes X4.here hx rfl (pc0 := 35) (pc' := 59) rfl (hb hby own_d1_35) rfl (by decide) (by decide) (by decide) ?_
    show Steps p.tables e below (T4.setTop (mkF m 59 #[.val (.int (0 : Int32)), .val (.int (1 : Int32)), .val (.int (1 : Int32)), .val .null, .val (.ref wKINDS), .val (.int (7 : Int32)), .val (.int (0 : Int32)), .val (.ref wSUBJECT_PREDICATE_OBJECT)] [])) _
    refine XS.iinc X4.here hx rfl (hb hby own_d1_59) rfl (l' := #[.val (.int (0 : Int32)), .val (.int (1 : Int32)), .val (.int (1 : Int32)), .val .null, .val (.ref wKINDS), .val (.int (7 : Int32)), .val (.int (1 : Int32)), .val (.ref wSUBJECT_PREDICATE_OBJECT)]) rfl ?_
    show Steps p.tables e below (T4.setTop (mkF m 62 #[.val (.int (0 : Int32)), .val (.int (1 : Int32)), .val (.int (1 : Int32)), .val .null, .val (.ref wKINDS), .val (.int (7 : Int32)), .val (.int (1 : Int32)), .val (.ref wSUBJECT_PREDICATE_OBJECT)] [])) _
    refine XS.goto X4.here hx rfl (pc0 := 62) (pc' := 15) rfl (hb hby own_d1_62) (by decide) (by decide) ?_
    show Steps p.tables e below (T4.setTop (mkF m 15 #[.val (.int (0 : Int32)), .val (.int (1 : Int32)), .val (.int (1 : Int32)), .val .null, .val (.ref wKINDS), .val (.int (7 : Int32)), .val (.int (1 : Int32)), .val (.ref wSUBJECT_PREDICATE_OBJECT)] [])) _
    refine XS.iload X4.here hx rfl (hb hby own_d1_15) rfl ?_
    show Steps p.tables e below (T4.setTop (mkF m 17 #[.val (.int (0 : Int32)), .val (.int (1 : Int32)), .val (.int (1 : Int32)), .val .null, .val (.ref wKINDS), .val (.int (7 : Int32)), .val (.int (1 : Int32)), .val (.ref wSUBJECT_PREDICATE_OBJECT)] [(.int (1 : Int32))])) _
    refine XS.iload X4.here hx rfl (hb hby own_d1_17) rfl ?_
    show Steps p.tables e below (T4.setTop (mkF m 19 #[.val (.int (0 : Int32)), .val (.int (1 : Int32)), .val (.int (1 : Int32)), .val .null, .val (.ref wKINDS), .val (.int (7 : Int32)), .val (.int (1 : Int32)), .val (.ref wSUBJECT_PREDICATE_OBJECT)] [(.int (7 : Int32)), (.int (1 : Int32))])) _
    refine XS.icmpNo X4.here hx rfl (hb hby own_d1_19) rfl (by decide) ?_
    show Steps p.tables e below (T4.setTop (mkF m 22 #[.val (.int (0 : Int32)), .val (.int (1 : Int32)), .val (.int (1 : Int32)), .val .null, .val (.ref wKINDS), .val (.int (7 : Int32)), .val (.int (1 : Int32)), .val (.ref wSUBJECT_PREDICATE_OBJECT)] [])) _
    refine XS.aload X4.here hx rfl (hb hby own_d1_22) rfl rfl ?_
    show Steps p.tables e below (T4.setTop (mkF m 24 #[.val (.int (0 : Int32)), .val (.int (1 : Int32)), .val (.int (1 : Int32)), .val .null, .val (.ref wKINDS), .val (.int (7 : Int32)), .val (.int (1 : Int32)), .val (.ref wSUBJECT_PREDICATE_OBJECT)] [(.ref wKINDS)])) _
    refine XS.iload X4.here hx rfl (hb hby own_d1_24) rfl ?_
    show Steps p.tables e below (T4.setTop (mkF m 26 #[.val (.int (0 : Int32)), .val (.int (1 : Int32)), .val (.int (1 : Int32)), .val .null, .val (.ref wKINDS), .val (.int (7 : Int32)), .val (.int (1 : Int32)), .val (.ref wSUBJECT_PREDICATE_OBJECT)] [(.int (1 : Int32)), (.ref wKINDS)])) _
    refine X4.aaload hx (j := (1 : Int32)) (v := (.ref wSUBJECT_PREDICATE)) (by rw [e4]; exact Ar2.1) (State.isArrayOf_alike hZ.alike Ar2.2.1) rfl Ar2.2.2 hin5 hat5 (g := (mkF m 26 #[.val (.int (0 : Int32)), .val (.int (1 : Int32)), .val (.int (1 : Int32)), .val .null, .val (.ref wKINDS), .val (.int (7 : Int32)), .val (.int (1 : Int32)), .val (.ref wSUBJECT_PREDICATE_OBJECT)] [(.int (1 : Int32)), (.ref wKINDS)])) rfl rfl (hb hby own_d1_26) _ ?_
    show Steps p.tables e below (T4.setTop (mkF m 27 #[.val (.int (0 : Int32)), .val (.int (1 : Int32)), .val (.int (1 : Int32)), .val .null, .val (.ref wKINDS), .val (.int (7 : Int32)), .val (.int (1 : Int32)), .val (.ref wSUBJECT_PREDICATE_OBJECT)] [(.ref wSUBJECT_PREDICATE)])) _
    refine XS.astore X4.here hx rfl (hb hby own_d1_27) rfl rfl (l' := #[.val (.int (0 : Int32)), .val (.int (1 : Int32)), .val (.int (1 : Int32)), .val .null, .val (.ref wKINDS), .val (.int (7 : Int32)), .val (.int (1 : Int32)), .val (.ref wSUBJECT_PREDICATE)]) rfl ?_
    show Steps p.tables e below (T4.setTop (mkF m 29 #[.val (.int (0 : Int32)), .val (.int (1 : Int32)), .val (.int (1 : Int32)), .val .null, .val (.ref wKINDS), .val (.int (7 : Int32)), .val (.int (1 : Int32)), .val (.ref wSUBJECT_PREDICATE)] [])) _
    refine XS.aload X4.here hx rfl (hb hby own_d1_29) rfl rfl ?_
    show Steps p.tables e below (T4.setTop (mkF m 31 #[.val (.int (0 : Int32)), .val (.int (1 : Int32)), .val (.int (1 : Int32)), .val .null, .val (.ref wKINDS), .val (.int (7 : Int32)), .val (.int (1 : Int32)), .val (.ref wSUBJECT_PREDICATE)] [(.ref wSUBJECT_PREDICATE)])) _
    refine st6 _ ?_
    show Steps p.tables e below (T6.setTop (mkF m 34 #[.val (.int (0 : Int32)), .val (.int (1 : Int32)), .val (.int (1 : Int32)), .val .null, .val (.ref wKINDS), .val (.int (7 : Int32)), .val (.int (1 : Int32)), .val (.ref wSUBJECT_PREDICATE)] [(.int (1 : Int32))])) _
    refine XS.iloadN X6.here hx rfl (hb hby own_d1_34) rfl ?_
    show Steps p.tables e below (T6.setTop (mkF m 35 #[.val (.int (0 : Int32)), .val (.int (1 : Int32)), .val (.int (1 : Int32)), .val .null, .val (.ref wKINDS), .val (.int (7 : Int32)), .val (.int (1 : Int32)), .val (.ref wSUBJECT_PREDICATE)] [(.int (0 : Int32)), (.int (1 : Int32))])) _
    refine XS.icmpYes X6.here hx rfl (pc0 := 35) (pc' := 59) rfl (hb hby own_d1_35) rfl (by decide) (by decide) (by decide) ?_
    show Steps p.tables e below (T6.setTop (mkF m 59 #[.val (.int (0 : Int32)), .val (.int (1 : Int32)), .val (.int (1 : Int32)), .val .null, .val (.ref wKINDS), .val (.int (7 : Int32)), .val (.int (1 : Int32)), .val (.ref wSUBJECT_PREDICATE)] [])) _
    refine XS.iinc X6.here hx rfl (hb hby own_d1_59) rfl (l' := #[.val (.int (0 : Int32)), .val (.int (1 : Int32)), .val (.int (1 : Int32)), .val .null, .val (.ref wKINDS), .val (.int (7 : Int32)), .val (.int (2 : Int32)), .val (.ref wSUBJECT_PREDICATE)]) rfl ?_
    show Steps p.tables e below (T6.setTop (mkF m 62 #[.val (.int (0 : Int32)), .val (.int (1 : Int32)), .val (.int (1 : Int32)), .val .null, .val (.ref wKINDS), .val (.int (7 : Int32)), .val (.int (2 : Int32)), .val (.ref wSUBJECT_PREDICATE)] [])) _
    refine XS.goto X6.here hx rfl (pc0 := 62) (pc' := 15) rfl (hb hby own_d1_62) (by decide) (by decide) ?_
    show Steps p.tables e below (T6.setTop (mkF m 15 #[.val (.int (0 : Int32)), .val (.int (1 : Int32)), .val (.int (1 : Int32)), .val .null, .val (.ref wKINDS), .val (.int (7 : Int32)), .val (.int (2 : Int32)), .val (.ref wSUBJECT_PREDICATE)] [])) _
    refine XS.iload X6.here hx rfl (hb hby own_d1_15) rfl ?_
    show Steps p.tables e below (T6.setTop (mkF m 17 #[.val (.int (0 : Int32)), .val (.int (1 : Int32)), .val (.int (1 : Int32)), .val .null, .val (.ref wKINDS), .val (.int (7 : Int32)), .val (.int (2 : Int32)), .val (.ref wSUBJECT_PREDICATE)] [(.int (2 : Int32))])) _
    refine XS.iload X6.here hx rfl (hb hby own_d1_17) rfl ?_
    show Steps p.tables e below (T6.setTop (mkF m 19 #[.val (.int (0 : Int32)), .val (.int (1 : Int32)), .val (.int (1 : Int32)), .val .null, .val (.ref wKINDS), .val (.int (7 : Int32)), .val (.int (2 : Int32)), .val (.ref wSUBJECT_PREDICATE)] [(.int (7 : Int32)), (.int (2 : Int32))])) _
    refine XS.icmpNo X6.here hx rfl (hb hby own_d1_19) rfl (by decide) ?_
    show Steps p.tables e below (T6.setTop (mkF m 22 #[.val (.int (0 : Int32)), .val (.int (1 : Int32)), .val (.int (1 : Int32)), .val .null, .val (.ref wKINDS), .val (.int (7 : Int32)), .val (.int (2 : Int32)), .val (.ref wSUBJECT_PREDICATE)] [])) _
    refine XS.aload X6.here hx rfl (hb hby own_d1_22) rfl rfl ?_
    show Steps p.tables e below (T6.setTop (mkF m 24 #[.val (.int (0 : Int32)), .val (.int (1 : Int32)), .val (.int (1 : Int32)), .val .null, .val (.ref wKINDS), .val (.int (7 : Int32)), .val (.int (2 : Int32)), .val (.ref wSUBJECT_PREDICATE)] [(.ref wKINDS)])) _
    refine XS.iload X6.here hx rfl (hb hby own_d1_24) rfl ?_
    show Steps p.tables e below (T6.setTop (mkF m 26 #[.val (.int (0 : Int32)), .val (.int (1 : Int32)), .val (.int (1 : Int32)), .val .null, .val (.ref wKINDS), .val (.int (7 : Int32)), .val (.int (2 : Int32)), .val (.ref wSUBJECT_PREDICATE)] [(.int (2 : Int32)), (.ref wKINDS)])) _
    refine X6.aaload hx (j := (2 : Int32)) (v := (.ref wSUBJECT_OBJECT)) (by rw [e6]; exact Ar2.1) (State.isArrayOf_alike hZ.alike Ar2.2.1) rfl Ar2.2.2 hin7 hat7 (g := (mkF m 26 #[.val (.int (0 : Int32)), .val (.int (1 : Int32)), .val (.int (1 : Int32)), .val .null, .val (.ref wKINDS), .val (.int (7 : Int32)), .val (.int (2 : Int32)), .val (.ref wSUBJECT_PREDICATE)] [(.int (2 : Int32)), (.ref wKINDS)])) rfl rfl (hb hby own_d1_26) _ ?_
    show Steps p.tables e below (T6.setTop (mkF m 27 #[.val (.int (0 : Int32)), .val (.int (1 : Int32)), .val (.int (1 : Int32)), .val .null, .val (.ref wKINDS), .val (.int (7 : Int32)), .val (.int (2 : Int32)), .val (.ref wSUBJECT_PREDICATE)] [(.ref wSUBJECT_OBJECT)])) _
    refine XS.astore X6.here hx rfl (hb hby own_d1_27) rfl rfl (l' := #[.val (.int (0 : Int32)), .val (.int (1 : Int32)), .val (.int (1 : Int32)), .val .null, .val (.ref wKINDS), .val (.int (7 : Int32)), .val (.int (2 : Int32)), .val (.ref wSUBJECT_OBJECT)]) rfl ?_
    show Steps p.tables e below (T6.setTop (mkF m 29 #[.val (.int (0 : Int32)), .val (.int (1 : Int32)), .val (.int (1 : Int32)), .val .null, .val (.ref wKINDS), .val (.int (7 : Int32)), .val (.int (2 : Int32)), .val (.ref wSUBJECT_OBJECT)] [])) _
    refine XS.aload X6.here hx rfl (hb hby own_d1_29) rfl rfl ?_
    show Steps p.tables e below (T6.setTop (mkF m 31 #[.val (.int (0 : Int32)), .val (.int (1 : Int32)), .val (.int (1 : Int32)), .val .null, .val (.ref wKINDS), .val (.int (7 : Int32)), .val (.int (2 : Int32)), .val (.ref wSUBJECT_OBJECT)] [(.ref wSUBJECT_OBJECT)])) _
    refine st8 _ ?_
    show Steps p.tables e below (T8.setTop (mkF m 34 #[.val (.int (0 : Int32)), .val (.int (1 : Int32)), .val (.int (1 : Int32)), .val .null, .val (.ref wKINDS), .val (.int (7 : Int32)), .val (.int (2 : Int32)), .val (.ref wSUBJECT_OBJECT)] [(.int (1 : Int32))])) _
    refine XS.iloadN X8.here hx rfl (hb hby own_d1_34) rfl ?_
    show Steps p.tables e below (T8.setTop (mkF m 35 #[.val (.int (0 : Int32)), .val (.int (1 : Int32)), .val (.int (1 : Int32)), .val .null, .val (.ref wKINDS), .val (.int (7 : Int32)), .val (.int (2 : Int32)), .val (.ref wSUBJECT_OBJECT)] [(.int (0 : Int32)), (.int (1 : Int32))])) _
    refine XS.icmpYes X8.here hx rfl (pc0 := 35) (pc' := 59) rfl (hb hby own_d1_35) rfl (by decide) (by decide) (by decide) ?_
    show Steps p.tables e below (T8.setTop (mkF m 59 #[.val (.int (0 : Int32)), .val (.int (1 : Int32)), .val (.int (1 : Int32)), .val .null, .val (.ref wKINDS), .val (.int (7 : Int32)), .val (.int (2 : Int32)), .val (.ref wSUBJECT_OBJECT)] [])) _
    refine XS.iinc X8.here hx rfl (hb hby own_d1_59) rfl (l' := #[.val (.int (0 : Int32)), .val (.int (1 : Int32)), .val (.int (1 : Int32)), .val .null, .val (.ref wKINDS), .val (.int (7 : Int32)), .val (.int (3 : Int32)), .val (.ref wSUBJECT_OBJECT)]) rfl ?_
    show Steps p.tables e below (T8.setTop (mkF m 62 #[.val (.int (0 : Int32)), .val (.int (1 : Int32)), .val (.int (1 : Int32)), .val .null, .val (.ref wKINDS), .val (.int (7 : Int32)), .val (.int (3 : Int32)), .val (.ref wSUBJECT_OBJECT)] [])) _
    refine XS.goto X8.here hx rfl (pc0 := 62) (pc' := 15) rfl (hb hby own_d1_62) (by decide) (by decide) ?_
    show Steps p.tables e below (T8.setTop (mkF m 15 #[.val (.int (0 : Int32)), .val (.int (1 : Int32)), .val (.int (1 : Int32)), .val .null, .val (.ref wKINDS), .val (.int (7 : Int32)), .val (.int (3 : Int32)), .val (.ref wSUBJECT_OBJECT)] [])) _
    refine XS.iload X8.here hx rfl (hb hby own_d1_15) rfl ?_
    show Steps p.tables e below (T8.setTop (mkF m 17 #[.val (.int (0 : Int32)), .val (.int (1 : Int32)), .val (.int (1 : Int32)), .val .null, .val (.ref wKINDS), .val (.int (7 : Int32)), .val (.int (3 : Int32)), .val (.ref wSUBJECT_OBJECT)] [(.int (3 : Int32))])) _
    refine XS.iload X8.here hx rfl (hb hby own_d1_17) rfl ?_
    show Steps p.tables e below (T8.setTop (mkF m 19 #[.val (.int (0 : Int32)), .val (.int (1 : Int32)), .val (.int (1 : Int32)), .val .null, .val (.ref wKINDS), .val (.int (7 : Int32)), .val (.int (3 : Int32)), .val (.ref wSUBJECT_OBJECT)] [(.int (7 : Int32)), (.int (3 : Int32))])) _
    refine XS.icmpNo X8.here hx rfl (hb hby own_d1_19) rfl (by decide) ?_
    show Steps p.tables e below (T8.setTop (mkF m 22 #[.val (.int (0 : Int32)), .val (.int (1 : Int32)), .val (.int (1 : Int32)), .val .null, .val (.ref wKINDS), .val (.int (7 : Int32)), .val (.int (3 : Int32)), .val (.ref wSUBJECT_OBJECT)] [])) _
    refine XS.aload X8.here hx rfl (hb hby own_d1_22) rfl rfl ?_
    show Steps p.tables e below (T8.setTop (mkF m 24 #[.val (.int (0 : Int32)), .val (.int (1 : Int32)), .val (.int (1 : Int32)), .val .null, .val (.ref wKINDS), .val (.int (7 : Int32)), .val (.int (3 : Int32)), .val (.ref wSUBJECT_OBJECT)] [(.ref wKINDS)])) _
    refine XS.iload X8.here hx rfl (hb hby own_d1_24) rfl ?_
    show Steps p.tables e below (T8.setTop (mkF m 26 #[.val (.int (0 : Int32)), .val (.int (1 : Int32)), .val (.int (1 : Int32)), .val .null, .val (.ref wKINDS), .val (.int (7 : Int32)), .val (.int (3 : Int32)), .val (.ref wSUBJECT_OBJECT)] [(.int (3 : Int32)), (.ref wKINDS)])) _
    refine X8.aaload hx (j := (3 : Int32)) (v := (.ref wPREDICATE_OBJECT)) (by rw [e8]; exact Ar2.1) (State.isArrayOf_alike hZ.alike Ar2.2.1) rfl Ar2.2.2 hin9 hat9 (g := (mkF m 26 #[.val (.int (0 : Int32)), .val (.int (1 : Int32)), .val (.int (1 : Int32)), .val .null, .val (.ref wKINDS), .val (.int (7 : Int32)), .val (.int (3 : Int32)), .val (.ref wSUBJECT_OBJECT)] [(.int (3 : Int32)), (.ref wKINDS)])) rfl rfl (hb hby own_d1_26) _ ?_
    show Steps p.tables e below (T8.setTop (mkF m 27 #[.val (.int (0 : Int32)), .val (.int (1 : Int32)), .val (.int (1 : Int32)), .val .null, .val (.ref wKINDS), .val (.int (7 : Int32)), .val (.int (3 : Int32)), .val (.ref wSUBJECT_OBJECT)] [(.ref wPREDICATE_OBJECT)])) _
    refine XS.astore X8.here hx rfl (hb hby own_d1_27) rfl rfl (l' := #[.val (.int (0 : Int32)), .val (.int (1 : Int32)), .val (.int (1 : Int32)), .val .null, .val (.ref wKINDS), .val (.int (7 : Int32)), .val (.int (3 : Int32)), .val (.ref wPREDICATE_OBJECT)]) rfl ?_
    show Steps p.tables e below (T8.setTop (mkF m 29 #[.val (.int (0 : Int32)), .val (.int (1 : Int32)), .val (.int (1 : Int32)), .val .null, .val (.ref wKINDS), .val (.int (7 : Int32)), .val (.int (3 : Int32)), .val (.ref wPREDICATE_OBJECT)] [])) _
    refine XS.aload X8.here hx rfl (hb hby own_d1_29) rfl rfl ?_
    show Steps p.tables e below (T8.setTop (mkF m 31 #[.val (.int (0 : Int32)), .val (.int (1 : Int32)), .val (.int (1 : Int32)), .val .null, .val (.ref wKINDS), .val (.int (7 : Int32)), .val (.int (3 : Int32)), .val (.ref wPREDICATE_OBJECT)] [(.ref wPREDICATE_OBJECT)])) _
    refine st10 _ ?_
    show Steps p.tables e below (T10.setTop (mkF m 34 #[.val (.int (0 : Int32)), .val (.int (1 : Int32)), .val (.int (1 : Int32)), .val .null, .val (.ref wKINDS), .val (.int (7 : Int32)), .val (.int (3 : Int32)), .val (.ref wPREDICATE_OBJECT)] [(.int (0 : Int32))])) _
    refine XS.iloadN X10.here hx rfl (hb hby own_d1_34) rfl ?_
    show Steps p.tables e below (T10.setTop (mkF m 35 #[.val (.int (0 : Int32)), .val (.int (1 : Int32)), .val (.int (1 : Int32)), .val .null, .val (.ref wKINDS), .val (.int (7 : Int32)), .val (.int (3 : Int32)), .val (.ref wPREDICATE_OBJECT)] [(.int (0 : Int32)), (.int (0 : Int32))])) _
    refine XS.icmpNo X10.here hx rfl (hb hby own_d1_35) rfl (by decide) ?_
    show Steps p.tables e below (T10.setTop (mkF m 38 #[.val (.int (0 : Int32)), .val (.int (1 : Int32)), .val (.int (1 : Int32)), .val .null, .val (.ref wKINDS), .val (.int (7 : Int32)), .val (.int (3 : Int32)), .val (.ref wPREDICATE_OBJECT)] [])) _
    refine XS.aload X10.here hx rfl (hb hby own_d1_38) rfl rfl ?_
    show Steps p.tables e below (T10.setTop (mkF m 40 #[.val (.int (0 : Int32)), .val (.int (1 : Int32)), .val (.int (1 : Int32)), .val .null, .val (.ref wKINDS), .val (.int (7 : Int32)), .val (.int (3 : Int32)), .val (.ref wPREDICATE_OBJECT)] [(.ref wPREDICATE_OBJECT)])) _
    refine st11 _ ?_
    show Steps p.tables e below (T11.setTop (mkF m 43 #[.val (.int (0 : Int32)), .val (.int (1 : Int32)), .val (.int (1 : Int32)), .val .null, .val (.ref wKINDS), .val (.int (7 : Int32)), .val (.int (3 : Int32)), .val (.ref wPREDICATE_OBJECT)] [(.int (1 : Int32))])) _
    refine XS.iloadN X11.here hx rfl (hb hby own_d1_43) rfl ?_
    show Steps p.tables e below (T11.setTop (mkF m 44 #[.val (.int (0 : Int32)), .val (.int (1 : Int32)), .val (.int (1 : Int32)), .val .null, .val (.ref wKINDS), .val (.int (7 : Int32)), .val (.int (3 : Int32)), .val (.ref wPREDICATE_OBJECT)] [(.int (1 : Int32)), (.int (1 : Int32))])) _
    refine XS.icmpNo X11.here hx rfl (hb hby own_d1_44) rfl (by decide) ?_
    show Steps p.tables e below (T11.setTop (mkF m 47 #[.val (.int (0 : Int32)), .val (.int (1 : Int32)), .val (.int (1 : Int32)), .val .null, .val (.ref wKINDS), .val (.int (7 : Int32)), .val (.int (3 : Int32)), .val (.ref wPREDICATE_OBJECT)] [])) _
    refine XS.aload X11.here hx rfl (hb hby own_d1_47) rfl rfl ?_
    show Steps p.tables e below (T11.setTop (mkF m 49 #[.val (.int (0 : Int32)), .val (.int (1 : Int32)), .val (.int (1 : Int32)), .val .null, .val (.ref wKINDS), .val (.int (7 : Int32)), .val (.int (3 : Int32)), .val (.ref wPREDICATE_OBJECT)] [(.ref wPREDICATE_OBJECT)])) _
    refine st12 _ ?_
    show Steps p.tables e below (T12.setTop (mkF m 52 #[.val (.int (0 : Int32)), .val (.int (1 : Int32)), .val (.int (1 : Int32)), .val .null, .val (.ref wKINDS), .val (.int (7 : Int32)), .val (.int (3 : Int32)), .val (.ref wPREDICATE_OBJECT)] [(.int (1 : Int32))])) _
    refine XS.iloadN X12.here hx rfl (hb hby own_d1_52) rfl ?_
    show Steps p.tables e below (T12.setTop (mkF m 53 #[.val (.int (0 : Int32)), .val (.int (1 : Int32)), .val (.int (1 : Int32)), .val .null, .val (.ref wKINDS), .val (.int (7 : Int32)), .val (.int (3 : Int32)), .val (.ref wPREDICATE_OBJECT)] [(.int (1 : Int32)), (.int (1 : Int32))])) _
    refine XS.icmpNo X12.here hx rfl (hb hby own_d1_53) rfl (by decide) ?_
    show Steps p.tables e below (T12.setTop (mkF m 56 #[.val (.int (0 : Int32)), .val (.int (1 : Int32)), .val (.int (1 : Int32)), .val .null, .val (.ref wKINDS), .val (.int (7 : Int32)), .val (.int (3 : Int32)), .val (.ref wPREDICATE_OBJECT)] [])) _
    refine XS.aload X12.here hx rfl (hb hby own_d1_56) rfl rfl ?_
    show Steps p.tables e below (T12.setTop (mkF m 58 #[.val (.int (0 : Int32)), .val (.int (1 : Int32)), .val (.int (1 : Int32)), .val .null, .val (.ref wKINDS), .val (.int (7 : Int32)), .val (.int (3 : Int32)), .val (.ref wPREDICATE_OBJECT)] [(.ref wPREDICATE_OBJECT)])) _
    refine XS.astoreN X12.here hx rfl (hb hby own_d1_58) rfl rfl (l' := #[.val (.int (0 : Int32)), .val (.int (1 : Int32)), .val (.int (1 : Int32)), .val (.ref wPREDICATE_OBJECT), .val (.ref wKINDS), .val (.int (7 : Int32)), .val (.int (3 : Int32)), .val (.ref wPREDICATE_OBJECT)]) rfl ?_
    show Steps p.tables e below (T12.setTop (mkF m 59 #[.val (.int (0 : Int32)), .val (.int (1 : Int32)), .val (.int (1 : Int32)), .val (.ref wPREDICATE_OBJECT), .val (.ref wKINDS), .val (.int (7 : Int32)), .val (.int (3 : Int32)), .val (.ref wPREDICATE_OBJECT)] [])) _
    refine XS.iinc X12.here hx rfl (hb hby own_d1_59) rfl (l' := #[.val (.int (0 : Int32)), .val (.int (1 : Int32)), .val (.int (1 : Int32)), .val (.ref wPREDICATE_OBJECT), .val (.ref wKINDS), .val (.int (7 : Int32)), .val (.int (4 : Int32)), .val (.ref wPREDICATE_OBJECT)]) rfl ?_
    show Steps p.tables e below (T12.setTop (mkF m 62 #[.val (.int (0 : Int32)), .val (.int (1 : Int32)), .val (.int (1 : Int32)), .val (.ref wPREDICATE_OBJECT), .val (.ref wKINDS), .val (.int (7 : Int32)), .val (.int (4 : Int32)), .val (.ref wPREDICATE_OBJECT)] [])) _
    refine XS.goto X12.here hx rfl (pc0 := 62) (pc' := 15) rfl (hb hby own_d1_62) (by decide) (by decide) ?_
    show Steps p.tables e below (T12.setTop (mkF m 15 #[.val (.int (0 : Int32)), .val (.int (1 : Int32)), .val (.int (1 : Int32)), .val (.ref wPREDICATE_OBJECT), .val (.ref wKINDS), .val (.int (7 : Int32)), .val (.int (4 : Int32)), .val (.ref wPREDICATE_OBJECT)] [])) _
    refine XS.iload X12.here hx rfl (hb hby own_d1_15) rfl ?_
    show Steps p.tables e below (T12.setTop (mkF m 17 #[.val (.int (0 : Int32)), .val (.int (1 : Int32)), .val (.int (1 : Int32)), .val (.ref wPREDICATE_OBJECT), .val (.ref wKINDS), .val (.int (7 : Int32)), .val (.int (4 : Int32)), .val (.ref wPREDICATE_OBJECT)] [(.int (4 : Int32))])) _
    refine XS.iload X12.here hx rfl (hb hby own_d1_17) rfl ?_
    show Steps p.tables e below (T12.setTop (mkF m 19 #[.val (.int (0 : Int32)), .val (.int (1 : Int32)), .val (.int (1 : Int32)), .val (.ref wPREDICATE_OBJECT), .val (.ref wKINDS), .val (.int (7 : Int32)), .val (.int (4 : Int32)), .val (.ref wPREDICATE_OBJECT)] [(.int (7 : Int32)), (.int (4 : Int32))])) _
    refine XS.icmpNo X12.here hx rfl (hb hby own_d1_19) rfl (by decide) ?_
    show Steps p.tables e below (T12.setTop (mkF m 22 #[.val (.int (0 : Int32)), .val (.int (1 : Int32)), .val (.int (1 : Int32)), .val (.ref wPREDICATE_OBJECT), .val (.ref wKINDS), .val (.int (7 : Int32)), .val (.int (4 : Int32)), .val (.ref wPREDICATE_OBJECT)] [])) _
    refine XS.aload X12.here hx rfl (hb hby own_d1_22) rfl rfl ?_
    show Steps p.tables e below (T12.setTop (mkF m 24 #[.val (.int (0 : Int32)), .val (.int (1 : Int32)), .val (.int (1 : Int32)), .val (.ref wPREDICATE_OBJECT), .val (.ref wKINDS), .val (.int (7 : Int32)), .val (.int (4 : Int32)), .val (.ref wPREDICATE_OBJECT)] [(.ref wKINDS)])) _
    refine XS.iload X12.here hx rfl (hb hby own_d1_24) rfl ?_
    show Steps p.tables e below (T12.setTop (mkF m 26 #[.val (.int (0 : Int32)), .val (.int (1 : Int32)), .val (.int (1 : Int32)), .val (.ref wPREDICATE_OBJECT), .val (.ref wKINDS), .val (.int (7 : Int32)), .val (.int (4 : Int32)), .val (.ref wPREDICATE_OBJECT)] [(.int (4 : Int32)), (.ref wKINDS)])) _
    refine X12.aaload hx (j := (4 : Int32)) (v := (.ref wSUBJECT)) (by rw [e12]; exact Ar2.1) (State.isArrayOf_alike hZ.alike Ar2.2.1) rfl Ar2.2.2 hin13 hat13 (g := (mkF m 26 #[.val (.int (0 : Int32)), .val (.int (1 : Int32)), .val (.int (1 : Int32)), .val (.ref wPREDICATE_OBJECT), .val (.ref wKINDS), .val (.int (7 : Int32)), .val (.int (4 : Int32)), .val (.ref wPREDICATE_OBJECT)] [(.int (4 : Int32)), (.ref wKINDS)])) rfl rfl (hb hby own_d1_26) _ ?_
    show Steps p.tables e below (T12.setTop (mkF m 27 #[.val (.int (0 : Int32)), .val (.int (1 : Int32)), .val (.int (1 : Int32)), .val (.ref wPREDICATE_OBJECT), .val (.ref wKINDS), .val (.int (7 : Int32)), .val (.int (4 : Int32)), .val (.ref wPREDICATE_OBJECT)] [(.ref wSUBJECT)])) _
    refine XS.astore X12.here hx rfl (hb hby own_d1_27) rfl rfl (l' := #[.val (.int (0 : Int32)), .val (.int (1 : Int32)), .val (.int (1 : Int32)), .val (.ref wPREDICATE_OBJECT), .val (.ref wKINDS), .val (.int (7 : Int32)), .val (.int (4 : Int32)), .val (.ref wSUBJECT)]) rfl ?_
    show Steps p.tables e below (T12.setTop (mkF m 29 #[.val (.int (0 : Int32)), .val (.int (1 : Int32)), .val (.int (1 : Int32)), .val (.ref wPREDICATE_OBJECT), .val (.ref wKINDS), .val (.int (7 : Int32)), .val (.int (4 : Int32)), .val (.ref wSUBJECT)] [])) _
    refine XS.aload X12.here hx rfl (hb hby own_d1_29) rfl rfl ?_
    show Steps p.tables e below (T12.setTop (mkF m 31 #[.val (.int (0 : Int32)), .val (.int (1 : Int32)), .val (.int (1 : Int32)), .val (.ref wPREDICATE_OBJECT), .val (.ref wKINDS), .val (.int (7 : Int32)), .val (.int (4 : Int32)), .val (.ref wSUBJECT)] [(.ref wSUBJECT)])) _
    refine st14 _ ?_
    show Steps p.tables e below (T14.setTop (mkF m 34 #[.val (.int (0 : Int32)), .val (.int (1 : Int32)), .val (.int (1 : Int32)), .val (.ref wPREDICATE_OBJECT), .val (.ref wKINDS), .val (.int (7 : Int32)), .val (.int (4 : Int32)), .val (.ref wSUBJECT)] [(.int (1 : Int32))])) _
    refine XS.iloadN X14.here hx rfl (hb hby own_d1_34) rfl ?_
    show Steps p.tables e below (T14.setTop (mkF m 35 #[.val (.int (0 : Int32)), .val (.int (1 : Int32)), .val (.int (1 : Int32)), .val (.ref wPREDICATE_OBJECT), .val (.ref wKINDS), .val (.int (7 : Int32)), .val (.int (4 : Int32)), .val (.ref wSUBJECT)] [(.int (0 : Int32)), (.int (1 : Int32))])) _
    refine XS.icmpYes X14.here hx rfl (pc0 := 35) (pc' := 59) rfl (hb hby own_d1_35) rfl (by decide) (by decide) (by decide) ?_
    show Steps p.tables e below (T14.setTop (mkF m 59 #[.val (.int (0 : Int32)), .val (.int (1 : Int32)), .val (.int (1 : Int32)), .val (.ref wPREDICATE_OBJECT), .val (.ref wKINDS), .val (.int (7 : Int32)), .val (.int (4 : Int32)), .val (.ref wSUBJECT)] [])) _
    refine XS.iinc X14.here hx rfl (hb hby own_d1_59) rfl (l' := #[.val (.int (0 : Int32)), .val (.int (1 : Int32)), .val (.int (1 : Int32)), .val (.ref wPREDICATE_OBJECT), .val (.ref wKINDS), .val (.int (7 : Int32)), .val (.int (5 : Int32)), .val (.ref wSUBJECT)]) rfl ?_
    show Steps p.tables e below (T14.setTop (mkF m 62 #[.val (.int (0 : Int32)), .val (.int (1 : Int32)), .val (.int (1 : Int32)), .val (.ref wPREDICATE_OBJECT), .val (.ref wKINDS), .val (.int (7 : Int32)), .val (.int (5 : Int32)), .val (.ref wSUBJECT)] [])) _
    refine XS.goto X14.here hx rfl (pc0 := 62) (pc' := 15) rfl (hb hby own_d1_62) (by decide) (by decide) ?_
    show Steps p.tables e below (T14.setTop (mkF m 15 #[.val (.int (0 : Int32)), .val (.int (1 : Int32)), .val (.int (1 : Int32)), .val (.ref wPREDICATE_OBJECT), .val (.ref wKINDS), .val (.int (7 : Int32)), .val (.int (5 : Int32)), .val (.ref wSUBJECT)] [])) _
    refine XS.iload X14.here hx rfl (hb hby own_d1_15) rfl ?_
    show Steps p.tables e below (T14.setTop (mkF m 17 #[.val (.int (0 : Int32)), .val (.int (1 : Int32)), .val (.int (1 : Int32)), .val (.ref wPREDICATE_OBJECT), .val (.ref wKINDS), .val (.int (7 : Int32)), .val (.int (5 : Int32)), .val (.ref wSUBJECT)] [(.int (5 : Int32))])) _
    refine XS.iload X14.here hx rfl (hb hby own_d1_17) rfl ?_
    show Steps p.tables e below (T14.setTop (mkF m 19 #[.val (.int (0 : Int32)), .val (.int (1 : Int32)), .val (.int (1 : Int32)), .val (.ref wPREDICATE_OBJECT), .val (.ref wKINDS), .val (.int (7 : Int32)), .val (.int (5 : Int32)), .val (.ref wSUBJECT)] [(.int (7 : Int32)), (.int (5 : Int32))])) _
    refine XS.icmpNo X14.here hx rfl (hb hby own_d1_19) rfl (by decide) ?_
    show Steps p.tables e below (T14.setTop (mkF m 22 #[.val (.int (0 : Int32)), .val (.int (1 : Int32)), .val (.int (1 : Int32)), .val (.ref wPREDICATE_OBJECT), .val (.ref wKINDS), .val (.int (7 : Int32)), .val (.int (5 : Int32)), .val (.ref wSUBJECT)] [])) _
    refine XS.aload X14.here hx rfl (hb hby own_d1_22) rfl rfl ?_
    show Steps p.tables e below (T14.setTop (mkF m 24 #[.val (.int (0 : Int32)), .val (.int (1 : Int32)), .val (.int (1 : Int32)), .val (.ref wPREDICATE_OBJECT), .val (.ref wKINDS), .val (.int (7 : Int32)), .val (.int (5 : Int32)), .val (.ref wSUBJECT)] [(.ref wKINDS)])) _
    refine XS.iload X14.here hx rfl (hb hby own_d1_24) rfl ?_
    show Steps p.tables e below (T14.setTop (mkF m 26 #[.val (.int (0 : Int32)), .val (.int (1 : Int32)), .val (.int (1 : Int32)), .val (.ref wPREDICATE_OBJECT), .val (.ref wKINDS), .val (.int (7 : Int32)), .val (.int (5 : Int32)), .val (.ref wSUBJECT)] [(.int (5 : Int32)), (.ref wKINDS)])) _
    refine X14.aaload hx (j := (5 : Int32)) (v := (.ref wPREDICATE)) (by rw [e14]; exact Ar2.1) (State.isArrayOf_alike hZ.alike Ar2.2.1) rfl Ar2.2.2 hin15 hat15 (g := (mkF m 26 #[.val (.int (0 : Int32)), .val (.int (1 : Int32)), .val (.int (1 : Int32)), .val (.ref wPREDICATE_OBJECT), .val (.ref wKINDS), .val (.int (7 : Int32)), .val (.int (5 : Int32)), .val (.ref wSUBJECT)] [(.int (5 : Int32)), (.ref wKINDS)])) rfl rfl (hb hby own_d1_26) _ ?_
    show Steps p.tables e below (T14.setTop (mkF m 27 #[.val (.int (0 : Int32)), .val (.int (1 : Int32)), .val (.int (1 : Int32)), .val (.ref wPREDICATE_OBJECT), .val (.ref wKINDS), .val (.int (7 : Int32)), .val (.int (5 : Int32)), .val (.ref wSUBJECT)] [(.ref wPREDICATE)])) _
    refine XS.astore X14.here hx rfl (hb hby own_d1_27) rfl rfl (l' := #[.val (.int (0 : Int32)), .val (.int (1 : Int32)), .val (.int (1 : Int32)), .val (.ref wPREDICATE_OBJECT), .val (.ref wKINDS), .val (.int (7 : Int32)), .val (.int (5 : Int32)), .val (.ref wPREDICATE)]) rfl ?_
    show Steps p.tables e below (T14.setTop (mkF m 29 #[.val (.int (0 : Int32)), .val (.int (1 : Int32)), .val (.int (1 : Int32)), .val (.ref wPREDICATE_OBJECT), .val (.ref wKINDS), .val (.int (7 : Int32)), .val (.int (5 : Int32)), .val (.ref wPREDICATE)] [])) _
    refine XS.aload X14.here hx rfl (hb hby own_d1_29) rfl rfl ?_
    show Steps p.tables e below (T14.setTop (mkF m 31 #[.val (.int (0 : Int32)), .val (.int (1 : Int32)), .val (.int (1 : Int32)), .val (.ref wPREDICATE_OBJECT), .val (.ref wKINDS), .val (.int (7 : Int32)), .val (.int (5 : Int32)), .val (.ref wPREDICATE)] [(.ref wPREDICATE)])) _
    refine st16 _ ?_
    show Steps p.tables e below (T16.setTop (mkF m 34 #[.val (.int (0 : Int32)), .val (.int (1 : Int32)), .val (.int (1 : Int32)), .val (.ref wPREDICATE_OBJECT), .val (.ref wKINDS), .val (.int (7 : Int32)), .val (.int (5 : Int32)), .val (.ref wPREDICATE)] [(.int (0 : Int32))])) _
    refine XS.iloadN X16.here hx rfl (hb hby own_d1_34) rfl ?_
    show Steps p.tables e below (T16.setTop (mkF m 35 #[.val (.int (0 : Int32)), .val (.int (1 : Int32)), .val (.int (1 : Int32)), .val (.ref wPREDICATE_OBJECT), .val (.ref wKINDS), .val (.int (7 : Int32)), .val (.int (5 : Int32)), .val (.ref wPREDICATE)] [(.int (0 : Int32)), (.int (0 : Int32))])) _
    refine XS.icmpNo X16.here hx rfl (hb hby own_d1_35) rfl (by decide) ?_
    show Steps p.tables e below (T16.setTop (mkF m 38 #[.val (.int (0 : Int32)), .val (.int (1 : Int32)), .val (.int (1 : Int32)), .val (.ref wPREDICATE_OBJECT), .val (.ref wKINDS), .val (.int (7 : Int32)), .val (.int (5 : Int32)), .val (.ref wPREDICATE)] [])) _
    refine XS.aload X16.here hx rfl (hb hby own_d1_38) rfl rfl ?_
    show Steps p.tables e below (T16.setTop (mkF m 40 #[.val (.int (0 : Int32)), .val (.int (1 : Int32)), .val (.int (1 : Int32)), .val (.ref wPREDICATE_OBJECT), .val (.ref wKINDS), .val (.int (7 : Int32)), .val (.int (5 : Int32)), .val (.ref wPREDICATE)] [(.ref wPREDICATE)])) _
    refine st17 _ ?_
    show Steps p.tables e below (T17.setTop (mkF m 43 #[.val (.int (0 : Int32)), .val (.int (1 : Int32)), .val (.int (1 : Int32)), .val (.ref wPREDICATE_OBJECT), .val (.ref wKINDS), .val (.int (7 : Int32)), .val (.int (5 : Int32)), .val (.ref wPREDICATE)] [(.int (1 : Int32))])) _
    refine XS.iloadN X17.here hx rfl (hb hby own_d1_43) rfl ?_
    show Steps p.tables e below (T17.setTop (mkF m 44 #[.val (.int (0 : Int32)), .val (.int (1 : Int32)), .val (.int (1 : Int32)), .val (.ref wPREDICATE_OBJECT), .val (.ref wKINDS), .val (.int (7 : Int32)), .val (.int (5 : Int32)), .val (.ref wPREDICATE)] [(.int (1 : Int32)), (.int (1 : Int32))])) _
    refine XS.icmpNo X17.here hx rfl (hb hby own_d1_44) rfl (by decide) ?_
    show Steps p.tables e below (T17.setTop (mkF m 47 #[.val (.int (0 : Int32)), .val (.int (1 : Int32)), .val (.int (1 : Int32)), .val (.ref wPREDICATE_OBJECT), .val (.ref wKINDS), .val (.int (7 : Int32)), .val (.int (5 : Int32)), .val (.ref wPREDICATE)] [])) _
    refine XS.aload X17.here hx rfl (hb hby own_d1_47) rfl rfl ?_
    show Steps p.tables e below (T17.setTop (mkF m 49 #[.val (.int (0 : Int32)), .val (.int (1 : Int32)), .val (.int (1 : Int32)), .val (.ref wPREDICATE_OBJECT), .val (.ref wKINDS), .val (.int (7 : Int32)), .val (.int (5 : Int32)), .val (.ref wPREDICATE)] [(.ref wPREDICATE)])) _
    refine st18 _ ?_
    show Steps p.tables e below (T18.setTop (mkF m 52 #[.val (.int (0 : Int32)), .val (.int (1 : Int32)), .val (.int (1 : Int32)), .val (.ref wPREDICATE_OBJECT), .val (.ref wKINDS), .val (.int (7 : Int32)), .val (.int (5 : Int32)), .val (.ref wPREDICATE)] [(.int (0 : Int32))])) _
    refine XS.iloadN X18.here hx rfl (hb hby own_d1_52) rfl ?_
    show Steps p.tables e below (T18.setTop (mkF m 53 #[.val (.int (0 : Int32)), .val (.int (1 : Int32)), .val (.int (1 : Int32)), .val (.ref wPREDICATE_OBJECT), .val (.ref wKINDS), .val (.int (7 : Int32)), .val (.int (5 : Int32)), .val (.ref wPREDICATE)] [(.int (1 : Int32)), (.int (0 : Int32))])) _
    refine XS.icmpYes X18.here hx rfl (pc0 := 53) (pc' := 59) rfl (hb hby own_d1_53) rfl (by decide) (by decide) (by decide) ?_
    show Steps p.tables e below (T18.setTop (mkF m 59 #[.val (.int (0 : Int32)), .val (.int (1 : Int32)), .val (.int (1 : Int32)), .val (.ref wPREDICATE_OBJECT), .val (.ref wKINDS), .val (.int (7 : Int32)), .val (.int (5 : Int32)), .val (.ref wPREDICATE)] [])) _
    refine XS.iinc X18.here hx rfl (hb hby own_d1_59) rfl (l' := #[.val (.int (0 : Int32)), .val (.int (1 : Int32)), .val (.int (1 : Int32)), .val (.ref wPREDICATE_OBJECT), .val (.ref wKINDS), .val (.int (7 : Int32)), .val (.int (6 : Int32)), .val (.ref wPREDICATE)]) rfl ?_
    show Steps p.tables e below (T18.setTop (mkF m 62 #[.val (.int (0 : Int32)), .val (.int (1 : Int32)), .val (.int (1 : Int32)), .val (.ref wPREDICATE_OBJECT), .val (.ref wKINDS), .val (.int (7 : Int32)), .val (.int (6 : Int32)), .val (.ref wPREDICATE)] [])) _
    refine XS.goto X18.here hx rfl (pc0 := 62) (pc' := 15) rfl (hb hby own_d1_62) (by decide) (by decide) ?_
    show Steps p.tables e below (T18.setTop (mkF m 15 #[.val (.int (0 : Int32)), .val (.int (1 : Int32)), .val (.int (1 : Int32)), .val (.ref wPREDICATE_OBJECT), .val (.ref wKINDS), .val (.int (7 : Int32)), .val (.int (6 : Int32)), .val (.ref wPREDICATE)] [])) _
    refine XS.iload X18.here hx rfl (hb hby own_d1_15) rfl ?_
    show Steps p.tables e below (T18.setTop (mkF m 17 #[.val (.int (0 : Int32)), .val (.int (1 : Int32)), .val (.int (1 : Int32)), .val (.ref wPREDICATE_OBJECT), .val (.ref wKINDS), .val (.int (7 : Int32)), .val (.int (6 : Int32)), .val (.ref wPREDICATE)] [(.int (6 : Int32))])) _
    refine XS.iload X18.here hx rfl (hb hby own_d1_17) rfl ?_
    show Steps p.tables e below (T18.setTop (mkF m 19 #[.val (.int (0 : Int32)), .val (.int (1 : Int32)), .val (.int (1 : Int32)), .val (.ref wPREDICATE_OBJECT), .val (.ref wKINDS), .val (.int (7 : Int32)), .val (.int (6 : Int32)), .val (.ref wPREDICATE)] [(.int (7 : Int32)), (.int (6 : Int32))])) _
    refine XS.icmpNo X18.here hx rfl (hb hby own_d1_19) rfl (by decide) ?_
    show Steps p.tables e below (T18.setTop (mkF m 22 #[.val (.int (0 : Int32)), .val (.int (1 : Int32)), .val (.int (1 : Int32)), .val (.ref wPREDICATE_OBJECT), .val (.ref wKINDS), .val (.int (7 : Int32)), .val (.int (6 : Int32)), .val (.ref wPREDICATE)] [])) _
    refine XS.aload X18.here hx rfl (hb hby own_d1_22) rfl rfl ?_
    show Steps p.tables e below (T18.setTop (mkF m 24 #[.val (.int (0 : Int32)), .val (.int (1 : Int32)), .val (.int (1 : Int32)), .val (.ref wPREDICATE_OBJECT), .val (.ref wKINDS), .val (.int (7 : Int32)), .val (.int (6 : Int32)), .val (.ref wPREDICATE)] [(.ref wKINDS)])) _
    refine XS.iload X18.here hx rfl (hb hby own_d1_24) rfl ?_
    show Steps p.tables e below (T18.setTop (mkF m 26 #[.val (.int (0 : Int32)), .val (.int (1 : Int32)), .val (.int (1 : Int32)), .val (.ref wPREDICATE_OBJECT), .val (.ref wKINDS), .val (.int (7 : Int32)), .val (.int (6 : Int32)), .val (.ref wPREDICATE)] [(.int (6 : Int32)), (.ref wKINDS)])) _
    refine X18.aaload hx (j := (6 : Int32)) (v := (.ref wOBJECT)) (by rw [e18]; exact Ar2.1) (State.isArrayOf_alike hZ.alike Ar2.2.1) rfl Ar2.2.2 hin19 hat19 (g := (mkF m 26 #[.val (.int (0 : Int32)), .val (.int (1 : Int32)), .val (.int (1 : Int32)), .val (.ref wPREDICATE_OBJECT), .val (.ref wKINDS), .val (.int (7 : Int32)), .val (.int (6 : Int32)), .val (.ref wPREDICATE)] [(.int (6 : Int32)), (.ref wKINDS)])) rfl rfl (hb hby own_d1_26) _ ?_
    show Steps p.tables e below (T18.setTop (mkF m 27 #[.val (.int (0 : Int32)), .val (.int (1 : Int32)), .val (.int (1 : Int32)), .val (.ref wPREDICATE_OBJECT), .val (.ref wKINDS), .val (.int (7 : Int32)), .val (.int (6 : Int32)), .val (.ref wPREDICATE)] [(.ref wOBJECT)])) _
    refine XS.astore X18.here hx rfl (hb hby own_d1_27) rfl rfl (l' := #[.val (.int (0 : Int32)), .val (.int (1 : Int32)), .val (.int (1 : Int32)), .val (.ref wPREDICATE_OBJECT), .val (.ref wKINDS), .val (.int (7 : Int32)), .val (.int (6 : Int32)), .val (.ref wOBJECT)]) rfl ?_
    show Steps p.tables e below (T18.setTop (mkF m 29 #[.val (.int (0 : Int32)), .val (.int (1 : Int32)), .val (.int (1 : Int32)), .val (.ref wPREDICATE_OBJECT), .val (.ref wKINDS), .val (.int (7 : Int32)), .val (.int (6 : Int32)), .val (.ref wOBJECT)] [])) _
    refine XS.aload X18.here hx rfl (hb hby own_d1_29) rfl rfl ?_
    show Steps p.tables e below (T18.setTop (mkF m 31 #[.val (.int (0 : Int32)), .val (.int (1 : Int32)), .val (.int (1 : Int32)), .val (.ref wPREDICATE_OBJECT), .val (.ref wKINDS), .val (.int (7 : Int32)), .val (.int (6 : Int32)), .val (.ref wOBJECT)] [(.ref wOBJECT)])) _
    refine st20 _ ?_
    show Steps p.tables e below (T20.setTop (mkF m 34 #[.val (.int (0 : Int32)), .val (.int (1 : Int32)), .val (.int (1 : Int32)), .val (.ref wPREDICATE_OBJECT), .val (.ref wKINDS), .val (.int (7 : Int32)), .val (.int (6 : Int32)), .val (.ref wOBJECT)] [(.int (0 : Int32))])) _
    refine XS.iloadN X20.here hx rfl (hb hby own_d1_34) rfl ?_
    show Steps p.tables e below (T20.setTop (mkF m 35 #[.val (.int (0 : Int32)), .val (.int (1 : Int32)), .val (.int (1 : Int32)), .val (.ref wPREDICATE_OBJECT), .val (.ref wKINDS), .val (.int (7 : Int32)), .val (.int (6 : Int32)), .val (.ref wOBJECT)] [(.int (0 : Int32)), (.int (0 : Int32))])) _
    refine XS.icmpNo X20.here hx rfl (hb hby own_d1_35) rfl (by decide) ?_
    show Steps p.tables e below (T20.setTop (mkF m 38 #[.val (.int (0 : Int32)), .val (.int (1 : Int32)), .val (.int (1 : Int32)), .val (.ref wPREDICATE_OBJECT), .val (.ref wKINDS), .val (.int (7 : Int32)), .val (.int (6 : Int32)), .val (.ref wOBJECT)] [])) _
    refine XS.aload X20.here hx rfl (hb hby own_d1_38) rfl rfl ?_
    show Steps p.tables e below (T20.setTop (mkF m 40 #[.val (.int (0 : Int32)), .val (.int (1 : Int32)), .val (.int (1 : Int32)), .val (.ref wPREDICATE_OBJECT), .val (.ref wKINDS), .val (.int (7 : Int32)), .val (.int (6 : Int32)), .val (.ref wOBJECT)] [(.ref wOBJECT)])) _
    refine st21 _ ?_
    show Steps p.tables e below (T21.setTop (mkF m 43 #[.val (.int (0 : Int32)), .val (.int (1 : Int32)), .val (.int (1 : Int32)), .val (.ref wPREDICATE_OBJECT), .val (.ref wKINDS), .val (.int (7 : Int32)), .val (.int (6 : Int32)), .val (.ref wOBJECT)] [(.int (0 : Int32))])) _
    refine XS.iloadN X21.here hx rfl (hb hby own_d1_43) rfl ?_
    show Steps p.tables e below (T21.setTop (mkF m 44 #[.val (.int (0 : Int32)), .val (.int (1 : Int32)), .val (.int (1 : Int32)), .val (.ref wPREDICATE_OBJECT), .val (.ref wKINDS), .val (.int (7 : Int32)), .val (.int (6 : Int32)), .val (.ref wOBJECT)] [(.int (1 : Int32)), (.int (0 : Int32))])) _
    refine XS.icmpYes X21.here hx rfl (pc0 := 44) (pc' := 59) rfl (hb hby own_d1_44) rfl (by decide) (by decide) (by decide) ?_
    show Steps p.tables e below (T21.setTop (mkF m 59 #[.val (.int (0 : Int32)), .val (.int (1 : Int32)), .val (.int (1 : Int32)), .val (.ref wPREDICATE_OBJECT), .val (.ref wKINDS), .val (.int (7 : Int32)), .val (.int (6 : Int32)), .val (.ref wOBJECT)] [])) _
    refine XS.iinc X21.here hx rfl (hb hby own_d1_59) rfl (l' := #[.val (.int (0 : Int32)), .val (.int (1 : Int32)), .val (.int (1 : Int32)), .val (.ref wPREDICATE_OBJECT), .val (.ref wKINDS), .val (.int (7 : Int32)), .val (.int (7 : Int32)), .val (.ref wOBJECT)]) rfl ?_
    show Steps p.tables e below (T21.setTop (mkF m 62 #[.val (.int (0 : Int32)), .val (.int (1 : Int32)), .val (.int (1 : Int32)), .val (.ref wPREDICATE_OBJECT), .val (.ref wKINDS), .val (.int (7 : Int32)), .val (.int (7 : Int32)), .val (.ref wOBJECT)] [])) _
    refine XS.goto X21.here hx rfl (pc0 := 62) (pc' := 15) rfl (hb hby own_d1_62) (by decide) (by decide) ?_
    show Steps p.tables e below (T21.setTop (mkF m 15 #[.val (.int (0 : Int32)), .val (.int (1 : Int32)), .val (.int (1 : Int32)), .val (.ref wPREDICATE_OBJECT), .val (.ref wKINDS), .val (.int (7 : Int32)), .val (.int (7 : Int32)), .val (.ref wOBJECT)] [])) _
    refine XS.iload X21.here hx rfl (hb hby own_d1_15) rfl ?_
    show Steps p.tables e below (T21.setTop (mkF m 17 #[.val (.int (0 : Int32)), .val (.int (1 : Int32)), .val (.int (1 : Int32)), .val (.ref wPREDICATE_OBJECT), .val (.ref wKINDS), .val (.int (7 : Int32)), .val (.int (7 : Int32)), .val (.ref wOBJECT)] [(.int (7 : Int32))])) _
    refine XS.iload X21.here hx rfl (hb hby own_d1_17) rfl ?_
    show Steps p.tables e below (T21.setTop (mkF m 19 #[.val (.int (0 : Int32)), .val (.int (1 : Int32)), .val (.int (1 : Int32)), .val (.ref wPREDICATE_OBJECT), .val (.ref wKINDS), .val (.int (7 : Int32)), .val (.int (7 : Int32)), .val (.ref wOBJECT)] [(.int (7 : Int32)), (.int (7 : Int32))])) _
    refine XS.icmpYes X21.here hx rfl (pc0 := 19) (pc' := 65) rfl (hb hby own_d1_19) rfl (by decide) (by decide) (by decide) ?_
    show Steps p.tables e below (T21.setTop (mkF m 65 #[.val (.int (0 : Int32)), .val (.int (1 : Int32)), .val (.int (1 : Int32)), .val (.ref wPREDICATE_OBJECT), .val (.ref wKINDS), .val (.int (7 : Int32)), .val (.int (7 : Int32)), .val (.ref wOBJECT)] [])) _
    refine XS.aloadN X21.here hx rfl (hb hby own_d1_65) rfl rfl ?_
    show Steps p.tables e below (T21.setTop (mkF m 66 #[.val (.int (0 : Int32)), .val (.int (1 : Int32)), .val (.int (1 : Int32)), .val (.ref wPREDICATE_OBJECT), .val (.ref wKINDS), .val (.int (7 : Int32)), .val (.int (7 : Int32)), .val (.ref wOBJECT)] [(.ref wPREDICATE_OBJECT)])) _
    jvm_step X21.here [X21.here.top, hx, (hb hby own_d1_66), X21.method', Bd.returns, Value.isRef, FieldType.isReference]
    first | (intro acts; rw [hr _ acts rfl rfl rfl]) | rw [hr _ _ rfl rfl rfl]
    exact Steps.refl _
  · show OwnQ _ h0 n0 _ T21.heap _
    exact ⟨rfl, N0, e21⟩
theorem own_d2_40 : decode method_2_code 40 = .ok (.getstatic 22, 3) := by decide +kernel
theorem own_d2_43 : decode method_2_code 43 = .ok (.areturn, 1) := by decide +kernel
set_option maxRecDepth 65536 in
set_option maxHeartbeats 40000000 in
theorem own_expected_13 (l : Launch) (Z : State) (a0 : Array Value) (hw : ∀ d ∈ tables_1, d.before a0 Z = true) (ws : List Jvm.Cond) (wKINDS : Addr) (wSUBJECT_PREDICATE_OBJECT : Addr) (wSUBJECT_PREDICATE : Addr) (wSUBJECT_OBJECT : Addr) (wPREDICATE_OBJECT : Addr) (wSUBJECT : Addr) (wPREDICATE : Addr) (wOBJECT : Addr) (kKINDS : ClassId) (G : OwnG Z wKINDS wSUBJECT_PREDICATE_OBJECT wSUBJECT_PREDICATE wSUBJECT_OBJECT wPREDICATE_OBJECT wSUBJECT wPREDICATE wOBJECT kKINDS) (h0 : Heap) (n0 : Nat) (O0 : Old Z n0 h0) :
    MetFree l (⟨"com/example/quadrille/quadrille/graphfilter/PatternKindKeepingPinLaw", "expected", "(ZZZ)Lcom/example/quadrille/quadrille/graphfilter/PatternKind;"⟩ : MethodName) (head1 (Jvm.Cond.code (⟨"com/example/quadrille/quadrille/graphfilter/PatternKindKeepingPinLaw", "expected", "(ZZZ)Lcom/example/quadrille/quadrille/graphfilter/PatternKind;"⟩ : MethodName) method_2_code 3 (some (.object "com/example/quadrille/quadrille/graphfilter/PatternKind")) :: ws) ({ frames := 0, cells := 0, slots := 0, locals := 0 } : Room)) (fun a U => a = #[(.int (0 : Int32)), (.int (1 : Int32)), (.int (1 : Int32))] ∧ Z.Warmed39 U.vm ∧ U.heap = h0) (fun _ _ _ _ _ => True) (fun _ U o U' => ∃ v L, o = .returned v ∧ OwnQ (some (.ref wPREDICATE_OBJECT)) h0 n0 v U'.heap L ∧ FrameEnd U o U' L ({ frames := 0, cells := 0, slots := 0, locals := 0 } : Room).cells ({ frames := 0, cells := 0, slots := 0, locals := 0 } : Room).slots) := by
  refine MetFree.of_bodySF (plainFor_of_name own_pn_0) hisR ?_
  intro p e s m args below meth c s₁ Bd hml0 hP hK
  obtain ⟨rfl, hZ, hh⟩ := hP
  have hx := Bd.exec
  have hby := Bd.bytes
  have hml : c.maxLocals = 3 := hml0
  have hown : s.vm.findClass "com/example/quadrille/quadrille/graphfilter/PatternKindKeepingPinLaw" = some m.cls := findClass_of_methodNamed Bd.named
  have hnm := (name_of_methodNamed Bd.named Bd.method).1
  have X0 : Stand p l e ({ frames := 0, cells := 0, slots := 0, locals := 0 } : Room) s m #[(.int (0 : Int32)), (.int (1 : Int32)), (.int (1 : Int32))] below meth c s₁ [] 0 0 := Stand.of_body Bd
  have e0 : s₁.heap = h0 := by rw [← hh, Bd.state]; rfl
  have N0 := Fr.nil n0
  have pre0 : ∀ t, Steps p.tables e below (s₁.setTop (mkF m 0 #[.val (.int (0 : Int32)), .val (.int (1 : Int32)), .val (.int (1 : Int32))] [])) t → Steps p.tables e below (s₁.setTop (entryFrame m #[(.int (0 : Int32)), (.int (1 : Int32)), (.int (1 : Int32))] 3)) t := fun t k => castTop (own_ef_2_III m (0 : Int32) (1 : Int32) (1 : Int32)) k
  obtain ⟨T1, X1, e1, st1⟩ := getS2 X0 hx hZ hown (host := "") (Or.inl (hw _ (List.mem_of_getElem? (i := 24) rfl))) Via.refl e0 (G.2.2.2.2.2.2.2.1.ext O0.2) (g := (mkF m 40 #[.val (.int (0 : Int32)), .val (.int (1 : Int32)), .val (.int (1 : Int32))] [])) rfl (hb hby own_d2_40)
  obtain ⟨fs, hr, hrun, hended, hW, hsame⟩ := X1.leave (v := some (.ref wPREDICATE_OBJECT)) (fun h => by rw [Bd.returns] at h; cases h)
  refine ⟨_, _, pre0 _ ?_, hrun, hended, _, _, rfl, ?_, ⟨_, rfl⟩, hW, hsame.mono (by decide) (by decide)⟩
  · show Steps p.tables e below (s₁.setTop (mkF m 0 #[.val (.int (0 : Int32)), .val (.int (1 : Int32)), .val (.int (1 : Int32))] [])) _
    refine XS.iloadN X0.here hx rfl (hb hby own_d2_0) rfl ?_
    show Steps p.tables e below (s₁.setTop (mkF m 1 #[.val (.int (0 : Int32)), .val (.int (1 : Int32)), .val (.int (1 : Int32))] [(.int (0 : Int32))])) _
    refine XS.ifYes X0.here hx rfl (pc0 := 1) (pc' := 32) rfl (hb hby own_d2_1) rfl (by decide) (by decide) (by decide) ?_
    show Steps p.tables e below (s₁.setTop (mkF m 32 #[.val (.int (0 : Int32)), .val (.int (1 : Int32)), .val (.int (1 : Int32))] [])) _
    refine XS.iloadN X0.here hx rfl (hb hby own_d2_32) rfl ?_
    show Steps p.tables e below (s₁.setTop (mkF m 33 #[.val (.int (0 : Int32)), .val (.int (1 : Int32)), .val (.int (1 : Int32))] [(.int (1 : Int32))])) _
    refine XS.ifNo X0.here hx rfl (hb hby own_d2_33) rfl (by decide) ?_
    show Steps p.tables e below (s₁.setTop (mkF m 36 #[.val (.int (0 : Int32)), .val (.int (1 : Int32)), .val (.int (1 : Int32))] [])) _
    refine XS.iloadN X0.here hx rfl (hb hby own_d2_36) rfl ?_
    show Steps p.tables e below (s₁.setTop (mkF m 37 #[.val (.int (0 : Int32)), .val (.int (1 : Int32)), .val (.int (1 : Int32))] [(.int (1 : Int32))])) _
    refine XS.ifNo X0.here hx rfl (hb hby own_d2_37) rfl (by decide) ?_
    show Steps p.tables e below (s₁.setTop (mkF m 40 #[.val (.int (0 : Int32)), .val (.int (1 : Int32)), .val (.int (1 : Int32))] [])) _
    refine st1 _ ?_
    show Steps p.tables e below (T1.setTop (mkF m 43 #[.val (.int (0 : Int32)), .val (.int (1 : Int32)), .val (.int (1 : Int32))] [(.ref wPREDICATE_OBJECT)])) _
    jvm_step X1.here [X1.here.top, hx, (hb hby own_d2_43), X1.method', Bd.returns, Value.isRef, FieldType.isReference]
    first | (intro acts; rw [hr _ acts rfl rfl rfl]) | rw [hr _ _ rfl rfl rfl]
    exact Steps.refl _
  · show OwnQ _ h0 n0 _ T1.heap _
    exact ⟨rfl, N0, e1⟩
set_option maxRecDepth 65536 in
set_option maxHeartbeats 40000000 in
theorem own_law_6 (l : Launch) (Z : State) (a0 : Array Value) (hw : ∀ d ∈ tables_1, d.before a0 Z = true) (ws : List Jvm.Cond) (wKINDS : Addr) (wSUBJECT_PREDICATE_OBJECT : Addr) (wSUBJECT_PREDICATE : Addr) (wSUBJECT_OBJECT : Addr) (wPREDICATE_OBJECT : Addr) (wSUBJECT : Addr) (wPREDICATE : Addr) (wOBJECT : Addr) (kKINDS : ClassId) (G : OwnG Z wKINDS wSUBJECT_PREDICATE_OBJECT wSUBJECT_PREDICATE wSUBJECT_OBJECT wPREDICATE_OBJECT wSUBJECT wPREDICATE wOBJECT kKINDS) (h0 : Heap) (n0 : Nat) (O0 : Old Z n0 h0) (p1 : Int32) (h1 : (p1 &&& (1 : Int32)) = (0 : Int32)) (h2 : ¬ ((p1 &&& (2 : Int32)) = (0 : Int32))) (h4 : ¬ ((p1 &&& (4 : Int32)) = (0 : Int32))) :
    MetFree l x (head1 (Jvm.Cond.code x code maxLocals ret :: ws) room_1) (fun a U => a = #[(.int p1)] ∧ Z.Warmed39 U.vm ∧ U.heap = h0) (fun _ _ _ _ _ => True) (fun _ U o U' => ∃ v L, o = .returned v ∧ (v = some (.int 1) ∧ Fr n0 L) ∧ FrameEnd U o U' L room_1.cells room_1.slots) := by
  refine MetFree.of_bodySF (plainFor_of_name own_pn_0) hisR ?_
  intro p e s m args below meth c s₁ Bd hml0 hP hK
  obtain ⟨rfl, hZ, hh⟩ := hP
  have hx := Bd.exec
  have hby := Bd.bytes
  have hml : c.maxLocals = 5 := hml0
  have hown : s.vm.findClass "com/example/quadrille/quadrille/graphfilter/PatternKindKeepingPinLaw" = some m.cls := findClass_of_methodNamed Bd.named
  have hnm := (name_of_methodNamed Bd.named Bd.method).1
  have X0 : Stand p l e room_1 s m #[(.int p1)] below meth c s₁ [] 0 0 := Stand.of_body Bd
  have e0 : s₁.heap = h0 := by rw [← hh, Bd.state]; rfl
  have N0 := Fr.nil n0
  have pre0 : ∀ t, Steps p.tables e below (s₁.setTop (mkF m 0 #[.val (.int p1), .unset, .unset, .unset, .unset] [])) t → Steps p.tables e below (s₁.setTop (entryFrame m #[(.int p1)] maxLocals)) t := fun t k => castTop (own_ef_0_I m p1) k
  obtain ⟨_, _, ⟨T1, L1, k1, n1⟩, -, X1, ⟨Lc1, hQ1, l1, y1, z1⟩, st1⟩ := Jvm.LawKit.callS X0 hx (y := (⟨"com/example/quadrille/quadrille/graphfilter/PatternKind", "keeping", "(ZZZ)Lcom/example/quadrille/quadrille/graphfilter/PatternKind;"⟩ : MethodName)) hown (mvT hZ (hw _ (List.mem_of_getElem? (i := 0) rfl))) (mvT hZ (hw _ (List.mem_of_getElem? (i := 1) rfl))) (mvT hZ (hw _ (List.mem_of_getElem? (i := 2) rfl))) (mvT hZ (hw _ (List.mem_of_getElem? (i := 3) rfl))) (by decide) (backOf (W := 0) (own_keeping_12 l Z a0 hw [] wKINDS wSUBJECT_PREDICATE_OBJECT wSUBJECT_PREDICATE wSUBJECT_OBJECT wPREDICATE_OBJECT wSUBJECT wPREDICATE wOBJECT kKINDS G h0 n0 O0) hZ (hw _ (List.mem_of_getElem? (i := 3) rfl)) (hw _ (List.mem_of_getElem? (i := 2) rfl)) (by decide) (by decide)) (g := (mkF m 39 #[.val (.int p1), .val (.int (0 : Int32)), .val (.int (1 : Int32)), .val (.int (1 : Int32)), .unset] [(.int (1 : Int32)), (.int (1 : Int32)), (.int (0 : Int32))])) rfl (by rw [hml]; rfl) (argsL := [(.int (0 : Int32)), (.int (1 : Int32)), (.int (1 : Int32))]) (rest := []) (lenOf own_pd_0 rfl) rfl (by show 2 * 0 + _ ≤ _; exact Nat.le_of_eq rfl) (hb hby at_39) (fun _ _ => ⟨rfl, e0, (by decide : 0 + 0 ≤ _), (by decide : 0 + 0 ≤ _)⟩)
  dsimp only [Pt.U, Pt.locs, Pt.cells, Pt.slots] at X1 l1 y1 z1 st1 hQ1
  subst l1 y1 z1
  obtain ⟨rfl, N1q, e1⟩ := hQ1
  have N1 := Fr.app N0 N1q
  obtain ⟨_, _, ⟨T2, L2, k2, n2⟩, -, X2, ⟨Lc2, hQ2, l2, y2, z2⟩, st2⟩ := Jvm.LawKit.callS X1 hx (y := (⟨"com/example/quadrille/quadrille/graphfilter/PatternKindKeepingPinLaw", "expected", "(ZZZ)Lcom/example/quadrille/quadrille/graphfilter/PatternKind;"⟩ : MethodName)) hown (mvT hZ (hw _ (List.mem_of_getElem? (i := 19) rfl))) (mvT hZ (hw _ (List.mem_of_getElem? (i := 20) rfl))) (mvT hZ (hw _ (List.mem_of_getElem? (i := 21) rfl))) (mvT hZ (hw _ (List.mem_of_getElem? (i := 22) rfl))) (by decide) (backOf (W := 1) (own_expected_13 l Z a0 hw [] wKINDS wSUBJECT_PREDICATE_OBJECT wSUBJECT_PREDICATE wSUBJECT_OBJECT wPREDICATE_OBJECT wSUBJECT wPREDICATE wOBJECT kKINDS G h0 n0 O0) hZ (hw _ (List.mem_of_getElem? (i := 22) rfl)) (hw _ (List.mem_of_getElem? (i := 21) rfl)) (by decide) (by decide)) (g := (mkF m 49 #[.val (.int p1), .val (.int (0 : Int32)), .val (.int (1 : Int32)), .val (.int (1 : Int32)), .val (.ref wPREDICATE_OBJECT)] [(.int (1 : Int32)), (.int (1 : Int32)), (.int (0 : Int32)), (.ref wPREDICATE_OBJECT)])) rfl (by rw [hml]; rfl) (argsL := [(.int (0 : Int32)), (.int (1 : Int32)), (.int (1 : Int32))]) (rest := [(.ref wPREDICATE_OBJECT)]) (lenOf own_pd_0 rfl) rfl (by show 2 * 0 + _ ≤ _; exact Nat.le_of_eq rfl) (hb hby at_49) (fun _ _ => ⟨rfl, e1, (by decide : 0 + 0 ≤ _), (by decide : 0 + 0 ≤ _)⟩)
  dsimp only [Pt.U, Pt.locs, Pt.cells, Pt.slots] at X2 l2 y2 z2 st2 hQ2
  subst l2 y2 z2
  obtain ⟨rfl, N2q, e2⟩ := hQ2
  have N2 := Fr.app N1 N2q
  obtain ⟨fs, hr, hrun, hended, hW, hsame⟩ := X2.leave (v := some (.int (1 : Int32))) (fun h => by rw [Bd.returns] at h; cases h)
  refine ⟨_, _, pre0 _ ?_, hrun, hended, _, _, rfl, ?_, ⟨_, rfl⟩, hW, hsame.mono (by decide) (by decide)⟩
  · show Steps p.tables e below (s₁.setTop (mkF m 0 #[.val (.int p1), .unset, .unset, .unset, .unset] [])) _
    refine XS.iloadN X0.here hx rfl (hb hby at_0) rfl ?_
    show Steps p.tables e below (s₁.setTop (mkF m 1 #[.val (.int p1), .unset, .unset, .unset, .unset] [(.int p1)])) _
    refine XS.iconst X0.here hx rfl (hb hby at_1) ?_
    show Steps p.tables e below (s₁.setTop (mkF m 2 #[.val (.int p1), .unset, .unset, .unset, .unset] [(.int (1 : Int32)), (.int p1)])) _
    refine XS.iand X0.here hx rfl (hb hby at_2) rfl ?_
    show Steps p.tables e below (s₁.setTop (mkF m 3 #[.val (.int p1), .unset, .unset, .unset, .unset] [(.int (p1 &&& (1 : Int32)))])) _
    refine XS.ifYes X0.here hx rfl (pc0 := 3) (pc' := 10) rfl (hb hby at_3) rfl ((if0 _ _).trans (teq (h1 : (p1 &&& (1 : Int32)) = (0 : Int32))).1) (by decide) (by decide) ?_
    show Steps p.tables e below (s₁.setTop (mkF m 10 #[.val (.int p1), .unset, .unset, .unset, .unset] [])) _
    refine XS.iconst X0.here hx rfl (hb hby at_10) ?_
    show Steps p.tables e below (s₁.setTop (mkF m 11 #[.val (.int p1), .unset, .unset, .unset, .unset] [(.int (0 : Int32))])) _
    refine XS.istoreN X0.here hx rfl (hb hby at_11) rfl (l' := #[.val (.int p1), .val (.int (0 : Int32)), .unset, .unset, .unset]) rfl ?_
    show Steps p.tables e below (s₁.setTop (mkF m 12 #[.val (.int p1), .val (.int (0 : Int32)), .unset, .unset, .unset] [])) _
    refine XS.iloadN X0.here hx rfl (hb hby at_12) rfl ?_
    show Steps p.tables e below (s₁.setTop (mkF m 13 #[.val (.int p1), .val (.int (0 : Int32)), .unset, .unset, .unset] [(.int p1)])) _
    refine XS.iconst X0.here hx rfl (hb hby at_13) ?_
    show Steps p.tables e below (s₁.setTop (mkF m 14 #[.val (.int p1), .val (.int (0 : Int32)), .unset, .unset, .unset] [(.int (2 : Int32)), (.int p1)])) _
    refine XS.iand X0.here hx rfl (hb hby at_14) rfl ?_
    show Steps p.tables e below (s₁.setTop (mkF m 15 #[.val (.int p1), .val (.int (0 : Int32)), .unset, .unset, .unset] [(.int (p1 &&& (2 : Int32)))])) _
    refine XS.ifNo X0.here hx rfl (hb hby at_15) rfl ((if0 _ _).trans (feq (h2 : ¬ ((p1 &&& (2 : Int32)) = (0 : Int32)))).1) ?_
    show Steps p.tables e below (s₁.setTop (mkF m 18 #[.val (.int p1), .val (.int (0 : Int32)), .unset, .unset, .unset] [])) _
    refine XS.iconst X0.here hx rfl (hb hby at_18) ?_
    show Steps p.tables e below (s₁.setTop (mkF m 19 #[.val (.int p1), .val (.int (0 : Int32)), .unset, .unset, .unset] [(.int (1 : Int32))])) _
    refine XS.goto X0.here hx rfl (pc0 := 19) (pc' := 23) rfl (hb hby at_19) (by decide) (by decide) ?_
    show Steps p.tables e below (s₁.setTop (mkF m 23 #[.val (.int p1), .val (.int (0 : Int32)), .unset, .unset, .unset] [(.int (1 : Int32))])) _
    refine XS.istoreN X0.here hx rfl (hb hby at_23) rfl (l' := #[.val (.int p1), .val (.int (0 : Int32)), .val (.int (1 : Int32)), .unset, .unset]) rfl ?_
    show Steps p.tables e below (s₁.setTop (mkF m 24 #[.val (.int p1), .val (.int (0 : Int32)), .val (.int (1 : Int32)), .unset, .unset] [])) _
    refine XS.iloadN X0.here hx rfl (hb hby at_24) rfl ?_
    show Steps p.tables e below (s₁.setTop (mkF m 25 #[.val (.int p1), .val (.int (0 : Int32)), .val (.int (1 : Int32)), .unset, .unset] [(.int p1)])) _
    refine XS.iconst X0.here hx rfl (hb hby at_25) ?_
    show Steps p.tables e below (s₁.setTop (mkF m 26 #[.val (.int p1), .val (.int (0 : Int32)), .val (.int (1 : Int32)), .unset, .unset] [(.int (4 : Int32)), (.int p1)])) _
    refine XS.iand X0.here hx rfl (hb hby at_26) rfl ?_
    show Steps p.tables e below (s₁.setTop (mkF m 27 #[.val (.int p1), .val (.int (0 : Int32)), .val (.int (1 : Int32)), .unset, .unset] [(.int (p1 &&& (4 : Int32)))])) _
    refine XS.ifNo X0.here hx rfl (hb hby at_27) rfl ((if0 _ _).trans (feq (h4 : ¬ ((p1 &&& (4 : Int32)) = (0 : Int32)))).1) ?_
    show Steps p.tables e below (s₁.setTop (mkF m 30 #[.val (.int p1), .val (.int (0 : Int32)), .val (.int (1 : Int32)), .unset, .unset] [])) _
    refine XS.iconst X0.here hx rfl (hb hby at_30) ?_
    show Steps p.tables e below (s₁.setTop (mkF m 31 #[.val (.int p1), .val (.int (0 : Int32)), .val (.int (1 : Int32)), .unset, .unset] [(.int (1 : Int32))])) _
    refine XS.goto X0.here hx rfl (pc0 := 31) (pc' := 35) rfl (hb hby at_31) (by decide) (by decide) ?_
    show Steps p.tables e below (s₁.setTop (mkF m 35 #[.val (.int p1), .val (.int (0 : Int32)), .val (.int (1 : Int32)), .unset, .unset] [(.int (1 : Int32))])) _
    refine XS.istoreN X0.here hx rfl (hb hby at_35) rfl (l' := #[.val (.int p1), .val (.int (0 : Int32)), .val (.int (1 : Int32)), .val (.int (1 : Int32)), .unset]) rfl ?_
    show Steps p.tables e below (s₁.setTop (mkF m 36 #[.val (.int p1), .val (.int (0 : Int32)), .val (.int (1 : Int32)), .val (.int (1 : Int32)), .unset] [])) _
    refine XS.iloadN X0.here hx rfl (hb hby at_36) rfl ?_
    show Steps p.tables e below (s₁.setTop (mkF m 37 #[.val (.int p1), .val (.int (0 : Int32)), .val (.int (1 : Int32)), .val (.int (1 : Int32)), .unset] [(.int (0 : Int32))])) _
    refine XS.iloadN X0.here hx rfl (hb hby at_37) rfl ?_
    show Steps p.tables e below (s₁.setTop (mkF m 38 #[.val (.int p1), .val (.int (0 : Int32)), .val (.int (1 : Int32)), .val (.int (1 : Int32)), .unset] [(.int (1 : Int32)), (.int (0 : Int32))])) _
    refine XS.iloadN X0.here hx rfl (hb hby at_38) rfl ?_
    show Steps p.tables e below (s₁.setTop (mkF m 39 #[.val (.int p1), .val (.int (0 : Int32)), .val (.int (1 : Int32)), .val (.int (1 : Int32)), .unset] [(.int (1 : Int32)), (.int (1 : Int32)), (.int (0 : Int32))])) _
    refine st1 _ ?_
    show Steps p.tables e below (T1.setTop (mkF m 42 #[.val (.int p1), .val (.int (0 : Int32)), .val (.int (1 : Int32)), .val (.int (1 : Int32)), .unset] [(.ref wPREDICATE_OBJECT)])) _
    refine XS.astore X1.here hx rfl (hb hby at_42) rfl rfl (l' := #[.val (.int p1), .val (.int (0 : Int32)), .val (.int (1 : Int32)), .val (.int (1 : Int32)), .val (.ref wPREDICATE_OBJECT)]) rfl ?_
    show Steps p.tables e below (T1.setTop (mkF m 44 #[.val (.int p1), .val (.int (0 : Int32)), .val (.int (1 : Int32)), .val (.int (1 : Int32)), .val (.ref wPREDICATE_OBJECT)] [])) _
    refine XS.aload X1.here hx rfl (hb hby at_44) rfl rfl ?_
    show Steps p.tables e below (T1.setTop (mkF m 46 #[.val (.int p1), .val (.int (0 : Int32)), .val (.int (1 : Int32)), .val (.int (1 : Int32)), .val (.ref wPREDICATE_OBJECT)] [(.ref wPREDICATE_OBJECT)])) _
    refine XS.iloadN X1.here hx rfl (hb hby at_46) rfl ?_
    show Steps p.tables e below (T1.setTop (mkF m 47 #[.val (.int p1), .val (.int (0 : Int32)), .val (.int (1 : Int32)), .val (.int (1 : Int32)), .val (.ref wPREDICATE_OBJECT)] [(.int (0 : Int32)), (.ref wPREDICATE_OBJECT)])) _
    refine XS.iloadN X1.here hx rfl (hb hby at_47) rfl ?_
    show Steps p.tables e below (T1.setTop (mkF m 48 #[.val (.int p1), .val (.int (0 : Int32)), .val (.int (1 : Int32)), .val (.int (1 : Int32)), .val (.ref wPREDICATE_OBJECT)] [(.int (1 : Int32)), (.int (0 : Int32)), (.ref wPREDICATE_OBJECT)])) _
    refine XS.iloadN X1.here hx rfl (hb hby at_48) rfl ?_
    show Steps p.tables e below (T1.setTop (mkF m 49 #[.val (.int p1), .val (.int (0 : Int32)), .val (.int (1 : Int32)), .val (.int (1 : Int32)), .val (.ref wPREDICATE_OBJECT)] [(.int (1 : Int32)), (.int (1 : Int32)), (.int (0 : Int32)), (.ref wPREDICATE_OBJECT)])) _
    refine st2 _ ?_
    show Steps p.tables e below (T2.setTop (mkF m 52 #[.val (.int p1), .val (.int (0 : Int32)), .val (.int (1 : Int32)), .val (.int (1 : Int32)), .val (.ref wPREDICATE_OBJECT)] [(.ref wPREDICATE_OBJECT), (.ref wPREDICATE_OBJECT)])) _
    refine Jvm.RoadKit.acmp (g := (mkF m 52 #[.val (.int p1), .val (.int (0 : Int32)), .val (.int (1 : Int32)), .val (.int (1 : Int32)), .val (.ref wPREDICATE_OBJECT)] [(.ref wPREDICATE_OBJECT), (.ref wPREDICATE_OBJECT)])) X2 hx rfl rfl rfl (pc0 := 52) (pc' := 55) (same := true) rfl (hb hby at_52) rfl (decide_eq_true rfl) (by decide) (by decide) ?_
    show Steps p.tables e below (T2.setTop (mkF m 55 #[.val (.int p1), .val (.int (0 : Int32)), .val (.int (1 : Int32)), .val (.int (1 : Int32)), .val (.ref wPREDICATE_OBJECT)] [])) _
    refine XS.iconst X2.here hx rfl (hb hby at_55) ?_
    show Steps p.tables e below (T2.setTop (mkF m 56 #[.val (.int p1), .val (.int (0 : Int32)), .val (.int (1 : Int32)), .val (.int (1 : Int32)), .val (.ref wPREDICATE_OBJECT)] [(.int (1 : Int32))])) _
    refine XS.goto X2.here hx rfl (pc0 := 56) (pc' := 60) rfl (hb hby at_56) (by decide) (by decide) ?_
    show Steps p.tables e below (T2.setTop (mkF m 60 #[.val (.int p1), .val (.int (0 : Int32)), .val (.int (1 : Int32)), .val (.int (1 : Int32)), .val (.ref wPREDICATE_OBJECT)] [(.int (1 : Int32))])) _
    exact retN X2 hx (t := .boolean) Bd.returns (by simp) (hb hby at_60) hr
  · exact ⟨rfl, N2⟩
set_option maxRecDepth 65536 in
set_option maxHeartbeats 40000000 in
theorem own_keeping_14 (l : Launch) (Z : State) (a0 : Array Value) (hw : ∀ d ∈ tables_1, d.before a0 Z = true) (ws : List Jvm.Cond) (wKINDS : Addr) (wSUBJECT_PREDICATE_OBJECT : Addr) (wSUBJECT_PREDICATE : Addr) (wSUBJECT_OBJECT : Addr) (wPREDICATE_OBJECT : Addr) (wSUBJECT : Addr) (wPREDICATE : Addr) (wOBJECT : Addr) (kKINDS : ClassId) (G : OwnG Z wKINDS wSUBJECT_PREDICATE_OBJECT wSUBJECT_PREDICATE wSUBJECT_OBJECT wPREDICATE_OBJECT wSUBJECT wPREDICATE wOBJECT kKINDS) (h0 : Heap) (n0 : Nat) (O0 : Old Z n0 h0) :
    MetFree l (⟨"com/example/quadrille/quadrille/graphfilter/PatternKind", "keeping", "(ZZZ)Lcom/example/quadrille/quadrille/graphfilter/PatternKind;"⟩ : MethodName) (head1 (Jvm.Cond.code (⟨"com/example/quadrille/quadrille/graphfilter/PatternKind", "keeping", "(ZZZ)Lcom/example/quadrille/quadrille/graphfilter/PatternKind;"⟩ : MethodName) prog_67_method_4_code 8 (some (.object "com/example/quadrille/quadrille/graphfilter/PatternKind")) :: ws) ({ frames := 0, cells := 0, slots := 0, locals := 0 } : Room)) (fun a U => a = #[(.int (1 : Int32)), (.int (1 : Int32)), (.int (1 : Int32))] ∧ Z.Warmed39 U.vm ∧ U.heap = h0) (fun _ _ _ _ _ => True) (fun _ U o U' => ∃ v L, o = .returned v ∧ OwnQ (some (.ref wSUBJECT_PREDICATE_OBJECT)) h0 n0 v U'.heap L ∧ FrameEnd U o U' L ({ frames := 0, cells := 0, slots := 0, locals := 0 } : Room).cells ({ frames := 0, cells := 0, slots := 0, locals := 0 } : Room).slots) := by
  refine MetFree.of_bodySF (plainFor_of_name own_pn_1) hisR ?_
  intro p e s m args below meth c s₁ Bd hml0 hP hK
  obtain ⟨rfl, hZ, hh⟩ := hP
  have hx := Bd.exec
  have hby := Bd.bytes
  have hml : c.maxLocals = 8 := hml0
  have hown : s.vm.findClass "com/example/quadrille/quadrille/graphfilter/PatternKind" = some m.cls := findClass_of_methodNamed Bd.named
  have hnm := (name_of_methodNamed Bd.named Bd.method).1
  have X0 : Stand p l e ({ frames := 0, cells := 0, slots := 0, locals := 0 } : Room) s m #[(.int (1 : Int32)), (.int (1 : Int32)), (.int (1 : Int32))] below meth c s₁ [] 0 0 := Stand.of_body Bd
  have e0 : s₁.heap = h0 := by rw [← hh, Bd.state]; rfl
  have N0 := Fr.nil n0
  have pre0 : ∀ t, Steps p.tables e below (s₁.setTop (mkF m 0 #[.val (.int (1 : Int32)), .val (.int (1 : Int32)), .val (.int (1 : Int32)), .unset, .unset, .unset, .unset, .unset] [])) t → Steps p.tables e below (s₁.setTop (entryFrame m #[(.int (1 : Int32)), (.int (1 : Int32)), (.int (1 : Int32))] 8)) t := fun t k => castTop (own_ef_1_III m (1 : Int32) (1 : Int32) (1 : Int32)) k
  obtain ⟨T1, X1, e1, st1⟩ := getS2 X0 hx hZ hown (host := "") (Or.inl (hw _ (List.mem_of_getElem? (i := 4) rfl))) Via.refl e0 (G.1.ext O0.2) (g := (mkF m 2 #[.val (.int (1 : Int32)), .val (.int (1 : Int32)), .val (.int (1 : Int32)), .val .null, .unset, .unset, .unset, .unset] [])) rfl (hb hby own_d1_2)
  obtain ⟨cl2, Ar2, qk2, Sz2, Nn2, Hs2, Gs2⟩ := id ((G.2.2.2.2.2.2.2.2.2.2.2.2.2.2.2.2.2.2.2.2.2.2.2.2.2.2.2.2.2.2.2.2.2.2.2.2.1.ext O0.2))
  have hin3 : ¬ ((0 : Int32) < 0 ∨ cl2.slots.size ≤ ((0 : Int32)).toNatClampNeg) := inb_of Sz2 ⟨by decide, by decide⟩
  have hat3 : cl2.slots[((0 : Int32)).toNatClampNeg]? = some (.ref wSUBJECT_PREDICATE_OBJECT) := Hs2.at hin3 rfl
  obtain ⟨T4, X4, e4, st4⟩ := getF X1 hx hZ hown (host := "") (Or.inl (hw _ (List.mem_of_getElem? (i := 7) rfl))) Via.refl e1 (G.2.2.2.2.2.2.2.2.2.2.2.2.2.2.2.1.ext O0.2) (g := (mkF m 31 #[.val (.int (1 : Int32)), .val (.int (1 : Int32)), .val (.int (1 : Int32)), .val .null, .val (.ref wKINDS), .val (.int (7 : Int32)), .val (.int (0 : Int32)), .val (.ref wSUBJECT_PREDICATE_OBJECT)] [(.ref wSUBJECT_PREDICATE_OBJECT)])) rfl rfl (hb hby own_d1_31)
  obtain ⟨T5, X5, e5, st5⟩ := getF X4 hx hZ hown (host := "") (Or.inl (hw _ (List.mem_of_getElem? (i := 12) rfl))) Via.refl e4 (G.2.2.2.2.2.2.2.2.2.2.2.2.2.2.2.2.2.2.2.2.2.2.2.2.2.2.1.ext O0.2) (g := (mkF m 40 #[.val (.int (1 : Int32)), .val (.int (1 : Int32)), .val (.int (1 : Int32)), .val .null, .val (.ref wKINDS), .val (.int (7 : Int32)), .val (.int (0 : Int32)), .val (.ref wSUBJECT_PREDICATE_OBJECT)] [(.ref wSUBJECT_PREDICATE_OBJECT)])) rfl rfl (hb hby own_d1_40)
  obtain ⟨T6, X6, e6, st6⟩ := getF X5 hx hZ hown (host := "") (Or.inl (hw _ (List.mem_of_getElem? (i := 17) rfl))) Via.refl e5 (G.2.2.2.2.2.2.2.2.2.2.2.2.2.2.2.2.2.2.2.2.2.2.2.2.2.2.2.1.ext O0.2) (g := (mkF m 49 #[.val (.int (1 : Int32)), .val (.int (1 : Int32)), .val (.int (1 : Int32)), .val .null, .val (.ref wKINDS), .val (.int (7 : Int32)), .val (.int (0 : Int32)), .val (.ref wSUBJECT_PREDICATE_OBJECT)] [(.ref wSUBJECT_PREDICATE_OBJECT)])) rfl rfl (hb hby own_d1_49)
  have hin7 : ¬ ((1 : Int32) < 0 ∨ cl2.slots.size ≤ ((1 : Int32)).toNatClampNeg) := inb_of Sz2 ⟨by decide, by decide⟩
  have hat7 : cl2.slots[((1 : Int32)).toNatClampNeg]? = some (.ref wSUBJECT_PREDICATE) := Hs2.at hin7 rfl
  obtain ⟨T8, X8, e8, st8⟩ := getF X6 hx hZ hown (host := "") (Or.inl (hw _ (List.mem_of_getElem? (i := 7) rfl))) Via.refl e6 (G.2.2.2.2.2.2.2.2.2.2.2.2.2.2.2.2.1.ext O0.2) (g := (mkF m 31 #[.val (.int (1 : Int32)), .val (.int (1 : Int32)), .val (.int (1 : Int32)), .val (.ref wSUBJECT_PREDICATE_OBJECT), .val (.ref wKINDS), .val (.int (7 : Int32)), .val (.int (1 : Int32)), .val (.ref wSUBJECT_PREDICATE)] [(.ref wSUBJECT_PREDICATE)])) rfl rfl (hb hby own_d1_31)
  obtain ⟨T9, X9, e9, st9⟩ := getF X8 hx hZ hown (host := "") (Or.inl (hw _ (List.mem_of_getElem? (i := 12) rfl))) Via.refl e8 (G.2.2.2.2.2.2.2.2.2.2.2.2.2.2.2.2.2.2.2.2.2.2.2.2.2.2.2.2.1.ext O0.2) (g := (mkF m 40 #[.val (.int (1 : Int32)), .val (.int (1 : Int32)), .val (.int (1 : Int32)), .val (.ref wSUBJECT_PREDICATE_OBJECT), .val (.ref wKINDS), .val (.int (7 : Int32)), .val (.int (1 : Int32)), .val (.ref wSUBJECT_PREDICATE)] [(.ref wSUBJECT_PREDICATE)])) rfl rfl (hb hby own_d1_40)
  obtain ⟨T10, X10, e10, st10⟩ := getF X9 hx hZ hown (host := "") (Or.inl (hw _ (List.mem_of_getElem? (i := 17) rfl))) Via.refl e9 (G.2.2.2.2.2.2.2.2.2.2.2.2.2.2.2.2.2.2.2.2.2.2.2.2.2.2.2.2.2.1.ext O0.2) (g := (mkF m 49 #[.val (.int (1 : Int32)), .val (.int (1 : Int32)), .val (.int (1 : Int32)), .val (.ref wSUBJECT_PREDICATE_OBJECT), .val (.ref wKINDS), .val (.int (7 : Int32)), .val (.int (1 : Int32)), .val (.ref wSUBJECT_PREDICATE)] [(.ref wSUBJECT_PREDICATE)])) rfl rfl (hb hby own_d1_49)
  have hin11 : ¬ ((2 : Int32) < 0 ∨ cl2.slots.size ≤ ((2 : Int32)).toNatClampNeg) := inb_of Sz2 ⟨by decide, by decide⟩
  have hat11 : cl2.slots[((2 : Int32)).toNatClampNeg]? = some (.ref wSUBJECT_OBJECT) := Hs2.at hin11 rfl
  obtain ⟨T12, X12, e12, st12⟩ := getF X10 hx hZ hown (host := "") (Or.inl (hw _ (List.mem_of_getElem? (i := 7) rfl))) Via.refl e10 (G.2.2.2.2.2.2.2.2.2.2.2.2.2.2.2.2.2.1.ext O0.2) (g := (mkF m 31 #[.val (.int (1 : Int32)), .val (.int (1 : Int32)), .val (.int (1 : Int32)), .val (.ref wSUBJECT_PREDICATE_OBJECT), .val (.ref wKINDS), .val (.int (7 : Int32)), .val (.int (2 : Int32)), .val (.ref wSUBJECT_OBJECT)] [(.ref wSUBJECT_OBJECT)])) rfl rfl (hb hby own_d1_31)
  obtain ⟨T13, X13, e13, st13⟩ := getF X12 hx hZ hown (host := "") (Or.inl (hw _ (List.mem_of_getElem? (i := 12) rfl))) Via.refl e12 (G.2.2.2.2.2.2.2.2.2.2.2.2.2.2.2.2.2.2.2.2.2.2.2.2.2.2.2.2.2.2.1.ext O0.2) (g := (mkF m 40 #[.val (.int (1 : Int32)), .val (.int (1 : Int32)), .val (.int (1 : Int32)), .val (.ref wSUBJECT_PREDICATE_OBJECT), .val (.ref wKINDS), .val (.int (7 : Int32)), .val (.int (2 : Int32)), .val (.ref wSUBJECT_OBJECT)] [(.ref wSUBJECT_OBJECT)])) rfl rfl (hb hby own_d1_40)
  have hin14 : ¬ ((3 : Int32) < 0 ∨ cl2.slots.size ≤ ((3 : Int32)).toNatClampNeg) := inb_of Sz2 ⟨by decide, by decide⟩
  have hat14 : cl2.slots[((3 : Int32)).toNatClampNeg]? = some (.ref wPREDICATE_OBJECT) := Hs2.at hin14 rfl
  obtain ⟨T15, X15, e15, st15⟩ := getF X13 hx hZ hown (host := "") (Or.inl (hw _ (List.mem_of_getElem? (i := 7) rfl))) Via.refl e13 (G.2.2.2.2.2.2.2.2.2.2.2.2.2.2.2.2.2.2.1.ext O0.2) (g := (mkF m 31 #[.val (.int (1 : Int32)), .val (.int (1 : Int32)), .val (.int (1 : Int32)), .val (.ref wSUBJECT_PREDICATE_OBJECT), .val (.ref wKINDS), .val (.int (7 : Int32)), .val (.int (3 : Int32)), .val (.ref wPREDICATE_OBJECT)] [(.ref wPREDICATE_OBJECT)])) rfl rfl (hb hby own_d1_31)
  have hin16 : ¬ ((4 : Int32) < 0 ∨ cl2.slots.size ≤ ((4 : Int32)).toNatClampNeg) := inb_of Sz2 ⟨by decide, by decide⟩
  have hat16 : cl2.slots[((4 : Int32)).toNatClampNeg]? = some (.ref wSUBJECT) := Hs2.at hin16 rfl
  obtain ⟨T17, X17, e17, st17⟩ := getF X15 hx hZ hown (host := "") (Or.inl (hw _ (List.mem_of_getElem? (i := 7) rfl))) Via.refl e15 (G.2.2.2.2.2.2.2.2.2.2.2.2.2.2.2.2.2.2.2.2.1.ext O0.2) (g := (mkF m 31 #[.val (.int (1 : Int32)), .val (.int (1 : Int32)), .val (.int (1 : Int32)), .val (.ref wSUBJECT_PREDICATE_OBJECT), .val (.ref wKINDS), .val (.int (7 : Int32)), .val (.int (4 : Int32)), .val (.ref wSUBJECT)] [(.ref wSUBJECT)])) rfl rfl (hb hby own_d1_31)
  obtain ⟨T18, X18, e18, st18⟩ := getF X17 hx hZ hown (host := "") (Or.inl (hw _ (List.mem_of_getElem? (i := 12) rfl))) Via.refl e17 (G.2.2.2.2.2.2.2.2.2.2.2.2.2.2.2.2.2.2.2.2.2.2.2.2.2.2.2.2.2.2.2.1.ext O0.2) (g := (mkF m 40 #[.val (.int (1 : Int32)), .val (.int (1 : Int32)), .val (.int (1 : Int32)), .val (.ref wSUBJECT_PREDICATE_OBJECT), .val (.ref wKINDS), .val (.int (7 : Int32)), .val (.int (4 : Int32)), .val (.ref wSUBJECT)] [(.ref wSUBJECT)])) rfl rfl (hb hby own_d1_40)
  have hin19 : ¬ ((5 : Int32) < 0 ∨ cl2.slots.size ≤ ((5 : Int32)).toNatClampNeg) := inb_of Sz2 ⟨by decide, by decide⟩
  have hat19 : cl2.slots[((5 : Int32)).toNatClampNeg]? = some (.ref wPREDICATE) := Hs2.at hin19 rfl
  obtain ⟨T20, X20, e20, st20⟩ := getF X18 hx hZ hown (host := "") (Or.inl (hw _ (List.mem_of_getElem? (i := 7) rfl))) Via.refl e18 (G.2.2.2.2.2.2.2.2.2.2.2.2.2.2.2.2.2.2.2.2.2.1.ext O0.2) (g := (mkF m 31 #[.val (.int (1 : Int32)), .val (.int (1 : Int32)), .val (.int (1 : Int32)), .val (.ref wSUBJECT_PREDICATE_OBJECT), .val (.ref wKINDS), .val (.int (7 : Int32)), .val (.int (5 : Int32)), .val (.ref wPREDICATE)] [(.ref wPREDICATE)])) rfl rfl (hb hby own_d1_31)
  have hin21 : ¬ ((6 : Int32) < 0 ∨ cl2.slots.size ≤ ((6 : Int32)).toNatClampNeg) := inb_of Sz2 ⟨by decide, by decide⟩
  have hat21 : cl2.slots[((6 : Int32)).toNatClampNeg]? = some (.ref wOBJECT) := Hs2.at hin21 rfl
  obtain ⟨T22, X22, e22, st22⟩ := getF X20 hx hZ hown (host := "") (Or.inl (hw _ (List.mem_of_getElem? (i := 7) rfl))) Via.refl e20 (G.2.2.2.2.2.2.2.2.2.2.2.2.2.2.2.2.2.2.2.2.2.2.2.1.ext O0.2) (g := (mkF m 31 #[.val (.int (1 : Int32)), .val (.int (1 : Int32)), .val (.int (1 : Int32)), .val (.ref wSUBJECT_PREDICATE_OBJECT), .val (.ref wKINDS), .val (.int (7 : Int32)), .val (.int (6 : Int32)), .val (.ref wOBJECT)] [(.ref wOBJECT)])) rfl rfl (hb hby own_d1_31)
  obtain ⟨fs, hr, hrun, hended, hW, hsame⟩ := X22.leave (v := some (.ref wSUBJECT_PREDICATE_OBJECT)) (fun h => by rw [Bd.returns] at h; cases h)
  refine ⟨_, _, pre0 _ ?_, hrun, hended, _, _, rfl, ?_, ⟨_, rfl⟩, hW, hsame.mono (by decide) (by decide)⟩
  · show Steps p.tables e below (s₁.setTop (mkF m 0 #[.val (.int (1 : Int32)), .val (.int (1 : Int32)), .val (.int (1 : Int32)), .unset, .unset, .unset, .unset, .unset] [])) _
    refine XS.aconstNull X0.here hx rfl (hb hby own_d1_0) ?_
    show Steps p.tables e below (s₁.setTop (mkF m 1 #[.val (.int (1 : Int32)), .val (.int (1 : Int32)), .val (.int (1 : Int32)), .unset, .unset, .unset, .unset, .unset] [.null])) _
    refine XS.astoreN X0.here hx rfl (hb hby own_d1_1) rfl rfl (l' := #[.val (.int (1 : Int32)), .val (.int (1 : Int32)), .val (.int (1 : Int32)), .val .null, .unset, .unset, .unset, .unset]) rfl ?_
    show Steps p.tables e below (s₁.setTop (mkF m 2 #[.val (.int (1 : Int32)), .val (.int (1 : Int32)), .val (.int (1 : Int32)), .val .null, .unset, .unset, .unset, .unset] [])) _
    refine st1 _ ?_
    show Steps p.tables e below (T1.setTop (mkF m 5 #[.val (.int (1 : Int32)), .val (.int (1 : Int32)), .val (.int (1 : Int32)), .val .null, .unset, .unset, .unset, .unset] [(.ref wKINDS)])) _
    refine XS.astore X1.here hx rfl (hb hby own_d1_5) rfl rfl (l' := #[.val (.int (1 : Int32)), .val (.int (1 : Int32)), .val (.int (1 : Int32)), .val .null, .val (.ref wKINDS), .unset, .unset, .unset]) rfl ?_
    show Steps p.tables e below (T1.setTop (mkF m 7 #[.val (.int (1 : Int32)), .val (.int (1 : Int32)), .val (.int (1 : Int32)), .val .null, .val (.ref wKINDS), .unset, .unset, .unset] [])) _
    refine XS.aload X1.here hx rfl (hb hby own_d1_7) rfl rfl ?_
    show Steps p.tables e below (T1.setTop (mkF m 9 #[.val (.int (1 : Int32)), .val (.int (1 : Int32)), .val (.int (1 : Int32)), .val .null, .val (.ref wKINDS), .unset, .unset, .unset] [(.ref wKINDS)])) _
    refine X1.arraylength hx (by rw [e1]; exact Ar2.1) (State.isArrayOf_alike hZ.alike Ar2.2.1) (g := (mkF m 9 #[.val (.int (1 : Int32)), .val (.int (1 : Int32)), .val (.int (1 : Int32)), .val .null, .val (.ref wKINDS), .unset, .unset, .unset] [(.ref wKINDS)])) rfl rfl (hb hby own_d1_9) _ ?_
    rw [len_of Sz2 Nn2]
    show Steps p.tables e below (T1.setTop (mkF m 10 #[.val (.int (1 : Int32)), .val (.int (1 : Int32)), .val (.int (1 : Int32)), .val .null, .val (.ref wKINDS), .unset, .unset, .unset] [(.int (7 : Int32))])) _
    refine XS.istore X1.here hx rfl (hb hby own_d1_10) rfl (l' := #[.val (.int (1 : Int32)), .val (.int (1 : Int32)), .val (.int (1 : Int32)), .val .null, .val (.ref wKINDS), .val (.int (7 : Int32)), .unset, .unset]) rfl ?_
    show Steps p.tables e below (T1.setTop (mkF m 12 #[.val (.int (1 : Int32)), .val (.int (1 : Int32)), .val (.int (1 : Int32)), .val .null, .val (.ref wKINDS), .val (.int (7 : Int32)), .unset, .unset] [])) _
    refine XS.iconst X1.here hx rfl (hb hby own_d1_12) ?_
    show Steps p.tables e below (T1.setTop (mkF m 13 #[.val (.int (1 : Int32)), .val (.int (1 : Int32)), .val (.int (1 : Int32)), .val .null, .val (.ref wKINDS), .val (.int (7 : Int32)), .unset, .unset] [(.int (0 : Int32))])) _
    refine XS.istore X1.here hx rfl (hb hby own_d1_13) rfl (l' := #[.val (.int (1 : Int32)), .val (.int (1 : Int32)), .val (.int (1 : Int32)), .val .null, .val (.ref wKINDS), .val (.int (7 : Int32)), .val (.int (0 : Int32)), .unset]) rfl ?_
    show Steps p.tables e below (T1.setTop (mkF m 15 #[.val (.int (1 : Int32)), .val (.int (1 : Int32)), .val (.int (1 : Int32)), .val .null, .val (.ref wKINDS), .val (.int (7 : Int32)), .val (.int (0 : Int32)), .unset] [])) _
    refine XS.iload X1.here hx rfl (hb hby own_d1_15) rfl ?_
    show Steps p.tables e below (T1.setTop (mkF m 17 #[.val (.int (1 : Int32)), .val (.int (1 : Int32)), .val (.int (1 : Int32)), .val .null, .val (.ref wKINDS), .val (.int (7 : Int32)), .val (.int (0 : Int32)), .unset] [(.int (0 : Int32))])) _
    refine XS.iload X1.here hx rfl (hb hby own_d1_17) rfl ?_
    show Steps p.tables e below (T1.setTop (mkF m 19 #[.val (.int (1 : Int32)), .val (.int (1 : Int32)), .val (.int (1 : Int32)), .val .null, .val (.ref wKINDS), .val (.int (7 : Int32)), .val (.int (0 : Int32)), .unset] [(.int (7 : Int32)), (.int (0 : Int32))])) _
    refine XS.icmpNo X1.here hx rfl (hb hby own_d1_19) rfl (by decide) ?_
    show Steps p.tables e below (T1.setTop (mkF m 22 #[.val (.int (1 : Int32)), .val (.int (1 : Int32)), .val (.int (1 : Int32)), .val .null, .val (.ref wKINDS), .val (.int (7 : Int32)), .val (.int (0 : Int32)), .unset] [])) _
    refine XS.aload X1.here hx rfl (hb hby own_d1_22) rfl rfl ?_
    show Steps p.tables e below (T1.setTop (mkF m 24 #[.val (.int (1 : Int32)), .val (.int (1 : Int32)), .val (.int (1 : Int32)), .val .null, .val (.ref wKINDS), .val (.int (7 : Int32)), .val (.int (0 : Int32)), .unset] [(.ref wKINDS)])) _
    refine XS.iload X1.here hx rfl (hb hby own_d1_24) rfl ?_
    show Steps p.tables e below (T1.setTop (mkF m 26 #[.val (.int (1 : Int32)), .val (.int (1 : Int32)), .val (.int (1 : Int32)), .val .null, .val (.ref wKINDS), .val (.int (7 : Int32)), .val (.int (0 : Int32)), .unset] [(.int (0 : Int32)), (.ref wKINDS)])) _
    refine X1.aaload hx (j := (0 : Int32)) (v := (.ref wSUBJECT_PREDICATE_OBJECT)) (by rw [e1]; exact Ar2.1) (State.isArrayOf_alike hZ.alike Ar2.2.1) rfl Ar2.2.2 hin3 hat3 (g := (mkF m 26 #[.val (.int (1 : Int32)), .val (.int (1 : Int32)), .val (.int (1 : Int32)), .val .null, .val (.ref wKINDS), .val (.int (7 : Int32)), .val (.int (0 : Int32)), .unset] [(.int (0 : Int32)), (.ref wKINDS)])) rfl rfl (hb hby own_d1_26) _ ?_
    show Steps p.tables e below (T1.setTop (mkF m 27 #[.val (.int (1 : Int32)), .val (.int (1 : Int32)), .val (.int (1 : Int32)), .val .null, .val (.ref wKINDS), .val (.int (7 : Int32)), .val (.int (0 : Int32)), .unset] [(.ref wSUBJECT_PREDICATE_OBJECT)])) _
    refine XS.astore X1.here hx rfl (hb hby own_d1_27) rfl rfl (l' := #[.val (.int (1 : Int32)), .val (.int (1 : Int32)), .val (.int (1 : Int32)), .val .null, .val (.ref wKINDS), .val (.int (7 : Int32)), .val (.int (0 : Int32)), .val (.ref wSUBJECT_PREDICATE_OBJECT)]) rfl ?_
    show Steps p.tables e below (T1.setTop (mkF m 29 #[.val (.int (1 : Int32)), .val (.int (1 : Int32)), .val (.int (1 : Int32)), .val .null, .val (.ref wKINDS), .val (.int (7 : Int32)), .val (.int (0 : Int32)), .val (.ref wSUBJECT_PREDICATE_OBJECT)] [])) _
    refine XS.aload X1.here hx rfl (hb hby own_d1_29) rfl rfl ?_
    show Steps p.tables e below (T1.setTop (mkF m 31 #[.val (.int (1 : Int32)), .val (.int (1 : Int32)), .val (.int (1 : Int32)), .val .null, .val (.ref wKINDS), .val (.int (7 : Int32)), .val (.int (0 : Int32)), .val (.ref wSUBJECT_PREDICATE_OBJECT)] [(.ref wSUBJECT_PREDICATE_OBJECT)])) _
    refine st4 _ ?_
    show Steps p.tables e below (T4.setTop (mkF m 34 #[.val (.int (1 : Int32)), .val (.int (1 : Int32)), .val (.int (1 : Int32)), .val .null, .val (.ref wKINDS), .val (.int (7 : Int32)), .val (.int (0 : Int32)), .val (.ref wSUBJECT_PREDICATE_OBJECT)] [(.int (1 : Int32))])) _
    refine XS.iloadN X4.here hx rfl (hb hby own_d1_34) rfl ?_
    show Steps p.tables e below (T4.setTop (mkF m 35 #[.val (.int (1 : Int32)), .val (.int (1 : Int32)), .val (.int (1 : Int32)), .val .null, .val (.ref wKINDS), .val (.int (7 : Int32)), .val (.int (0 : Int32)), .val (.ref wSUBJECT_PREDICATE_OBJECT)] [(.int (1 : Int32)), (.int (1 : Int32))])) _
    refine XS.icmpNo X4.here hx rfl (hb hby own_d1_35) rfl (by decide) ?_
    show Steps p.tables e below (T4.setTop (mkF m 38 #[.val (.int (1 : Int32)), .val (.int (1 : Int32)), .val (.int (1 : Int32)), .val .null, .val (.ref wKINDS), .val (.int (7 : Int32)), .val (.int (0 : Int32)), .val (.ref wSUBJECT_PREDICATE_OBJECT)] [])) _
    refine XS.aload X4.here hx rfl (hb hby own_d1_38) rfl rfl ?_
    show Steps p.tables e below (T4.setTop (mkF m 40 #[.val (.int (1 : Int32)), .val (.int (1 : Int32)), .val (.int (1 : Int32)), .val .null, .val (.ref wKINDS), .val (.int (7 : Int32)), .val (.int (0 : Int32)), .val (.ref wSUBJECT_PREDICATE_OBJECT)] [(.ref wSUBJECT_PREDICATE_OBJECT)])) _
    refine st5 _ ?_
    show Steps p.tables e below (T5.setTop (mkF m 43 #[.val (.int (1 : Int32)), .val (.int (1 : Int32)), .val (.int (1 : Int32)), .val .null, .val (.ref wKINDS), .val (.int (7 : Int32)), .val (.int (0 : Int32)), .val (.ref wSUBJECT_PREDICATE_OBJECT)] [(.int (1 : Int32))])) _
    refine XS.iloadN X5.here hx rfl (hb hby own_d1_43) rfl ?_
    show Steps p.tables e below (T5.setTop (mkF m 44 #[.val (.int (1 : Int32)), .val (.int (1 : Int32)), .val (.int (1 : Int32)), .val .null, .val (.ref wKINDS), .val (.int (7 : Int32)), .val (.int (0 : Int32)), .val (.ref wSUBJECT_PREDICATE_OBJECT)] [(.int (1 : Int32)), (.int (1 : Int32))])) _
    refine XS.icmpNo X5.here hx rfl (hb hby own_d1_44) rfl (by decide) ?_
    show Steps p.tables e below (T5.setTop (mkF m 47 #[.val (.int (1 : Int32)), .val (.int (1 : Int32)), .val (.int (1 : Int32)), .val .null, .val (.ref wKINDS), .val (.int (7 : Int32)), .val (.int (0 : Int32)), .val (.ref wSUBJECT_PREDICATE_OBJECT)] [])) _
    refine XS.aload X5.here hx rfl (hb hby own_d1_47) rfl rfl ?_
    show Steps p.tables e below (T5.setTop (mkF m 49 #[.val (.int (1 : Int32)), .val (.int (1 : Int32)), .val (.int (1 : Int32)), .val .null, .val (.ref wKINDS), .val (.int (7 : Int32)), .val (.int (0 : Int32)), .val (.ref wSUBJECT_PREDICATE_OBJECT)] [(.ref wSUBJECT_PREDICATE_OBJECT)])) _
    refine st6 _ ?_
    show Steps p.tables e below (T6.setTop (mkF m 52 #[.val (.int (1 : Int32)), .val (.int (1 : Int32)), .val (.int (1 : Int32)), .val .null, .val (.ref wKINDS), .val (.int (7 : Int32)), .val (.int (0 : Int32)), .val (.ref wSUBJECT_PREDICATE_OBJECT)] [(.int (1 : Int32))])) _
    refine XS.iloadN X6.here hx rfl (hb hby own_d1_52) rfl ?_
    show Steps p.tables e below (T6.setTop (mkF m 53 #[.val (.int (1 : Int32)), .val (.int (1 : Int32)), .val (.int (1 : Int32)), .val .null, .val (.ref wKINDS), .val (.int (7 : Int32)), .val (.int (0 : Int32)), .val (.ref wSUBJECT_PREDICATE_OBJECT)] [(.int (1 : Int32)), (.int (1 : Int32))])) _
    refine XS.icmpNo X6.here hx rfl (hb hby own_d1_53) rfl (by decide) ?_
    show Steps p.tables e below (T6.setTop (mkF m 56 #[.val (.int (1 : Int32)), .val (.int (1 : Int32)), .val (.int (1 : Int32)), .val .null, .val (.ref wKINDS), .val (.int (7 : Int32)), .val (.int (0 : Int32)), .val (.ref wSUBJECT_PREDICATE_OBJECT)] [])) _
    refine XS.aload X6.here hx rfl (hb hby own_d1_56) rfl rfl ?_
    show Steps p.tables e below (T6.setTop (mkF m 58 #[.val (.int (1 : Int32)), .val (.int (1 : Int32)), .val (.int (1 : Int32)), .val .null, .val (.ref wKINDS), .val (.int (7 : Int32)), .val (.int (0 : Int32)), .val (.ref wSUBJECT_PREDICATE_OBJECT)] [(.ref wSUBJECT_PREDICATE_OBJECT)])) _
    refine XS.astoreN X6.here hx rfl (hb hby own_d1_58) rfl rfl (l' := #[.val (.int (1 : Int32)), .val (.int (1 : Int32)), .val (.int (1 : Int32)), .val (.ref wSUBJECT_PREDICATE_OBJECT), .val (.ref wKINDS), .val (.int (7 : Int32)), .val (.int (0 : Int32)), .val (.ref wSUBJECT_PREDICATE_OBJECT)]) rfl ?_
    show Steps p.tables e below (T6.setTop (mkF m 59 #[.val (.int (1 : Int32)), .val (.int (1 : Int32)), .val (.int (1 : Int32)), .val (.ref wSUBJECT_PREDICATE_OBJECT), .val (.ref wKINDS), .val (.int (7 : Int32)), .val (.int (0 : Int32)), .val (.ref wSUBJECT_PREDICATE_OBJECT)] [])) _
    refine XS.iinc X6.here hx rfl (hb hby own_d1_59) rfl (l' := #[.val (.int (1 : Int32)), .val (.int (1 : Int32)), .val (.int (1 : Int32)), .val (.ref wSUBJECT_PREDICATE_OBJECT), .val (.ref wKINDS), .val (.int (7 : Int32)), .val (.int (1 : Int32)), .val (.ref wSUBJECT_PREDICATE_OBJECT)]) rfl ?_
    show Steps p.tables e below (T6.setTop (mkF m 62 #[.val (.int (1 : Int32)), .val (.int (1 : Int32)), .val (.int (1 : Int32)), .val (.ref wSUBJECT_PREDICATE_OBJECT), .val (.ref wKINDS), .val (.int (7 : Int32)), .val (.int (1 : Int32)), .val (.ref wSUBJECT_PREDICATE_OBJECT)] [])) _
    refine XS.goto X6.here hx rfl (pc0 := 62) (pc' := 15) rfl (hb hby own_d1_62) (by decide) (by decide) ?_
    show Steps p.tables e below (T6.setTop (mkF m 15 #[.val (.int (1 : Int32)), .val (.int (1 : Int32)), .val (.int (1 : Int32)), .val (.ref wSUBJECT_PREDICATE_OBJECT), .val (.ref wKINDS), .val (.int (7 : Int32)), .val (.int (1 : Int32)), .val (.ref wSUBJECT_PREDICATE_OBJECT)] [])) _
    refine XS.iload X6.here hx rfl (hb hby own_d1_15) rfl ?_
    show Steps p.tables e below (T6.setTop (mkF m 17 #[.val (.int (1 : Int32)), .val (.int (1 : Int32)), .val (.int (1 : Int32)), .val (.ref wSUBJECT_PREDICATE_OBJECT), .val (.ref wKINDS), .val (.int (7 : Int32)), .val (.int (1 : Int32)), .val (.ref wSUBJECT_PREDICATE_OBJECT)] [(.int (1 : Int32))])) _
    refine XS.iload X6.here hx rfl (hb hby own_d1_17) rfl ?_
    show Steps p.tables e below (T6.setTop (mkF m 19 #[.val (.int (1 : Int32)), .val (.int (1 : Int32)), .val (.int (1 : Int32)), .val (.ref wSUBJECT_PREDICATE_OBJECT), .val (.ref wKINDS), .val (.int (7 : Int32)), .val (.int (1 : Int32)), .val (.ref wSUBJECT_PREDICATE_OBJECT)] [(.int (7 : Int32)), (.int (1 : Int32))])) _
    refine XS.icmpNo X6.here hx rfl (hb hby own_d1_19) rfl (by decide) ?_
    show Steps p.tables e below (T6.setTop (mkF m 22 #[.val (.int (1 : Int32)), .val (.int (1 : Int32)), .val (.int (1 : Int32)), .val (.ref wSUBJECT_PREDICATE_OBJECT), .val (.ref wKINDS), .val (.int (7 : Int32)), .val (.int (1 : Int32)), .val (.ref wSUBJECT_PREDICATE_OBJECT)] [])) _
    refine XS.aload X6.here hx rfl (hb hby own_d1_22) rfl rfl ?_
    show Steps p.tables e below (T6.setTop (mkF m 24 #[.val (.int (1 : Int32)), .val (.int (1 : Int32)), .val (.int (1 : Int32)), .val (.ref wSUBJECT_PREDICATE_OBJECT), .val (.ref wKINDS), .val (.int (7 : Int32)), .val (.int (1 : Int32)), .val (.ref wSUBJECT_PREDICATE_OBJECT)] [(.ref wKINDS)])) _
    refine XS.iload X6.here hx rfl (hb hby own_d1_24) rfl ?_
    show Steps p.tables e below (T6.setTop (mkF m 26 #[.val (.int (1 : Int32)), .val (.int (1 : Int32)), .val (.int (1 : Int32)), .val (.ref wSUBJECT_PREDICATE_OBJECT), .val (.ref wKINDS), .val (.int (7 : Int32)), .val (.int (1 : Int32)), .val (.ref wSUBJECT_PREDICATE_OBJECT)] [(.int (1 : Int32)), (.ref wKINDS)])) _
    refine X6.aaload hx (j := (1 : Int32)) (v := (.ref wSUBJECT_PREDICATE)) (by rw [e6]; exact Ar2.1) (State.isArrayOf_alike hZ.alike Ar2.2.1) rfl Ar2.2.2 hin7 hat7 (g := (mkF m 26 #[.val (.int (1 : Int32)), .val (.int (1 : Int32)), .val (.int (1 : Int32)), .val (.ref wSUBJECT_PREDICATE_OBJECT), .val (.ref wKINDS), .val (.int (7 : Int32)), .val (.int (1 : Int32)), .val (.ref wSUBJECT_PREDICATE_OBJECT)] [(.int (1 : Int32)), (.ref wKINDS)])) rfl rfl (hb hby own_d1_26) _ ?_
    show Steps p.tables e below (T6.setTop (mkF m 27 #[.val (.int (1 : Int32)), .val (.int (1 : Int32)), .val (.int (1 : Int32)), .val (.ref wSUBJECT_PREDICATE_OBJECT), .val (.ref wKINDS), .val (.int (7 : Int32)), .val (.int (1 : Int32)), .val (.ref wSUBJECT_PREDICATE_OBJECT)] [(.ref wSUBJECT_PREDICATE)])) _
    refine XS.astore X6.here hx rfl (hb hby own_d1_27) rfl rfl (l' := #[.val (.int (1 : Int32)), .val (.int (1 : Int32)), .val (.int (1 : Int32)), .val (.ref wSUBJECT_PREDICATE_OBJECT), .val (.ref wKINDS), .val (.int (7 : Int32)), .val (.int (1 : Int32)), .val (.ref wSUBJECT_PREDICATE)]) rfl ?_
    show Steps p.tables e below (T6.setTop (mkF m 29 #[.val (.int (1 : Int32)), .val (.int (1 : Int32)), .val (.int (1 : Int32)), .val (.ref wSUBJECT_PREDICATE_OBJECT), .val (.ref wKINDS), .val (.int (7 : Int32)), .val (.int (1 : Int32)), .val (.ref wSUBJECT_PREDICATE)] [])) _
    refine XS.aload X6.here hx rfl (hb hby own_d1_29) rfl rfl ?_
    show Steps p.tables e below (T6.setTop (mkF m 31 #[.val (.int (1 : Int32)), .val (.int (1 : Int32)), .val (.int (1 : Int32)), .val (.ref wSUBJECT_PREDICATE_OBJECT), .val (.ref wKINDS), .val (.int (7 : Int32)), .val (.int (1 : Int32)), .val (.ref wSUBJECT_PREDICATE)] [(.ref wSUBJECT_PREDICATE)])) _
    refine st8 _ ?_
    show Steps p.tables e below (T8.setTop (mkF m 34 #[.val (.int (1 : Int32)), .val (.int (1 : Int32)), .val (.int (1 : Int32)), .val (.ref wSUBJECT_PREDICATE_OBJECT), .val (.ref wKINDS), .val (.int (7 : Int32)), .val (.int (1 : Int32)), .val (.ref wSUBJECT_PREDICATE)] [(.int (1 : Int32))])) _
    refine XS.iloadN X8.here hx rfl (hb hby own_d1_34) rfl ?_
    show Steps p.tables e below (T8.setTop (mkF m 35 #[.val (.int (1 : Int32)), .val (.int (1 : Int32)), .val (.int (1 : Int32)), .val (.ref wSUBJECT_PREDICATE_OBJECT), .val (.ref wKINDS), .val (.int (7 : Int32)), .val (.int (1 : Int32)), .val (.ref wSUBJECT_PREDICATE)] [(.int (1 : Int32)), (.int (1 : Int32))])) _
    refine XS.icmpNo X8.here hx rfl (hb hby own_d1_35) rfl (by decide) ?_
    show Steps p.tables e below (T8.setTop (mkF m 38 #[.val (.int (1 : Int32)), .val (.int (1 : Int32)), .val (.int (1 : Int32)), .val (.ref wSUBJECT_PREDICATE_OBJECT), .val (.ref wKINDS), .val (.int (7 : Int32)), .val (.int (1 : Int32)), .val (.ref wSUBJECT_PREDICATE)] [])) _
    refine XS.aload X8.here hx rfl (hb hby own_d1_38) rfl rfl ?_
    show Steps p.tables e below (T8.setTop (mkF m 40 #[.val (.int (1 : Int32)), .val (.int (1 : Int32)), .val (.int (1 : Int32)), .val (.ref wSUBJECT_PREDICATE_OBJECT), .val (.ref wKINDS), .val (.int (7 : Int32)), .val (.int (1 : Int32)), .val (.ref wSUBJECT_PREDICATE)] [(.ref wSUBJECT_PREDICATE)])) _
    refine st9 _ ?_
    show Steps p.tables e below (T9.setTop (mkF m 43 #[.val (.int (1 : Int32)), .val (.int (1 : Int32)), .val (.int (1 : Int32)), .val (.ref wSUBJECT_PREDICATE_OBJECT), .val (.ref wKINDS), .val (.int (7 : Int32)), .val (.int (1 : Int32)), .val (.ref wSUBJECT_PREDICATE)] [(.int (1 : Int32))])) _
    refine XS.iloadN X9.here hx rfl (hb hby own_d1_43) rfl ?_
    show Steps p.tables e below (T9.setTop (mkF m 44 #[.val (.int (1 : Int32)), .val (.int (1 : Int32)), .val (.int (1 : Int32)), .val (.ref wSUBJECT_PREDICATE_OBJECT), .val (.ref wKINDS), .val (.int (7 : Int32)), .val (.int (1 : Int32)), .val (.ref wSUBJECT_PREDICATE)] [(.int (1 : Int32)), (.int (1 : Int32))])) _
    refine XS.icmpNo X9.here hx rfl (hb hby own_d1_44) rfl (by decide) ?_
    show Steps p.tables e below (T9.setTop (mkF m 47 #[.val (.int (1 : Int32)), .val (.int (1 : Int32)), .val (.int (1 : Int32)), .val (.ref wSUBJECT_PREDICATE_OBJECT), .val (.ref wKINDS), .val (.int (7 : Int32)), .val (.int (1 : Int32)), .val (.ref wSUBJECT_PREDICATE)] [])) _
    refine XS.aload X9.here hx rfl (hb hby own_d1_47) rfl rfl ?_
    show Steps p.tables e below (T9.setTop (mkF m 49 #[.val (.int (1 : Int32)), .val (.int (1 : Int32)), .val (.int (1 : Int32)), .val (.ref wSUBJECT_PREDICATE_OBJECT), .val (.ref wKINDS), .val (.int (7 : Int32)), .val (.int (1 : Int32)), .val (.ref wSUBJECT_PREDICATE)] [(.ref wSUBJECT_PREDICATE)])) _
    refine st10 _ ?_
    show Steps p.tables e below (T10.setTop (mkF m 52 #[.val (.int (1 : Int32)), .val (.int (1 : Int32)), .val (.int (1 : Int32)), .val (.ref wSUBJECT_PREDICATE_OBJECT), .val (.ref wKINDS), .val (.int (7 : Int32)), .val (.int (1 : Int32)), .val (.ref wSUBJECT_PREDICATE)] [(.int (0 : Int32))])) _
    refine XS.iloadN X10.here hx rfl (hb hby own_d1_52) rfl ?_
    show Steps p.tables e below (T10.setTop (mkF m 53 #[.val (.int (1 : Int32)), .val (.int (1 : Int32)), .val (.int (1 : Int32)), .val (.ref wSUBJECT_PREDICATE_OBJECT), .val (.ref wKINDS), .val (.int (7 : Int32)), .val (.int (1 : Int32)), .val (.ref wSUBJECT_PREDICATE)] [(.int (1 : Int32)), (.int (0 : Int32))])) _
    refine XS.icmpYes X10.here hx rfl (pc0 := 53) (pc' := 59) rfl (hb hby own_d1_53) rfl (by decide) (by decide) (by decide) ?_
    show Steps p.tables e below (T10.setTop (mkF m 59 #[.val (.int (1 : Int32)), .val (.int (1 : Int32)), .val (.int (1 : Int32)), .val (.ref wSUBJECT_PREDICATE_OBJECT), .val (.ref wKINDS), .val (.int (7 : Int32)), .val (.int (1 : Int32)), .val (.ref wSUBJECT_PREDICATE)] [])) _
    refine XS.iinc X10.here hx rfl (hb hby own_d1_59) rfl (l' := #[.val (.int (1 : Int32)), .val (.int (1 : Int32)), .val (.int (1 : Int32)), .val (.ref wSUBJECT_PREDICATE_OBJECT), .val (.ref wKINDS), .val (.int (7 : Int32)), .val (.int (2 : Int32)), .val (.ref wSUBJECT_PREDICATE)]) rfl ?_
    show Steps p.tables e below (T10.setTop (mkF m 62 #[.val (.int (1 : Int32)), .val (.int (1 : Int32)), .val (.int (1 : Int32)), .val (.ref wSUBJECT_PREDICATE_OBJECT), .val (.ref wKINDS), .val (.int (7 : Int32)), .val (.int (2 : Int32)), .val (.ref wSUBJECT_PREDICATE)] [])) _
    refine XS.goto X10.here hx rfl (pc0 := 62) (pc' := 15) rfl (hb hby own_d1_62) (by decide) (by decide) ?_
    show Steps p.tables e below (T10.setTop (mkF m 15 #[.val (.int (1 : Int32)), .val (.int (1 : Int32)), .val (.int (1 : Int32)), .val (.ref wSUBJECT_PREDICATE_OBJECT), .val (.ref wKINDS), .val (.int (7 : Int32)), .val (.int (2 : Int32)), .val (.ref wSUBJECT_PREDICATE)] [])) _
    refine XS.iload X10.here hx rfl (hb hby own_d1_15) rfl ?_
    show Steps p.tables e below (T10.setTop (mkF m 17 #[.val (.int (1 : Int32)), .val (.int (1 : Int32)), .val (.int (1 : Int32)), .val (.ref wSUBJECT_PREDICATE_OBJECT), .val (.ref wKINDS), .val (.int (7 : Int32)), .val (.int (2 : Int32)), .val (.ref wSUBJECT_PREDICATE)] [(.int (2 : Int32))])) _
    refine XS.iload X10.here hx rfl (hb hby own_d1_17) rfl ?_
    show Steps p.tables e below (T10.setTop (mkF m 19 #[.val (.int (1 : Int32)), .val (.int (1 : Int32)), .val (.int (1 : Int32)), .val (.ref wSUBJECT_PREDICATE_OBJECT), .val (.ref wKINDS), .val (.int (7 : Int32)), .val (.int (2 : Int32)), .val (.ref wSUBJECT_PREDICATE)] [(.int (7 : Int32)), (.int (2 : Int32))])) _
    refine XS.icmpNo X10.here hx rfl (hb hby own_d1_19) rfl (by decide) ?_
    show Steps p.tables e below (T10.setTop (mkF m 22 #[.val (.int (1 : Int32)), .val (.int (1 : Int32)), .val (.int (1 : Int32)), .val (.ref wSUBJECT_PREDICATE_OBJECT), .val (.ref wKINDS), .val (.int (7 : Int32)), .val (.int (2 : Int32)), .val (.ref wSUBJECT_PREDICATE)] [])) _
    refine XS.aload X10.here hx rfl (hb hby own_d1_22) rfl rfl ?_
    show Steps p.tables e below (T10.setTop (mkF m 24 #[.val (.int (1 : Int32)), .val (.int (1 : Int32)), .val (.int (1 : Int32)), .val (.ref wSUBJECT_PREDICATE_OBJECT), .val (.ref wKINDS), .val (.int (7 : Int32)), .val (.int (2 : Int32)), .val (.ref wSUBJECT_PREDICATE)] [(.ref wKINDS)])) _
    refine XS.iload X10.here hx rfl (hb hby own_d1_24) rfl ?_
    show Steps p.tables e below (T10.setTop (mkF m 26 #[.val (.int (1 : Int32)), .val (.int (1 : Int32)), .val (.int (1 : Int32)), .val (.ref wSUBJECT_PREDICATE_OBJECT), .val (.ref wKINDS), .val (.int (7 : Int32)), .val (.int (2 : Int32)), .val (.ref wSUBJECT_PREDICATE)] [(.int (2 : Int32)), (.ref wKINDS)])) _
    refine X10.aaload hx (j := (2 : Int32)) (v := (.ref wSUBJECT_OBJECT)) (by rw [e10]; exact Ar2.1) (State.isArrayOf_alike hZ.alike Ar2.2.1) rfl Ar2.2.2 hin11 hat11 (g := (mkF m 26 #[.val (.int (1 : Int32)), .val (.int (1 : Int32)), .val (.int (1 : Int32)), .val (.ref wSUBJECT_PREDICATE_OBJECT), .val (.ref wKINDS), .val (.int (7 : Int32)), .val (.int (2 : Int32)), .val (.ref wSUBJECT_PREDICATE)] [(.int (2 : Int32)), (.ref wKINDS)])) rfl rfl (hb hby own_d1_26) _ ?_
    show Steps p.tables e below (T10.setTop (mkF m 27 #[.val (.int (1 : Int32)), .val (.int (1 : Int32)), .val (.int (1 : Int32)), .val (.ref wSUBJECT_PREDICATE_OBJECT), .val (.ref wKINDS), .val (.int (7 : Int32)), .val (.int (2 : Int32)), .val (.ref wSUBJECT_PREDICATE)] [(.ref wSUBJECT_OBJECT)])) _
    refine XS.astore X10.here hx rfl (hb hby own_d1_27) rfl rfl (l' := #[.val (.int (1 : Int32)), .val (.int (1 : Int32)), .val (.int (1 : Int32)), .val (.ref wSUBJECT_PREDICATE_OBJECT), .val (.ref wKINDS), .val (.int (7 : Int32)), .val (.int (2 : Int32)), .val (.ref wSUBJECT_OBJECT)]) rfl ?_
    show Steps p.tables e below (T10.setTop (mkF m 29 #[.val (.int (1 : Int32)), .val (.int (1 : Int32)), .val (.int (1 : Int32)), .val (.ref wSUBJECT_PREDICATE_OBJECT), .val (.ref wKINDS), .val (.int (7 : Int32)), .val (.int (2 : Int32)), .val (.ref wSUBJECT_OBJECT)] [])) _
    refine XS.aload X10.here hx rfl (hb hby own_d1_29) rfl rfl ?_
    show Steps p.tables e below (T10.setTop (mkF m 31 #[.val (.int (1 : Int32)), .val (.int (1 : Int32)), .val (.int (1 : Int32)), .val (.ref wSUBJECT_PREDICATE_OBJECT), .val (.ref wKINDS), .val (.int (7 : Int32)), .val (.int (2 : Int32)), .val (.ref wSUBJECT_OBJECT)] [(.ref wSUBJECT_OBJECT)])) _
    refine st12 _ ?_
    show Steps p.tables e below (T12.setTop (mkF m 34 #[.val (.int (1 : Int32)), .val (.int (1 : Int32)), .val (.int (1 : Int32)), .val (.ref wSUBJECT_PREDICATE_OBJECT), .val (.ref wKINDS), .val (.int (7 : Int32)), .val (.int (2 : Int32)), .val (.ref wSUBJECT_OBJECT)] [(.int (1 : Int32))])) _
    refine XS.iloadN X12.here hx rfl (hb hby own_d1_34) rfl ?_
    show Steps p.tables e below (T12.setTop (mkF m 35 #[.val (.int (1 : Int32)), .val (.int (1 : Int32)), .val (.int (1 : Int32)), .val (.ref wSUBJECT_PREDICATE_OBJECT), .val (.ref wKINDS), .val (.int (7 : Int32)), .val (.int (2 : Int32)), .val (.ref wSUBJECT_OBJECT)] [(.int (1 : Int32)), (.int (1 : Int32))])) _
    refine XS.icmpNo X12.here hx rfl (hb hby own_d1_35) rfl (by decide) ?_
    show Steps p.tables e below (T12.setTop (mkF m 38 #[.val (.int (1 : Int32)), .val (.int (1 : Int32)), .val (.int (1 : Int32)), .val (.ref wSUBJECT_PREDICATE_OBJECT), .val (.ref wKINDS), .val (.int (7 : Int32)), .val (.int (2 : Int32)), .val (.ref wSUBJECT_OBJECT)] [])) _
    refine XS.aload X12.here hx rfl (hb hby own_d1_38) rfl rfl ?_
    show Steps p.tables e below (T12.setTop (mkF m 40 #[.val (.int (1 : Int32)), .val (.int (1 : Int32)), .val (.int (1 : Int32)), .val (.ref wSUBJECT_PREDICATE_OBJECT), .val (.ref wKINDS), .val (.int (7 : Int32)), .val (.int (2 : Int32)), .val (.ref wSUBJECT_OBJECT)] [(.ref wSUBJECT_OBJECT)])) _
    refine st13 _ ?_
    show Steps p.tables e below (T13.setTop (mkF m 43 #[.val (.int (1 : Int32)), .val (.int (1 : Int32)), .val (.int (1 : Int32)), .val (.ref wSUBJECT_PREDICATE_OBJECT), .val (.ref wKINDS), .val (.int (7 : Int32)), .val (.int (2 : Int32)), .val (.ref wSUBJECT_OBJECT)] [(.int (0 : Int32))])) _
    refine XS.iloadN X13.here hx rfl (hb hby own_d1_43) rfl ?_
    show Steps p.tables e below (T13.setTop (mkF m 44 #[.val (.int (1 : Int32)), .val (.int (1 : Int32)), .val (.int (1 : Int32)), .val (.ref wSUBJECT_PREDICATE_OBJECT), .val (.ref wKINDS), .val (.int (7 : Int32)), .val (.int (2 : Int32)), .val (.ref wSUBJECT_OBJECT)] [(.int (1 : Int32)), (.int (0 : Int32))])) _
    refine XS.icmpYes X13.here hx rfl (pc0 := 44) (pc' := 59) rfl (hb hby own_d1_44) rfl (by decide) (by decide) (by decide) ?_
    show Steps p.tables e below (T13.setTop (mkF m 59 #[.val (.int (1 : Int32)), .val (.int (1 : Int32)), .val (.int (1 : Int32)), .val (.ref wSUBJECT_PREDICATE_OBJECT), .val (.ref wKINDS), .val (.int (7 : Int32)), .val (.int (2 : Int32)), .val (.ref wSUBJECT_OBJECT)] [])) _
    refine XS.iinc X13.here hx rfl (hb hby own_d1_59) rfl (l' := #[.val (.int (1 : Int32)), .val (.int (1 : Int32)), .val (.int (1 : Int32)), .val (.ref wSUBJECT_PREDICATE_OBJECT), .val (.ref wKINDS), .val (.int (7 : Int32)), .val (.int (3 : Int32)), .val (.ref wSUBJECT_OBJECT)]) rfl ?_
    show Steps p.tables e below (T13.setTop (mkF m 62 #[.val (.int (1 : Int32)), .val (.int (1 : Int32)), .val (.int (1 : Int32)), .val (.ref wSUBJECT_PREDICATE_OBJECT), .val (.ref wKINDS), .val (.int (7 : Int32)), .val (.int (3 : Int32)), .val (.ref wSUBJECT_OBJECT)] [])) _
    refine XS.goto X13.here hx rfl (pc0 := 62) (pc' := 15) rfl (hb hby own_d1_62) (by decide) (by decide) ?_
    show Steps p.tables e below (T13.setTop (mkF m 15 #[.val (.int (1 : Int32)), .val (.int (1 : Int32)), .val (.int (1 : Int32)), .val (.ref wSUBJECT_PREDICATE_OBJECT), .val (.ref wKINDS), .val (.int (7 : Int32)), .val (.int (3 : Int32)), .val (.ref wSUBJECT_OBJECT)] [])) _
    refine XS.iload X13.here hx rfl (hb hby own_d1_15) rfl ?_
    show Steps p.tables e below (T13.setTop (mkF m 17 #[.val (.int (1 : Int32)), .val (.int (1 : Int32)), .val (.int (1 : Int32)), .val (.ref wSUBJECT_PREDICATE_OBJECT), .val (.ref wKINDS), .val (.int (7 : Int32)), .val (.int (3 : Int32)), .val (.ref wSUBJECT_OBJECT)] [(.int (3 : Int32))])) _
    refine XS.iload X13.here hx rfl (hb hby own_d1_17) rfl ?_
    show Steps p.tables e below (T13.setTop (mkF m 19 #[.val (.int (1 : Int32)), .val (.int (1 : Int32)), .val (.int (1 : Int32)), .val (.ref wSUBJECT_PREDICATE_OBJECT), .val (.ref wKINDS), .val (.int (7 : Int32)), .val (.int (3 : Int32)), .val (.ref wSUBJECT_OBJECT)] [(.int (7 : Int32)), (.int (3 : Int32))])) _
    refine XS.icmpNo X13.here hx rfl (hb hby own_d1_19) rfl (by decide) ?_
    show Steps p.tables e below (T13.setTop (mkF m 22 #[.val (.int (1 : Int32)), .val (.int (1 : Int32)), .val (.int (1 : Int32)), .val (.ref wSUBJECT_PREDICATE_OBJECT), .val (.ref wKINDS), .val (.int (7 : Int32)), .val (.int (3 : Int32)), .val (.ref wSUBJECT_OBJECT)] [])) _
    refine XS.aload X13.here hx rfl (hb hby own_d1_22) rfl rfl ?_
    show Steps p.tables e below (T13.setTop (mkF m 24 #[.val (.int (1 : Int32)), .val (.int (1 : Int32)), .val (.int (1 : Int32)), .val (.ref wSUBJECT_PREDICATE_OBJECT), .val (.ref wKINDS), .val (.int (7 : Int32)), .val (.int (3 : Int32)), .val (.ref wSUBJECT_OBJECT)] [(.ref wKINDS)])) _
    refine XS.iload X13.here hx rfl (hb hby own_d1_24) rfl ?_
    show Steps p.tables e below (T13.setTop (mkF m 26 #[.val (.int (1 : Int32)), .val (.int (1 : Int32)), .val (.int (1 : Int32)), .val (.ref wSUBJECT_PREDICATE_OBJECT), .val (.ref wKINDS), .val (.int (7 : Int32)), .val (.int (3 : Int32)), .val (.ref wSUBJECT_OBJECT)] [(.int (3 : Int32)), (.ref wKINDS)])) _
    refine X13.aaload hx (j := (3 : Int32)) (v := (.ref wPREDICATE_OBJECT)) (by rw [e13]; exact Ar2.1) (State.isArrayOf_alike hZ.alike Ar2.2.1) rfl Ar2.2.2 hin14 hat14 (g := (mkF m 26 #[.val (.int (1 : Int32)), .val (.int (1 : Int32)), .val (.int (1 : Int32)), .val (.ref wSUBJECT_PREDICATE_OBJECT), .val (.ref wKINDS), .val (.int (7 : Int32)), .val (.int (3 : Int32)), .val (.ref wSUBJECT_OBJECT)] [(.int (3 : Int32)), (.ref wKINDS)])) rfl rfl (hb hby own_d1_26) _ ?_
    show Steps p.tables e below (T13.setTop (mkF m 27 #[.val (.int (1 : Int32)), .val (.int (1 : Int32)), .val (.int (1 : Int32)), .val (.ref wSUBJECT_PREDICATE_OBJECT), .val (.ref wKINDS), .val (.int (7 : Int32)), .val (.int (3 : Int32)), .val (.ref wSUBJECT_OBJECT)] [(.ref wPREDICATE_OBJECT)])) _
    refine XS.astore X13.here hx rfl (hb hby own_d1_27) rfl rfl (l' := #[.val (.int (1 : Int32)), .val (.int (1 : Int32)), .val (.int (1 : Int32)), .val (.ref wSUBJECT_PREDICATE_OBJECT), .val (.ref wKINDS), .val (.int (7 : Int32)), .val (.int (3 : Int32)), .val (.ref wPREDICATE_OBJECT)]) rfl ?_
    show Steps p.tables e below (T13.setTop (mkF m 29 #[.val (.int (1 : Int32)), .val (.int (1 : Int32)), .val (.int (1 : Int32)), .val (.ref wSUBJECT_PREDICATE_OBJECT), .val (.ref wKINDS), .val (.int (7 : Int32)), .val (.int (3 : Int32)), .val (.ref wPREDICATE_OBJECT)] [])) _
    refine XS.aload X13.here hx rfl (hb hby own_d1_29) rfl rfl ?_
    show Steps p.tables e below (T13.setTop (mkF m 31 #[.val (.int (1 : Int32)), .val (.int (1 : Int32)), .val (.int (1 : Int32)), .val (.ref wSUBJECT_PREDICATE_OBJECT), .val (.ref wKINDS), .val (.int (7 : Int32)), .val (.int (3 : Int32)), .val (.ref wPREDICATE_OBJECT)] [(.ref wPREDICATE_OBJECT)])) _
    refine st15 _ ?_
    show Steps p.tables e below (T15.setTop (mkF m 34 #[.val (.int (1 : Int32)), .val (.int (1 : Int32)), .val (.int (1 : Int32)), .val (.ref wSUBJECT_PREDICATE_OBJECT), .val (.ref wKINDS), .val (.int (7 : Int32)), .val (.int (3 : Int32)), .val (.ref wPREDICATE_OBJECT)] [(.int (0 : Int32))])) _
    refine XS.iloadN X15.here hx rfl (hb hby own_d1_34) rfl ?_
    show Steps p.tables e below (T15.setTop (mkF m 35 #[.val (.int (1 : Int32)), .val (.int (1 : Int32)), .val (.int (1 : Int32)), .val (.ref wSUBJECT_PREDICATE_OBJECT), .val (.ref wKINDS), .val (.int (7 : Int32)), .val (.int (3 : Int32)), .val (.ref wPREDICATE_OBJECT)] [(.int (1 : Int32)), (.int (0 : Int32))])) _
    refine XS.icmpYes X15.here hx rfl (pc0 := 35) (pc' := 59) rfl (hb hby own_d1_35) rfl (by decide) (by decide) (by decide) ?_
    show Steps p.tables e below (T15.setTop (mkF m 59 #[.val (.int (1 : Int32)), .val (.int (1 : Int32)), .val (.int (1 : Int32)), .val (.ref wSUBJECT_PREDICATE_OBJECT), .val (.ref wKINDS), .val (.int (7 : Int32)), .val (.int (3 : Int32)), .val (.ref wPREDICATE_OBJECT)] [])) _
    refine XS.iinc X15.here hx rfl (hb hby own_d1_59) rfl (l' := #[.val (.int (1 : Int32)), .val (.int (1 : Int32)), .val (.int (1 : Int32)), .val (.ref wSUBJECT_PREDICATE_OBJECT), .val (.ref wKINDS), .val (.int (7 : Int32)), .val (.int (4 : Int32)), .val (.ref wPREDICATE_OBJECT)]) rfl ?_
    show Steps p.tables e below (T15.setTop (mkF m 62 #[.val (.int (1 : Int32)), .val (.int (1 : Int32)), .val (.int (1 : Int32)), .val (.ref wSUBJECT_PREDICATE_OBJECT), .val (.ref wKINDS), .val (.int (7 : Int32)), .val (.int (4 : Int32)), .val (.ref wPREDICATE_OBJECT)] [])) _
    refine XS.goto X15.here hx rfl (pc0 := 62) (pc' := 15) rfl (hb hby own_d1_62) (by decide) (by decide) ?_
    show Steps p.tables e below (T15.setTop (mkF m 15 #[.val (.int (1 : Int32)), .val (.int (1 : Int32)), .val (.int (1 : Int32)), .val (.ref wSUBJECT_PREDICATE_OBJECT), .val (.ref wKINDS), .val (.int (7 : Int32)), .val (.int (4 : Int32)), .val (.ref wPREDICATE_OBJECT)] [])) _
    refine XS.iload X15.here hx rfl (hb hby own_d1_15) rfl ?_
    show Steps p.tables e below (T15.setTop (mkF m 17 #[.val (.int (1 : Int32)), .val (.int (1 : Int32)), .val (.int (1 : Int32)), .val (.ref wSUBJECT_PREDICATE_OBJECT), .val (.ref wKINDS), .val (.int (7 : Int32)), .val (.int (4 : Int32)), .val (.ref wPREDICATE_OBJECT)] [(.int (4 : Int32))])) _
    refine XS.iload X15.here hx rfl (hb hby own_d1_17) rfl ?_
    show Steps p.tables e below (T15.setTop (mkF m 19 #[.val (.int (1 : Int32)), .val (.int (1 : Int32)), .val (.int (1 : Int32)), .val (.ref wSUBJECT_PREDICATE_OBJECT), .val (.ref wKINDS), .val (.int (7 : Int32)), .val (.int (4 : Int32)), .val (.ref wPREDICATE_OBJECT)] [(.int (7 : Int32)), (.int (4 : Int32))])) _
    refine XS.icmpNo X15.here hx rfl (hb hby own_d1_19) rfl (by decide) ?_
    show Steps p.tables e below (T15.setTop (mkF m 22 #[.val (.int (1 : Int32)), .val (.int (1 : Int32)), .val (.int (1 : Int32)), .val (.ref wSUBJECT_PREDICATE_OBJECT), .val (.ref wKINDS), .val (.int (7 : Int32)), .val (.int (4 : Int32)), .val (.ref wPREDICATE_OBJECT)] [])) _
    refine XS.aload X15.here hx rfl (hb hby own_d1_22) rfl rfl ?_
    show Steps p.tables e below (T15.setTop (mkF m 24 #[.val (.int (1 : Int32)), .val (.int (1 : Int32)), .val (.int (1 : Int32)), .val (.ref wSUBJECT_PREDICATE_OBJECT), .val (.ref wKINDS), .val (.int (7 : Int32)), .val (.int (4 : Int32)), .val (.ref wPREDICATE_OBJECT)] [(.ref wKINDS)])) _
    refine XS.iload X15.here hx rfl (hb hby own_d1_24) rfl ?_
    show Steps p.tables e below (T15.setTop (mkF m 26 #[.val (.int (1 : Int32)), .val (.int (1 : Int32)), .val (.int (1 : Int32)), .val (.ref wSUBJECT_PREDICATE_OBJECT), .val (.ref wKINDS), .val (.int (7 : Int32)), .val (.int (4 : Int32)), .val (.ref wPREDICATE_OBJECT)] [(.int (4 : Int32)), (.ref wKINDS)])) _
    refine X15.aaload hx (j := (4 : Int32)) (v := (.ref wSUBJECT)) (by rw [e15]; exact Ar2.1) (State.isArrayOf_alike hZ.alike Ar2.2.1) rfl Ar2.2.2 hin16 hat16 (g := (mkF m 26 #[.val (.int (1 : Int32)), .val (.int (1 : Int32)), .val (.int (1 : Int32)), .val (.ref wSUBJECT_PREDICATE_OBJECT), .val (.ref wKINDS), .val (.int (7 : Int32)), .val (.int (4 : Int32)), .val (.ref wPREDICATE_OBJECT)] [(.int (4 : Int32)), (.ref wKINDS)])) rfl rfl (hb hby own_d1_26) _ ?_
    show Steps p.tables e below (T15.setTop (mkF m 27 #[.val (.int (1 : Int32)), .val (.int (1 : Int32)), .val (.int (1 : Int32)), .val (.ref wSUBJECT_PREDICATE_OBJECT), .val (.ref wKINDS), .val (.int (7 : Int32)), .val (.int (4 : Int32)), .val (.ref wPREDICATE_OBJECT)] [(.ref wSUBJECT)])) _
    refine XS.astore X15.here hx rfl (hb hby own_d1_27) rfl rfl (l' := #[.val (.int (1 : Int32)), .val (.int (1 : Int32)), .val (.int (1 : Int32)), .val (.ref wSUBJECT_PREDICATE_OBJECT), .val (.ref wKINDS), .val (.int (7 : Int32)), .val (.int (4 : Int32)), .val (.ref wSUBJECT)]) rfl ?_
    show Steps p.tables e below (T15.setTop (mkF m 29 #[.val (.int (1 : Int32)), .val (.int (1 : Int32)), .val (.int (1 : Int32)), .val (.ref wSUBJECT_PREDICATE_OBJECT), .val (.ref wKINDS), .val (.int (7 : Int32)), .val (.int (4 : Int32)), .val (.ref wSUBJECT)] [])) _
    refine XS.aload X15.here hx rfl (hb hby own_d1_29) rfl rfl ?_
    show Steps p.tables e below (T15.setTop (mkF m 31 #[.val (.int (1 : Int32)), .val (.int (1 : Int32)), .val (.int (1 : Int32)), .val (.ref wSUBJECT_PREDICATE_OBJECT), .val (.ref wKINDS), .val (.int (7 : Int32)), .val (.int (4 : Int32)), .val (.ref wSUBJECT)] [(.ref wSUBJECT)])) _
    refine st17 _ ?_
    show Steps p.tables e below (T17.setTop (mkF m 34 #[.val (.int (1 : Int32)), .val (.int (1 : Int32)), .val (.int (1 : Int32)), .val (.ref wSUBJECT_PREDICATE_OBJECT), .val (.ref wKINDS), .val (.int (7 : Int32)), .val (.int (4 : Int32)), .val (.ref wSUBJECT)] [(.int (1 : Int32))])) _
    refine XS.iloadN X17.here hx rfl (hb hby own_d1_34) rfl ?_
    show Steps p.tables e below (T17.setTop (mkF m 35 #[.val (.int (1 : Int32)), .val (.int (1 : Int32)), .val (.int (1 : Int32)), .val (.ref wSUBJECT_PREDICATE_OBJECT), .val (.ref wKINDS), .val (.int (7 : Int32)), .val (.int (4 : Int32)), .val (.ref wSUBJECT)] [(.int (1 : Int32)), (.int (1 : Int32))])) _
    refine XS.icmpNo X17.here hx rfl (hb hby own_d1_35) rfl (by decide) ?_
    show Steps p.tables e below (T17.setTop (mkF m 38 #[.val (.int (1 : Int32)), .val (.int (1 : Int32)), .val (.int (1 : Int32)), .val (.ref wSUBJECT_PREDICATE_OBJECT), .val (.ref wKINDS), .val (.int (7 : Int32)), .val (.int (4 : Int32)), .val (.ref wSUBJECT)] [])) _
    refine XS.aload X17.here hx rfl (hb hby own_d1_38) rfl rfl ?_
    show Steps p.tables e below (T17.setTop (mkF m 40 #[.val (.int (1 : Int32)), .val (.int (1 : Int32)), .val (.int (1 : Int32)), .val (.ref wSUBJECT_PREDICATE_OBJECT), .val (.ref wKINDS), .val (.int (7 : Int32)), .val (.int (4 : Int32)), .val (.ref wSUBJECT)] [(.ref wSUBJECT)])) _
    refine st18 _ ?_
    show Steps p.tables e below (T18.setTop (mkF m 43 #[.val (.int (1 : Int32)), .val (.int (1 : Int32)), .val (.int (1 : Int32)), .val (.ref wSUBJECT_PREDICATE_OBJECT), .val (.ref wKINDS), .val (.int (7 : Int32)), .val (.int (4 : Int32)), .val (.ref wSUBJECT)] [(.int (0 : Int32))])) _
    refine XS.iloadN X18.here hx rfl (hb hby own_d1_43) rfl ?_
    show Steps p.tables e below (T18.setTop (mkF m 44 #[.val (.int (1 : Int32)), .val (.int (1 : Int32)), .val (.int (1 : Int32)), .val (.ref wSUBJECT_PREDICATE_OBJECT), .val (.ref wKINDS), .val (.int (7 : Int32)), .val (.int (4 : Int32)), .val (.ref wSUBJECT)] [(.int (1 : Int32)), (.int (0 : Int32))])) _
    refine XS.icmpYes X18.here hx rfl (pc0 := 44) (pc' := 59) rfl (hb hby own_d1_44) rfl (by decide) (by decide) (by decide) ?_
    show Steps p.tables e below (T18.setTop (mkF m 59 #[.val (.int (1 : Int32)), .val (.int (1 : Int32)), .val (.int (1 : Int32)), .val (.ref wSUBJECT_PREDICATE_OBJECT), .val (.ref wKINDS), .val (.int (7 : Int32)), .val (.int (4 : Int32)), .val (.ref wSUBJECT)] [])) _
    refine XS.iinc X18.here hx rfl (hb hby own_d1_59) rfl (l' := #[.val (.int (1 : Int32)), .val (.int (1 : Int32)), .val (.int (1 : Int32)), .val (.ref wSUBJECT_PREDICATE_OBJECT), .val (.ref wKINDS), .val (.int (7 : Int32)), .val (.int (5 : Int32)), .val (.ref wSUBJECT)]) rfl ?_
    show Steps p.tables e below (T18.setTop (mkF m 62 #[.val (.int (1 : Int32)), .val (.int (1 : Int32)), .val (.int (1 : Int32)), .val (.ref wSUBJECT_PREDICATE_OBJECT), .val (.ref wKINDS), .val (.int (7 : Int32)), .val (.int (5 : Int32)), .val (.ref wSUBJECT)] [])) _
    refine XS.goto X18.here hx rfl (pc0 := 62) (pc' := 15) rfl (hb hby own_d1_62) (by decide) (by decide) ?_
    show Steps p.tables e below (T18.setTop (mkF m 15 #[.val (.int (1 : Int32)), .val (.int (1 : Int32)), .val (.int (1 : Int32)), .val (.ref wSUBJECT_PREDICATE_OBJECT), .val (.ref wKINDS), .val (.int (7 : Int32)), .val (.int (5 : Int32)), .val (.ref wSUBJECT)] [])) _
    refine XS.iload X18.here hx rfl (hb hby own_d1_15) rfl ?_
    show Steps p.tables e below (T18.setTop (mkF m 17 #[.val (.int (1 : Int32)), .val (.int (1 : Int32)), .val (.int (1 : Int32)), .val (.ref wSUBJECT_PREDICATE_OBJECT), .val (.ref wKINDS), .val (.int (7 : Int32)), .val (.int (5 : Int32)), .val (.ref wSUBJECT)] [(.int (5 : Int32))])) _
    refine XS.iload X18.here hx rfl (hb hby own_d1_17) rfl ?_
    show Steps p.tables e below (T18.setTop (mkF m 19 #[.val (.int (1 : Int32)), .val (.int (1 : Int32)), .val (.int (1 : Int32)), .val (.ref wSUBJECT_PREDICATE_OBJECT), .val (.ref wKINDS), .val (.int (7 : Int32)), .val (.int (5 : Int32)), .val (.ref wSUBJECT)] [(.int (7 : Int32)), (.int (5 : Int32))])) _
    refine XS.icmpNo X18.here hx rfl (hb hby own_d1_19) rfl (by decide) ?_
    show Steps p.tables e below (T18.setTop (mkF m 22 #[.val (.int (1 : Int32)), .val (.int (1 : Int32)), .val (.int (1 : Int32)), .val (.ref wSUBJECT_PREDICATE_OBJECT), .val (.ref wKINDS), .val (.int (7 : Int32)), .val (.int (5 : Int32)), .val (.ref wSUBJECT)] [])) _
    refine XS.aload X18.here hx rfl (hb hby own_d1_22) rfl rfl ?_
    show Steps p.tables e below (T18.setTop (mkF m 24 #[.val (.int (1 : Int32)), .val (.int (1 : Int32)), .val (.int (1 : Int32)), .val (.ref wSUBJECT_PREDICATE_OBJECT), .val (.ref wKINDS), .val (.int (7 : Int32)), .val (.int (5 : Int32)), .val (.ref wSUBJECT)] [(.ref wKINDS)])) _
    refine XS.iload X18.here hx rfl (hb hby own_d1_24) rfl ?_
    show Steps p.tables e below (T18.setTop (mkF m 26 #[.val (.int (1 : Int32)), .val (.int (1 : Int32)), .val (.int (1 : Int32)), .val (.ref wSUBJECT_PREDICATE_OBJECT), .val (.ref wKINDS), .val (.int (7 : Int32)), .val (.int (5 : Int32)), .val (.ref wSUBJECT)] [(.int (5 : Int32)), (.ref wKINDS)])) _
    refine X18.aaload hx (j := (5 : Int32)) (v := (.ref wPREDICATE)) (by rw [e18]; exact Ar2.1) (State.isArrayOf_alike hZ.alike Ar2.2.1) rfl Ar2.2.2 hin19 hat19 (g := (mkF m 26 #[.val (.int (1 : Int32)), .val (.int (1 : Int32)), .val (.int (1 : Int32)), .val (.ref wSUBJECT_PREDICATE_OBJECT), .val (.ref wKINDS), .val (.int (7 : Int32)), .val (.int (5 : Int32)), .val (.ref wSUBJECT)] [(.int (5 : Int32)), (.ref wKINDS)])) rfl rfl (hb hby own_d1_26) _ ?_
    show Steps p.tables e below (T18.setTop (mkF m 27 #[.val (.int (1 : Int32)), .val (.int (1 : Int32)), .val (.int (1 : Int32)), .val (.ref wSUBJECT_PREDICATE_OBJECT), .val (.ref wKINDS), .val (.int (7 : Int32)), .val (.int (5 : Int32)), .val (.ref wSUBJECT)] [(.ref wPREDICATE)])) _
    refine XS.astore X18.here hx rfl (hb hby own_d1_27) rfl rfl (l' := #[.val (.int (1 : Int32)), .val (.int (1 : Int32)), .val (.int (1 : Int32)), .val (.ref wSUBJECT_PREDICATE_OBJECT), .val (.ref wKINDS), .val (.int (7 : Int32)), .val (.int (5 : Int32)), .val (.ref wPREDICATE)]) rfl ?_
    show Steps p.tables e below (T18.setTop (mkF m 29 #[.val (.int (1 : Int32)), .val (.int (1 : Int32)), .val (.int (1 : Int32)), .val (.ref wSUBJECT_PREDICATE_OBJECT), .val (.ref wKINDS), .val (.int (7 : Int32)), .val (.int (5 : Int32)), .val (.ref wPREDICATE)] [])) _
    refine XS.aload X18.here hx rfl (hb hby own_d1_29) rfl rfl ?_
    show Steps p.tables e below (T18.setTop (mkF m 31 #[.val (.int (1 : Int32)), .val (.int (1 : Int32)), .val (.int (1 : Int32)), .val (.ref wSUBJECT_PREDICATE_OBJECT), .val (.ref wKINDS), .val (.int (7 : Int32)), .val (.int (5 : Int32)), .val (.ref wPREDICATE)] [(.ref wPREDICATE)])) _
    refine st20 _ ?_
    show Steps p.tables e below (T20.setTop (mkF m 34 #[.val (.int (1 : Int32)), .val (.int (1 : Int32)), .val (.int (1 : Int32)), .val (.ref wSUBJECT_PREDICATE_OBJECT), .val (.ref wKINDS), .val (.int (7 : Int32)), .val (.int (5 : Int32)), .val (.ref wPREDICATE)] [(.int (0 : Int32))])) _
    refine XS.iloadN X20.here hx rfl (hb hby own_d1_34) rfl ?_
    show Steps p.tables e below (T20.setTop (mkF m 35 #[.val (.int (1 : Int32)), .val (.int (1 : Int32)), .val (.int (1 : Int32)), .val (.ref wSUBJECT_PREDICATE_OBJECT), .val (.ref wKINDS), .val (.int (7 : Int32)), .val (.int (5 : Int32)), .val (.ref wPREDICATE)] [(.int (1 : Int32)), (.int (0 : Int32))])) _
    refine XS.icmpYes X20.here hx rfl (pc0 := 35) (pc' := 59) rfl (hb hby own_d1_35) rfl (by decide) (by decide) (by decide) ?_
    show Steps p.tables e below (T20.setTop (mkF m 59 #[.val (.int (1 : Int32)), .val (.int (1 : Int32)), .val (.int (1 : Int32)), .val (.ref wSUBJECT_PREDICATE_OBJECT), .val (.ref wKINDS), .val (.int (7 : Int32)), .val (.int (5 : Int32)), .val (.ref wPREDICATE)] [])) _
    refine XS.iinc X20.here hx rfl (hb hby own_d1_59) rfl (l' := #[.val (.int (1 : Int32)), .val (.int (1 : Int32)), .val (.int (1 : Int32)), .val (.ref wSUBJECT_PREDICATE_OBJECT), .val (.ref wKINDS), .val (.int (7 : Int32)), .val (.int (6 : Int32)), .val (.ref wPREDICATE)]) rfl ?_
    show Steps p.tables e below (T20.setTop (mkF m 62 #[.val (.int (1 : Int32)), .val (.int (1 : Int32)), .val (.int (1 : Int32)), .val (.ref wSUBJECT_PREDICATE_OBJECT), .val (.ref wKINDS), .val (.int (7 : Int32)), .val (.int (6 : Int32)), .val (.ref wPREDICATE)] [])) _
    refine XS.goto X20.here hx rfl (pc0 := 62) (pc' := 15) rfl (hb hby own_d1_62) (by decide) (by decide) ?_
    show Steps p.tables e below (T20.setTop (mkF m 15 #[.val (.int (1 : Int32)), .val (.int (1 : Int32)), .val (.int (1 : Int32)), .val (.ref wSUBJECT_PREDICATE_OBJECT), .val (.ref wKINDS), .val (.int (7 : Int32)), .val (.int (6 : Int32)), .val (.ref wPREDICATE)] [])) _
    refine XS.iload X20.here hx rfl (hb hby own_d1_15) rfl ?_
    show Steps p.tables e below (T20.setTop (mkF m 17 #[.val (.int (1 : Int32)), .val (.int (1 : Int32)), .val (.int (1 : Int32)), .val (.ref wSUBJECT_PREDICATE_OBJECT), .val (.ref wKINDS), .val (.int (7 : Int32)), .val (.int (6 : Int32)), .val (.ref wPREDICATE)] [(.int (6 : Int32))])) _
    refine XS.iload X20.here hx rfl (hb hby own_d1_17) rfl ?_
    show Steps p.tables e below (T20.setTop (mkF m 19 #[.val (.int (1 : Int32)), .val (.int (1 : Int32)), .val (.int (1 : Int32)), .val (.ref wSUBJECT_PREDICATE_OBJECT), .val (.ref wKINDS), .val (.int (7 : Int32)), .val (.int (6 : Int32)), .val (.ref wPREDICATE)] [(.int (7 : Int32)), (.int (6 : Int32))])) _
    refine XS.icmpNo X20.here hx rfl (hb hby own_d1_19) rfl (by decide) ?_
    show Steps p.tables e below (T20.setTop (mkF m 22 #[.val (.int (1 : Int32)), .val (.int (1 : Int32)), .val (.int (1 : Int32)), .val (.ref wSUBJECT_PREDICATE_OBJECT), .val (.ref wKINDS), .val (.int (7 : Int32)), .val (.int (6 : Int32)), .val (.ref wPREDICATE)] [])) _
    refine XS.aload X20.here hx rfl (hb hby own_d1_22) rfl rfl ?_
    show Steps p.tables e below (T20.setTop (mkF m 24 #[.val (.int (1 : Int32)), .val (.int (1 : Int32)), .val (.int (1 : Int32)), .val (.ref wSUBJECT_PREDICATE_OBJECT), .val (.ref wKINDS), .val (.int (7 : Int32)), .val (.int (6 : Int32)), .val (.ref wPREDICATE)] [(.ref wKINDS)])) _
    refine XS.iload X20.here hx rfl (hb hby own_d1_24) rfl ?_
    show Steps p.tables e below (T20.setTop (mkF m 26 #[.val (.int (1 : Int32)), .val (.int (1 : Int32)), .val (.int (1 : Int32)), .val (.ref wSUBJECT_PREDICATE_OBJECT), .val (.ref wKINDS), .val (.int (7 : Int32)), .val (.int (6 : Int32)), .val (.ref wPREDICATE)] [(.int (6 : Int32)), (.ref wKINDS)])) _
    refine X20.aaload hx (j := (6 : Int32)) (v := (.ref wOBJECT)) (by rw [e20]; exact Ar2.1) (State.isArrayOf_alike hZ.alike Ar2.2.1) rfl Ar2.2.2 hin21 hat21 (g := (mkF m 26 #[.val (.int (1 : Int32)), .val (.int (1 : Int32)), .val (.int (1 : Int32)), .val (.ref wSUBJECT_PREDICATE_OBJECT), .val (.ref wKINDS), .val (.int (7 : Int32)), .val (.int (6 : Int32)), .val (.ref wPREDICATE)] [(.int (6 : Int32)), (.ref wKINDS)])) rfl rfl (hb hby own_d1_26) _ ?_
    show Steps p.tables e below (T20.setTop (mkF m 27 #[.val (.int (1 : Int32)), .val (.int (1 : Int32)), .val (.int (1 : Int32)), .val (.ref wSUBJECT_PREDICATE_OBJECT), .val (.ref wKINDS), .val (.int (7 : Int32)), .val (.int (6 : Int32)), .val (.ref wPREDICATE)] [(.ref wOBJECT)])) _
    refine XS.astore X20.here hx rfl (hb hby own_d1_27) rfl rfl (l' := #[.val (.int (1 : Int32)), .val (.int (1 : Int32)), .val (.int (1 : Int32)), .val (.ref wSUBJECT_PREDICATE_OBJECT), .val (.ref wKINDS), .val (.int (7 : Int32)), .val (.int (6 : Int32)), .val (.ref wOBJECT)]) rfl ?_
    show Steps p.tables e below (T20.setTop (mkF m 29 #[.val (.int (1 : Int32)), .val (.int (1 : Int32)), .val (.int (1 : Int32)), .val (.ref wSUBJECT_PREDICATE_OBJECT), .val (.ref wKINDS), .val (.int (7 : Int32)), .val (.int (6 : Int32)), .val (.ref wOBJECT)] [])) _
    refine XS.aload X20.here hx rfl (hb hby own_d1_29) rfl rfl ?_
    show Steps p.tables e below (T20.setTop (mkF m 31 #[.val (.int (1 : Int32)), .val (.int (1 : Int32)), .val (.int (1 : Int32)), .val (.ref wSUBJECT_PREDICATE_OBJECT), .val (.ref wKINDS), .val (.int (7 : Int32)), .val (.int (6 : Int32)), .val (.ref wOBJECT)] [(.ref wOBJECT)])) _
    refine st22 _ ?_
    show Steps p.tables e below (T22.setTop (mkF m 34 #[.val (.int (1 : Int32)), .val (.int (1 : Int32)), .val (.int (1 : Int32)), .val (.ref wSUBJECT_PREDICATE_OBJECT), .val (.ref wKINDS), .val (.int (7 : Int32)), .val (.int (6 : Int32)), .val (.ref wOBJECT)] [(.int (0 : Int32))])) _
    refine XS.iloadN X22.here hx rfl (hb hby own_d1_34) rfl ?_
    show Steps p.tables e below (T22.setTop (mkF m 35 #[.val (.int (1 : Int32)), .val (.int (1 : Int32)), .val (.int (1 : Int32)), .val (.ref wSUBJECT_PREDICATE_OBJECT), .val (.ref wKINDS), .val (.int (7 : Int32)), .val (.int (6 : Int32)), .val (.ref wOBJECT)] [(.int (1 : Int32)), (.int (0 : Int32))])) _
    refine XS.icmpYes X22.here hx rfl (pc0 := 35) (pc' := 59) rfl (hb hby own_d1_35) rfl (by decide) (by decide) (by decide) ?_
    show Steps p.tables e below (T22.setTop (mkF m 59 #[.val (.int (1 : Int32)), .val (.int (1 : Int32)), .val (.int (1 : Int32)), .val (.ref wSUBJECT_PREDICATE_OBJECT), .val (.ref wKINDS), .val (.int (7 : Int32)), .val (.int (6 : Int32)), .val (.ref wOBJECT)] [])) _
    refine XS.iinc X22.here hx rfl (hb hby own_d1_59) rfl (l' := #[.val (.int (1 : Int32)), .val (.int (1 : Int32)), .val (.int (1 : Int32)), .val (.ref wSUBJECT_PREDICATE_OBJECT), .val (.ref wKINDS), .val (.int (7 : Int32)), .val (.int (7 : Int32)), .val (.ref wOBJECT)]) rfl ?_
    show Steps p.tables e below (T22.setTop (mkF m 62 #[.val (.int (1 : Int32)), .val (.int (1 : Int32)), .val (.int (1 : Int32)), .val (.ref wSUBJECT_PREDICATE_OBJECT), .val (.ref wKINDS), .val (.int (7 : Int32)), .val (.int (7 : Int32)), .val (.ref wOBJECT)] [])) _
    refine XS.goto X22.here hx rfl (pc0 := 62) (pc' := 15) rfl (hb hby own_d1_62) (by decide) (by decide) ?_
    show Steps p.tables e below (T22.setTop (mkF m 15 #[.val (.int (1 : Int32)), .val (.int (1 : Int32)), .val (.int (1 : Int32)), .val (.ref wSUBJECT_PREDICATE_OBJECT), .val (.ref wKINDS), .val (.int (7 : Int32)), .val (.int (7 : Int32)), .val (.ref wOBJECT)] [])) _
    refine XS.iload X22.here hx rfl (hb hby own_d1_15) rfl ?_
    show Steps p.tables e below (T22.setTop (mkF m 17 #[.val (.int (1 : Int32)), .val (.int (1 : Int32)), .val (.int (1 : Int32)), .val (.ref wSUBJECT_PREDICATE_OBJECT), .val (.ref wKINDS), .val (.int (7 : Int32)), .val (.int (7 : Int32)), .val (.ref wOBJECT)] [(.int (7 : Int32))])) _
    refine XS.iload X22.here hx rfl (hb hby own_d1_17) rfl ?_
    show Steps p.tables e below (T22.setTop (mkF m 19 #[.val (.int (1 : Int32)), .val (.int (1 : Int32)), .val (.int (1 : Int32)), .val (.ref wSUBJECT_PREDICATE_OBJECT), .val (.ref wKINDS), .val (.int (7 : Int32)), .val (.int (7 : Int32)), .val (.ref wOBJECT)] [(.int (7 : Int32)), (.int (7 : Int32))])) _
    refine XS.icmpYes X22.here hx rfl (pc0 := 19) (pc' := 65) rfl (hb hby own_d1_19) rfl (by decide) (by decide) (by decide) ?_
    show Steps p.tables e below (T22.setTop (mkF m 65 #[.val (.int (1 : Int32)), .val (.int (1 : Int32)), .val (.int (1 : Int32)), .val (.ref wSUBJECT_PREDICATE_OBJECT), .val (.ref wKINDS), .val (.int (7 : Int32)), .val (.int (7 : Int32)), .val (.ref wOBJECT)] [])) _
    refine XS.aloadN X22.here hx rfl (hb hby own_d1_65) rfl rfl ?_
    show Steps p.tables e below (T22.setTop (mkF m 66 #[.val (.int (1 : Int32)), .val (.int (1 : Int32)), .val (.int (1 : Int32)), .val (.ref wSUBJECT_PREDICATE_OBJECT), .val (.ref wKINDS), .val (.int (7 : Int32)), .val (.int (7 : Int32)), .val (.ref wOBJECT)] [(.ref wSUBJECT_PREDICATE_OBJECT)])) _
    jvm_step X22.here [X22.here.top, hx, (hb hby own_d1_66), X22.method', Bd.returns, Value.isRef, FieldType.isReference]
    first | (intro acts; rw [hr _ acts rfl rfl rfl]) | rw [hr _ _ rfl rfl rfl]
    exact Steps.refl _
  · show OwnQ _ h0 n0 _ T22.heap _
    exact ⟨rfl, N0, e22⟩
theorem own_d2_12 : decode method_2_code 12 = .ok (.getstatic 7, 3) := by decide +kernel
theorem own_d2_15 : decode method_2_code 15 = .ok (.areturn, 1) := by decide +kernel
set_option maxRecDepth 65536 in
set_option maxHeartbeats 40000000 in
theorem own_expected_15 (l : Launch) (Z : State) (a0 : Array Value) (hw : ∀ d ∈ tables_1, d.before a0 Z = true) (ws : List Jvm.Cond) (wKINDS : Addr) (wSUBJECT_PREDICATE_OBJECT : Addr) (wSUBJECT_PREDICATE : Addr) (wSUBJECT_OBJECT : Addr) (wPREDICATE_OBJECT : Addr) (wSUBJECT : Addr) (wPREDICATE : Addr) (wOBJECT : Addr) (kKINDS : ClassId) (G : OwnG Z wKINDS wSUBJECT_PREDICATE_OBJECT wSUBJECT_PREDICATE wSUBJECT_OBJECT wPREDICATE_OBJECT wSUBJECT wPREDICATE wOBJECT kKINDS) (h0 : Heap) (n0 : Nat) (O0 : Old Z n0 h0) :
    MetFree l (⟨"com/example/quadrille/quadrille/graphfilter/PatternKindKeepingPinLaw", "expected", "(ZZZ)Lcom/example/quadrille/quadrille/graphfilter/PatternKind;"⟩ : MethodName) (head1 (Jvm.Cond.code (⟨"com/example/quadrille/quadrille/graphfilter/PatternKindKeepingPinLaw", "expected", "(ZZZ)Lcom/example/quadrille/quadrille/graphfilter/PatternKind;"⟩ : MethodName) method_2_code 3 (some (.object "com/example/quadrille/quadrille/graphfilter/PatternKind")) :: ws) ({ frames := 0, cells := 0, slots := 0, locals := 0 } : Room)) (fun a U => a = #[(.int (1 : Int32)), (.int (1 : Int32)), (.int (1 : Int32))] ∧ Z.Warmed39 U.vm ∧ U.heap = h0) (fun _ _ _ _ _ => True) (fun _ U o U' => ∃ v L, o = .returned v ∧ OwnQ (some (.ref wSUBJECT_PREDICATE_OBJECT)) h0 n0 v U'.heap L ∧ FrameEnd U o U' L ({ frames := 0, cells := 0, slots := 0, locals := 0 } : Room).cells ({ frames := 0, cells := 0, slots := 0, locals := 0 } : Room).slots) := by
  refine MetFree.of_bodySF (plainFor_of_name own_pn_0) hisR ?_
  intro p e s m args below meth c s₁ Bd hml0 hP hK
  obtain ⟨rfl, hZ, hh⟩ := hP
  have hx := Bd.exec
  have hby := Bd.bytes
  have hml : c.maxLocals = 3 := hml0
  have hown : s.vm.findClass "com/example/quadrille/quadrille/graphfilter/PatternKindKeepingPinLaw" = some m.cls := findClass_of_methodNamed Bd.named
  have hnm := (name_of_methodNamed Bd.named Bd.method).1
  have X0 : Stand p l e ({ frames := 0, cells := 0, slots := 0, locals := 0 } : Room) s m #[(.int (1 : Int32)), (.int (1 : Int32)), (.int (1 : Int32))] below meth c s₁ [] 0 0 := Stand.of_body Bd
  have e0 : s₁.heap = h0 := by rw [← hh, Bd.state]; rfl
  have N0 := Fr.nil n0
  have pre0 : ∀ t, Steps p.tables e below (s₁.setTop (mkF m 0 #[.val (.int (1 : Int32)), .val (.int (1 : Int32)), .val (.int (1 : Int32))] [])) t → Steps p.tables e below (s₁.setTop (entryFrame m #[(.int (1 : Int32)), (.int (1 : Int32)), (.int (1 : Int32))] 3)) t := fun t k => castTop (own_ef_2_III m (1 : Int32) (1 : Int32) (1 : Int32)) k
  obtain ⟨T1, X1, e1, st1⟩ := getS2 X0 hx hZ hown (host := "") (Or.inl (hw _ (List.mem_of_getElem? (i := 25) rfl))) Via.refl e0 (G.2.1.ext O0.2) (g := (mkF m 12 #[.val (.int (1 : Int32)), .val (.int (1 : Int32)), .val (.int (1 : Int32))] [])) rfl (hb hby own_d2_12)
  obtain ⟨fs, hr, hrun, hended, hW, hsame⟩ := X1.leave (v := some (.ref wSUBJECT_PREDICATE_OBJECT)) (fun h => by rw [Bd.returns] at h; cases h)
  refine ⟨_, _, pre0 _ ?_, hrun, hended, _, _, rfl, ?_, ⟨_, rfl⟩, hW, hsame.mono (by decide) (by decide)⟩
  · show Steps p.tables e below (s₁.setTop (mkF m 0 #[.val (.int (1 : Int32)), .val (.int (1 : Int32)), .val (.int (1 : Int32))] [])) _
    refine XS.iloadN X0.here hx rfl (hb hby own_d2_0) rfl ?_
    show Steps p.tables e below (s₁.setTop (mkF m 1 #[.val (.int (1 : Int32)), .val (.int (1 : Int32)), .val (.int (1 : Int32))] [(.int (1 : Int32))])) _
    refine XS.ifNo X0.here hx rfl (hb hby own_d2_1) rfl (by decide) ?_
    show Steps p.tables e below (s₁.setTop (mkF m 4 #[.val (.int (1 : Int32)), .val (.int (1 : Int32)), .val (.int (1 : Int32))] [])) _
    refine XS.iloadN X0.here hx rfl (hb hby own_d2_4) rfl ?_
    show Steps p.tables e below (s₁.setTop (mkF m 5 #[.val (.int (1 : Int32)), .val (.int (1 : Int32)), .val (.int (1 : Int32))] [(.int (1 : Int32))])) _
    refine XS.ifNo X0.here hx rfl (hb hby own_d2_5) rfl (by decide) ?_
    show Steps p.tables e below (s₁.setTop (mkF m 8 #[.val (.int (1 : Int32)), .val (.int (1 : Int32)), .val (.int (1 : Int32))] [])) _
    refine XS.iloadN X0.here hx rfl (hb hby own_d2_8) rfl ?_
    show Steps p.tables e below (s₁.setTop (mkF m 9 #[.val (.int (1 : Int32)), .val (.int (1 : Int32)), .val (.int (1 : Int32))] [(.int (1 : Int32))])) _
    refine XS.ifNo X0.here hx rfl (hb hby own_d2_9) rfl (by decide) ?_
    show Steps p.tables e below (s₁.setTop (mkF m 12 #[.val (.int (1 : Int32)), .val (.int (1 : Int32)), .val (.int (1 : Int32))] [])) _
    refine st1 _ ?_
    show Steps p.tables e below (T1.setTop (mkF m 15 #[.val (.int (1 : Int32)), .val (.int (1 : Int32)), .val (.int (1 : Int32))] [(.ref wSUBJECT_PREDICATE_OBJECT)])) _
    jvm_step X1.here [X1.here.top, hx, (hb hby own_d2_15), X1.method', Bd.returns, Value.isRef, FieldType.isReference]
    first | (intro acts; rw [hr _ acts rfl rfl rfl]) | rw [hr _ _ rfl rfl rfl]
    exact Steps.refl _
  · show OwnQ _ h0 n0 _ T1.heap _
    exact ⟨rfl, N0, e1⟩
set_option maxRecDepth 65536 in
set_option maxHeartbeats 40000000 in
theorem own_law_7 (l : Launch) (Z : State) (a0 : Array Value) (hw : ∀ d ∈ tables_1, d.before a0 Z = true) (ws : List Jvm.Cond) (wKINDS : Addr) (wSUBJECT_PREDICATE_OBJECT : Addr) (wSUBJECT_PREDICATE : Addr) (wSUBJECT_OBJECT : Addr) (wPREDICATE_OBJECT : Addr) (wSUBJECT : Addr) (wPREDICATE : Addr) (wOBJECT : Addr) (kKINDS : ClassId) (G : OwnG Z wKINDS wSUBJECT_PREDICATE_OBJECT wSUBJECT_PREDICATE wSUBJECT_OBJECT wPREDICATE_OBJECT wSUBJECT wPREDICATE wOBJECT kKINDS) (h0 : Heap) (n0 : Nat) (O0 : Old Z n0 h0) (p1 : Int32) (h1 : ¬ ((p1 &&& (1 : Int32)) = (0 : Int32))) (h2 : ¬ ((p1 &&& (2 : Int32)) = (0 : Int32))) (h4 : ¬ ((p1 &&& (4 : Int32)) = (0 : Int32))) :
    MetFree l x (head1 (Jvm.Cond.code x code maxLocals ret :: ws) room_1) (fun a U => a = #[(.int p1)] ∧ Z.Warmed39 U.vm ∧ U.heap = h0) (fun _ _ _ _ _ => True) (fun _ U o U' => ∃ v L, o = .returned v ∧ (v = some (.int 1) ∧ Fr n0 L) ∧ FrameEnd U o U' L room_1.cells room_1.slots) := by
  refine MetFree.of_bodySF (plainFor_of_name own_pn_0) hisR ?_
  intro p e s m args below meth c s₁ Bd hml0 hP hK
  obtain ⟨rfl, hZ, hh⟩ := hP
  have hx := Bd.exec
  have hby := Bd.bytes
  have hml : c.maxLocals = 5 := hml0
  have hown : s.vm.findClass "com/example/quadrille/quadrille/graphfilter/PatternKindKeepingPinLaw" = some m.cls := findClass_of_methodNamed Bd.named
  have hnm := (name_of_methodNamed Bd.named Bd.method).1
  have X0 : Stand p l e room_1 s m #[(.int p1)] below meth c s₁ [] 0 0 := Stand.of_body Bd
  have e0 : s₁.heap = h0 := by rw [← hh, Bd.state]; rfl
  have N0 := Fr.nil n0
  have pre0 : ∀ t, Steps p.tables e below (s₁.setTop (mkF m 0 #[.val (.int p1), .unset, .unset, .unset, .unset] [])) t → Steps p.tables e below (s₁.setTop (entryFrame m #[(.int p1)] maxLocals)) t := fun t k => castTop (own_ef_0_I m p1) k
  obtain ⟨_, _, ⟨T1, L1, k1, n1⟩, -, X1, ⟨Lc1, hQ1, l1, y1, z1⟩, st1⟩ := Jvm.LawKit.callS X0 hx (y := (⟨"com/example/quadrille/quadrille/graphfilter/PatternKind", "keeping", "(ZZZ)Lcom/example/quadrille/quadrille/graphfilter/PatternKind;"⟩ : MethodName)) hown (mvT hZ (hw _ (List.mem_of_getElem? (i := 0) rfl))) (mvT hZ (hw _ (List.mem_of_getElem? (i := 1) rfl))) (mvT hZ (hw _ (List.mem_of_getElem? (i := 2) rfl))) (mvT hZ (hw _ (List.mem_of_getElem? (i := 3) rfl))) (by decide) (backOf (W := 0) (own_keeping_14 l Z a0 hw [] wKINDS wSUBJECT_PREDICATE_OBJECT wSUBJECT_PREDICATE wSUBJECT_OBJECT wPREDICATE_OBJECT wSUBJECT wPREDICATE wOBJECT kKINDS G h0 n0 O0) hZ (hw _ (List.mem_of_getElem? (i := 3) rfl)) (hw _ (List.mem_of_getElem? (i := 2) rfl)) (by decide) (by decide)) (g := (mkF m 39 #[.val (.int p1), .val (.int (1 : Int32)), .val (.int (1 : Int32)), .val (.int (1 : Int32)), .unset] [(.int (1 : Int32)), (.int (1 : Int32)), (.int (1 : Int32))])) rfl (by rw [hml]; rfl) (argsL := [(.int (1 : Int32)), (.int (1 : Int32)), (.int (1 : Int32))]) (rest := []) (lenOf own_pd_0 rfl) rfl (by show 2 * 0 + _ ≤ _; exact Nat.le_of_eq rfl) (hb hby at_39) (fun _ _ => ⟨rfl, e0, (by decide : 0 + 0 ≤ _), (by decide : 0 + 0 ≤ _)⟩)
  dsimp only [Pt.U, Pt.locs, Pt.cells, Pt.slots] at X1 l1 y1 z1 st1 hQ1
  subst l1 y1 z1
  obtain ⟨rfl, N1q, e1⟩ := hQ1
  have N1 := Fr.app N0 N1q
  obtain ⟨_, _, ⟨T2, L2, k2, n2⟩, -, X2, ⟨Lc2, hQ2, l2, y2, z2⟩, st2⟩ := Jvm.LawKit.callS X1 hx (y := (⟨"com/example/quadrille/quadrille/graphfilter/PatternKindKeepingPinLaw", "expected", "(ZZZ)Lcom/example/quadrille/quadrille/graphfilter/PatternKind;"⟩ : MethodName)) hown (mvT hZ (hw _ (List.mem_of_getElem? (i := 19) rfl))) (mvT hZ (hw _ (List.mem_of_getElem? (i := 20) rfl))) (mvT hZ (hw _ (List.mem_of_getElem? (i := 21) rfl))) (mvT hZ (hw _ (List.mem_of_getElem? (i := 22) rfl))) (by decide) (backOf (W := 1) (own_expected_15 l Z a0 hw [] wKINDS wSUBJECT_PREDICATE_OBJECT wSUBJECT_PREDICATE wSUBJECT_OBJECT wPREDICATE_OBJECT wSUBJECT wPREDICATE wOBJECT kKINDS G h0 n0 O0) hZ (hw _ (List.mem_of_getElem? (i := 22) rfl)) (hw _ (List.mem_of_getElem? (i := 21) rfl)) (by decide) (by decide)) (g := (mkF m 49 #[.val (.int p1), .val (.int (1 : Int32)), .val (.int (1 : Int32)), .val (.int (1 : Int32)), .val (.ref wSUBJECT_PREDICATE_OBJECT)] [(.int (1 : Int32)), (.int (1 : Int32)), (.int (1 : Int32)), (.ref wSUBJECT_PREDICATE_OBJECT)])) rfl (by rw [hml]; rfl) (argsL := [(.int (1 : Int32)), (.int (1 : Int32)), (.int (1 : Int32))]) (rest := [(.ref wSUBJECT_PREDICATE_OBJECT)]) (lenOf own_pd_0 rfl) rfl (by show 2 * 0 + _ ≤ _; exact Nat.le_of_eq rfl) (hb hby at_49) (fun _ _ => ⟨rfl, e1, (by decide : 0 + 0 ≤ _), (by decide : 0 + 0 ≤ _)⟩)
  dsimp only [Pt.U, Pt.locs, Pt.cells, Pt.slots] at X2 l2 y2 z2 st2 hQ2
  subst l2 y2 z2
  obtain ⟨rfl, N2q, e2⟩ := hQ2
  have N2 := Fr.app N1 N2q
  obtain ⟨fs, hr, hrun, hended, hW, hsame⟩ := X2.leave (v := some (.int (1 : Int32))) (fun h => by rw [Bd.returns] at h; cases h)
  refine ⟨_, _, pre0 _ ?_, hrun, hended, _, _, rfl, ?_, ⟨_, rfl⟩, hW, hsame.mono (by decide) (by decide)⟩
  · show Steps p.tables e below (s₁.setTop (mkF m 0 #[.val (.int p1), .unset, .unset, .unset, .unset] [])) _
    refine XS.iloadN X0.here hx rfl (hb hby at_0) rfl ?_
    show Steps p.tables e below (s₁.setTop (mkF m 1 #[.val (.int p1), .unset, .unset, .unset, .unset] [(.int p1)])) _
    refine XS.iconst X0.here hx rfl (hb hby at_1) ?_
    show Steps p.tables e below (s₁.setTop (mkF m 2 #[.val (.int p1), .unset, .unset, .unset, .unset] [(.int (1 : Int32)), (.int p1)])) _
    refine XS.iand X0.here hx rfl (hb hby at_2) rfl ?_
    show Steps p.tables e below (s₁.setTop (mkF m 3 #[.val (.int p1), .unset, .unset, .unset, .unset] [(.int (p1 &&& (1 : Int32)))])) _
    refine XS.ifNo X0.here hx rfl (hb hby at_3) rfl ((if0 _ _).trans (feq (h1 : ¬ ((p1 &&& (1 : Int32)) = (0 : Int32)))).1) ?_
    show Steps p.tables e below (s₁.setTop (mkF m 6 #[.val (.int p1), .unset, .unset, .unset, .unset] [])) _
    refine XS.iconst X0.here hx rfl (hb hby at_6) ?_
    show Steps p.tables e below (s₁.setTop (mkF m 7 #[.val (.int p1), .unset, .unset, .unset, .unset] [(.int (1 : Int32))])) _
    refine XS.goto X0.here hx rfl (pc0 := 7) (pc' := 11) rfl (hb hby at_7) (by decide) (by decide) ?_
    show Steps p.tables e below (s₁.setTop (mkF m 11 #[.val (.int p1), .unset, .unset, .unset, .unset] [(.int (1 : Int32))])) _
    refine XS.istoreN X0.here hx rfl (hb hby at_11) rfl (l' := #[.val (.int p1), .val (.int (1 : Int32)), .unset, .unset, .unset]) rfl ?_
    show Steps p.tables e below (s₁.setTop (mkF m 12 #[.val (.int p1), .val (.int (1 : Int32)), .unset, .unset, .unset] [])) _
    refine XS.iloadN X0.here hx rfl (hb hby at_12) rfl ?_
    show Steps p.tables e below (s₁.setTop (mkF m 13 #[.val (.int p1), .val (.int (1 : Int32)), .unset, .unset, .unset] [(.int p1)])) _
    refine XS.iconst X0.here hx rfl (hb hby at_13) ?_
    show Steps p.tables e below (s₁.setTop (mkF m 14 #[.val (.int p1), .val (.int (1 : Int32)), .unset, .unset, .unset] [(.int (2 : Int32)), (.int p1)])) _
    refine XS.iand X0.here hx rfl (hb hby at_14) rfl ?_
    show Steps p.tables e below (s₁.setTop (mkF m 15 #[.val (.int p1), .val (.int (1 : Int32)), .unset, .unset, .unset] [(.int (p1 &&& (2 : Int32)))])) _
    refine XS.ifNo X0.here hx rfl (hb hby at_15) rfl ((if0 _ _).trans (feq (h2 : ¬ ((p1 &&& (2 : Int32)) = (0 : Int32)))).1) ?_
    show Steps p.tables e below (s₁.setTop (mkF m 18 #[.val (.int p1), .val (.int (1 : Int32)), .unset, .unset, .unset] [])) _
    refine XS.iconst X0.here hx rfl (hb hby at_18) ?_
    show Steps p.tables e below (s₁.setTop (mkF m 19 #[.val (.int p1), .val (.int (1 : Int32)), .unset, .unset, .unset] [(.int (1 : Int32))])) _
    refine XS.goto X0.here hx rfl (pc0 := 19) (pc' := 23) rfl (hb hby at_19) (by decide) (by decide) ?_
    show Steps p.tables e below (s₁.setTop (mkF m 23 #[.val (.int p1), .val (.int (1 : Int32)), .unset, .unset, .unset] [(.int (1 : Int32))])) _
    refine XS.istoreN X0.here hx rfl (hb hby at_23) rfl (l' := #[.val (.int p1), .val (.int (1 : Int32)), .val (.int (1 : Int32)), .unset, .unset]) rfl ?_
    show Steps p.tables e below (s₁.setTop (mkF m 24 #[.val (.int p1), .val (.int (1 : Int32)), .val (.int (1 : Int32)), .unset, .unset] [])) _
    refine XS.iloadN X0.here hx rfl (hb hby at_24) rfl ?_
    show Steps p.tables e below (s₁.setTop (mkF m 25 #[.val (.int p1), .val (.int (1 : Int32)), .val (.int (1 : Int32)), .unset, .unset] [(.int p1)])) _
    refine XS.iconst X0.here hx rfl (hb hby at_25) ?_
    show Steps p.tables e below (s₁.setTop (mkF m 26 #[.val (.int p1), .val (.int (1 : Int32)), .val (.int (1 : Int32)), .unset, .unset] [(.int (4 : Int32)), (.int p1)])) _
    refine XS.iand X0.here hx rfl (hb hby at_26) rfl ?_
    show Steps p.tables e below (s₁.setTop (mkF m 27 #[.val (.int p1), .val (.int (1 : Int32)), .val (.int (1 : Int32)), .unset, .unset] [(.int (p1 &&& (4 : Int32)))])) _
    refine XS.ifNo X0.here hx rfl (hb hby at_27) rfl ((if0 _ _).trans (feq (h4 : ¬ ((p1 &&& (4 : Int32)) = (0 : Int32)))).1) ?_
    show Steps p.tables e below (s₁.setTop (mkF m 30 #[.val (.int p1), .val (.int (1 : Int32)), .val (.int (1 : Int32)), .unset, .unset] [])) _
    refine XS.iconst X0.here hx rfl (hb hby at_30) ?_
    show Steps p.tables e below (s₁.setTop (mkF m 31 #[.val (.int p1), .val (.int (1 : Int32)), .val (.int (1 : Int32)), .unset, .unset] [(.int (1 : Int32))])) _
    refine XS.goto X0.here hx rfl (pc0 := 31) (pc' := 35) rfl (hb hby at_31) (by decide) (by decide) ?_
    show Steps p.tables e below (s₁.setTop (mkF m 35 #[.val (.int p1), .val (.int (1 : Int32)), .val (.int (1 : Int32)), .unset, .unset] [(.int (1 : Int32))])) _
    refine XS.istoreN X0.here hx rfl (hb hby at_35) rfl (l' := #[.val (.int p1), .val (.int (1 : Int32)), .val (.int (1 : Int32)), .val (.int (1 : Int32)), .unset]) rfl ?_
    show Steps p.tables e below (s₁.setTop (mkF m 36 #[.val (.int p1), .val (.int (1 : Int32)), .val (.int (1 : Int32)), .val (.int (1 : Int32)), .unset] [])) _
    refine XS.iloadN X0.here hx rfl (hb hby at_36) rfl ?_
    show Steps p.tables e below (s₁.setTop (mkF m 37 #[.val (.int p1), .val (.int (1 : Int32)), .val (.int (1 : Int32)), .val (.int (1 : Int32)), .unset] [(.int (1 : Int32))])) _
    refine XS.iloadN X0.here hx rfl (hb hby at_37) rfl ?_
    show Steps p.tables e below (s₁.setTop (mkF m 38 #[.val (.int p1), .val (.int (1 : Int32)), .val (.int (1 : Int32)), .val (.int (1 : Int32)), .unset] [(.int (1 : Int32)), (.int (1 : Int32))])) _
    refine XS.iloadN X0.here hx rfl (hb hby at_38) rfl ?_
    show Steps p.tables e below (s₁.setTop (mkF m 39 #[.val (.int p1), .val (.int (1 : Int32)), .val (.int (1 : Int32)), .val (.int (1 : Int32)), .unset] [(.int (1 : Int32)), (.int (1 : Int32)), (.int (1 : Int32))])) _
    refine st1 _ ?_
    show Steps p.tables e below (T1.setTop (mkF m 42 #[.val (.int p1), .val (.int (1 : Int32)), .val (.int (1 : Int32)), .val (.int (1 : Int32)), .unset] [(.ref wSUBJECT_PREDICATE_OBJECT)])) _
    refine XS.astore X1.here hx rfl (hb hby at_42) rfl rfl (l' := #[.val (.int p1), .val (.int (1 : Int32)), .val (.int (1 : Int32)), .val (.int (1 : Int32)), .val (.ref wSUBJECT_PREDICATE_OBJECT)]) rfl ?_
    show Steps p.tables e below (T1.setTop (mkF m 44 #[.val (.int p1), .val (.int (1 : Int32)), .val (.int (1 : Int32)), .val (.int (1 : Int32)), .val (.ref wSUBJECT_PREDICATE_OBJECT)] [])) _
    refine XS.aload X1.here hx rfl (hb hby at_44) rfl rfl ?_
    show Steps p.tables e below (T1.setTop (mkF m 46 #[.val (.int p1), .val (.int (1 : Int32)), .val (.int (1 : Int32)), .val (.int (1 : Int32)), .val (.ref wSUBJECT_PREDICATE_OBJECT)] [(.ref wSUBJECT_PREDICATE_OBJECT)])) _
    refine XS.iloadN X1.here hx rfl (hb hby at_46) rfl ?_
    show Steps p.tables e below (T1.setTop (mkF m 47 #[.val (.int p1), .val (.int (1 : Int32)), .val (.int (1 : Int32)), .val (.int (1 : Int32)), .val (.ref wSUBJECT_PREDICATE_OBJECT)] [(.int (1 : Int32)), (.ref wSUBJECT_PREDICATE_OBJECT)])) _
    refine XS.iloadN X1.here hx rfl (hb hby at_47) rfl ?_
    show Steps p.tables e below (T1.setTop (mkF m 48 #[.val (.int p1), .val (.int (1 : Int32)), .val (.int (1 : Int32)), .val (.int (1 : Int32)), .val (.ref wSUBJECT_PREDICATE_OBJECT)] [(.int (1 : Int32)), (.int (1 : Int32)), (.ref wSUBJECT_PREDICATE_OBJECT)])) _
    refine XS.iloadN X1.here hx rfl (hb hby at_48) rfl ?_
    show Steps p.tables e below (T1.setTop (mkF m 49 #[.val (.int p1), .val (.int (1 : Int32)), .val (.int (1 : Int32)), .val (.int (1 : Int32)), .val (.ref wSUBJECT_PREDICATE_OBJECT)] [(.int (1 : Int32)), (.int (1 : Int32)), (.int (1 : Int32)), (.ref wSUBJECT_PREDICATE_OBJECT)])) _
    refine st2 _ ?_
    show Steps p.tables e below (T2.setTop (mkF m 52 #[.val (.int p1), .val (.int (1 : Int32)), .val (.int (1 : Int32)), .val (.int (1 : Int32)), .val (.ref wSUBJECT_PREDICATE_OBJECT)] [(.ref wSUBJECT_PREDICATE_OBJECT), (.ref wSUBJECT_PREDICATE_OBJECT)])) _
    refine Jvm.RoadKit.acmp (g := (mkF m 52 #[.val (.int p1), .val (.int (1 : Int32)), .val (.int (1 : Int32)), .val (.int (1 : Int32)), .val (.ref wSUBJECT_PREDICATE_OBJECT)] [(.ref wSUBJECT_PREDICATE_OBJECT), (.ref wSUBJECT_PREDICATE_OBJECT)])) X2 hx rfl rfl rfl (pc0 := 52) (pc' := 55) (same := true) rfl (hb hby at_52) rfl (decide_eq_true rfl) (by decide) (by decide) ?_
    show Steps p.tables e below (T2.setTop (mkF m 55 #[.val (.int p1), .val (.int (1 : Int32)), .val (.int (1 : Int32)), .val (.int (1 : Int32)), .val (.ref wSUBJECT_PREDICATE_OBJECT)] [])) _
    refine XS.iconst X2.here hx rfl (hb hby at_55) ?_
    show Steps p.tables e below (T2.setTop (mkF m 56 #[.val (.int p1), .val (.int (1 : Int32)), .val (.int (1 : Int32)), .val (.int (1 : Int32)), .val (.ref wSUBJECT_PREDICATE_OBJECT)] [(.int (1 : Int32))])) _
    refine XS.goto X2.here hx rfl (pc0 := 56) (pc' := 60) rfl (hb hby at_56) (by decide) (by decide) ?_
    show Steps p.tables e below (T2.setTop (mkF m 60 #[.val (.int p1), .val (.int (1 : Int32)), .val (.int (1 : Int32)), .val (.int (1 : Int32)), .val (.ref wSUBJECT_PREDICATE_OBJECT)] [(.int (1 : Int32))])) _
    exact retN X2 hx (t := .boolean) Bd.returns (by simp) (hb hby at_60) hr
  · exact ⟨rfl, N2⟩
theorem own_law (l : Launch) (Z : State) (a0 : Array Value) (hw : ∀ d ∈ tables_1, d.before a0 Z = true) (ws : List Jvm.Cond) (wKINDS : Addr) (wSUBJECT_PREDICATE_OBJECT : Addr) (wSUBJECT_PREDICATE : Addr) (wSUBJECT_OBJECT : Addr) (wPREDICATE_OBJECT : Addr) (wSUBJECT : Addr) (wPREDICATE : Addr) (wOBJECT : Addr) (kKINDS : ClassId) (G : OwnG Z wKINDS wSUBJECT_PREDICATE_OBJECT wSUBJECT_PREDICATE wSUBJECT_OBJECT wPREDICATE_OBJECT wSUBJECT wPREDICATE wOBJECT kKINDS) (h0 : Heap) (n0 : Nat) (O0 : Old Z n0 h0) (p1 : Int32) :
    MetFree l x (head1 (Jvm.Cond.code x code maxLocals ret :: ws) room_1) (fun a U => a = #[(.int p1)] ∧ Z.Warmed39 U.vm ∧ U.heap = h0) (fun _ _ _ _ _ => True) (fun _ U o U' => ∃ v L, o = .returned v ∧ (v = some (.int 1) ∧ Fr n0 L) ∧ FrameEnd U o U' L room_1.cells room_1.slots) := by
  by_cases h1 : (p1 &&& (1 : Int32)) = (0 : Int32) <;> by_cases h2 : (p1 &&& (2 : Int32)) = (0 : Int32) <;> by_cases h4 : (p1 &&& (4 : Int32)) = (0 : Int32)
  · exact own_law_0 l Z a0 hw ws wKINDS wSUBJECT_PREDICATE_OBJECT wSUBJECT_PREDICATE wSUBJECT_OBJECT wPREDICATE_OBJECT wSUBJECT wPREDICATE wOBJECT kKINDS G h0 n0 O0 p1 h1 h2 h4
  · exact own_law_4 l Z a0 hw ws wKINDS wSUBJECT_PREDICATE_OBJECT wSUBJECT_PREDICATE wSUBJECT_OBJECT wPREDICATE_OBJECT wSUBJECT wPREDICATE wOBJECT kKINDS G h0 n0 O0 p1 h1 h2 h4
  · exact own_law_2 l Z a0 hw ws wKINDS wSUBJECT_PREDICATE_OBJECT wSUBJECT_PREDICATE wSUBJECT_OBJECT wPREDICATE_OBJECT wSUBJECT wPREDICATE wOBJECT kKINDS G h0 n0 O0 p1 h1 h2 h4
  · exact own_law_6 l Z a0 hw ws wKINDS wSUBJECT_PREDICATE_OBJECT wSUBJECT_PREDICATE wSUBJECT_OBJECT wPREDICATE_OBJECT wSUBJECT wPREDICATE wOBJECT kKINDS G h0 n0 O0 p1 h1 h2 h4
  · exact own_law_1 l Z a0 hw ws wKINDS wSUBJECT_PREDICATE_OBJECT wSUBJECT_PREDICATE wSUBJECT_OBJECT wPREDICATE_OBJECT wSUBJECT wPREDICATE wOBJECT kKINDS G h0 n0 O0 p1 h1 h2 h4
  · exact own_law_5 l Z a0 hw ws wKINDS wSUBJECT_PREDICATE_OBJECT wSUBJECT_PREDICATE wSUBJECT_OBJECT wPREDICATE_OBJECT wSUBJECT wPREDICATE wOBJECT kKINDS G h0 n0 O0 p1 h1 h2 h4
  · exact own_law_3 l Z a0 hw ws wKINDS wSUBJECT_PREDICATE_OBJECT wSUBJECT_PREDICATE wSUBJECT_OBJECT wPREDICATE_OBJECT wSUBJECT wPREDICATE wOBJECT kKINDS G h0 n0 O0 p1 h1 h2 h4
  · exact own_law_7 l Z a0 hw ws wKINDS wSUBJECT_PREDICATE_OBJECT wSUBJECT_PREDICATE wSUBJECT_OBJECT wPREDICATE_OBJECT wSUBJECT wPREDICATE wOBJECT kKINDS G h0 n0 O0 p1 h1 h2 h4
set_option maxRecDepth 65536 in
set_option maxHeartbeats 40000000 in
theorem comes_1 {Post : Tables → Env → Array Value → State → Outcome → State → Prop} (hpost : ∀ tb e args s v u, (limb_1_1.after args s (.returned v) u = true ∧ limb_1_2.after args s (.returned v) u = true ∧ True) → FrameEnd s (.returned v) u (Jvm.fieldLocs frame_1_writes args s ++ Jvm.arrayLocs frame_1_arrays args s ++ Jvm.staticLocs frame_1_statics s) 0 0 → Post tb e args s (.returned v) u) :
    ArmFor flags0 classFile x code maxLocals ret World_1 tables_1 room_1 Calls_1 rest_1 Pre_1 Post := by
  intro l hfl _ _ p e ha hc hk s m args below hf hA hF happ hP
  obtain ⟨hcalls, hrest, hpre⟩ := hP
  obtain ⟨-, -, -, hnamed, -, -, -, hat⟩ := (Spec.applies_iff hf).mp happ
  obtain ⟨hg, hn⟩ := and_e (Cond.before_iff.mp (show (Jvm.Cond.and given_1 narrow_1).before args s = true from hpre))
  obtain ⟨hgv0, hgm0⟩ := and_e hg
  have hgv1 := hgm0
  obtain ⟨w0, rfl⟩ : ∃ w0 : Value, args = #[w0] := by
    have hs : args.size = 1 := by simpa [Cond.value, given_1] using hgv0
    obtain ⟨L⟩ := args
    match L, hs with
    | [w0], _ => exact ⟨w0, rfl⟩
  have hw := fun d (hd : d ∈ tables_1) => atoms_spec (ws := Jvm.Cond.code x code maxLocals ret :: tables_1) hat d (List.mem_cons_of_mem _ hd)
  have hfit : Fit s := fun {y c} hc i hi => by
    obtain ⟨ha, rfl⟩ := Array.getElem?_eq_some_iff.mp hc
    have q := List.all_eq_true.mp ((Array.all_eq_true_iff_forall_mem.mp hF) _ (Array.getElem_mem ha)) i (List.mem_range.mpr hi)
    simpa [Array.getElem?_eq_getElem hi] using q
  obtain ⟨i0, ei0⟩ := is_v hgv1
  obtain rfl : w0 = (.int i0) := Option.some.inj ei0
  obtain ⟨hc0, hm0⟩ := and_e hn
  obtain ⟨hc1, hm1⟩ := and_e hm0
  obtain ⟨hc2, hm2⟩ := and_e hm1
  obtain ⟨hc3, hm3⟩ := and_e hm2
  obtain ⟨hc4, hm4⟩ := and_e hm3
  obtain ⟨hc5, hm5⟩ := and_e hm4
  obtain ⟨hc6, hm6⟩ := and_e hm5
  obtain ⟨hc7, hm7⟩ := and_e hm6
  obtain ⟨hc8, hm8⟩ := and_e hm7
  obtain ⟨hc9, hm9⟩ := and_e hm8
  obtain ⟨hc10, hm10⟩ := and_e hm9
  obtain ⟨hc11, hm11⟩ := and_e hm10
  obtain ⟨hc12, hm12⟩ := and_e hm11
  obtain ⟨hc13, hm13⟩ := and_e hm12
  obtain ⟨hc14, hm14⟩ := and_e hm13
  obtain ⟨hc15, hm15⟩ := and_e hm14
  obtain ⟨hc16, hm16⟩ := and_e hm15
  obtain ⟨hc17, hm17⟩ := and_e hm16
  obtain ⟨hc18, hm18⟩ := and_e hm17
  obtain ⟨hc19, hm19⟩ := and_e hm18
  obtain ⟨hc20, hm20⟩ := and_e hm19
  obtain ⟨hc21, hm21⟩ := and_e hm20
  obtain ⟨hc22, hm22⟩ := and_e hm21
  obtain ⟨hc23, hm23⟩ := and_e hm22
  obtain ⟨hc24, hm24⟩ := and_e hm23
  obtain ⟨hc25, hm25⟩ := and_e hm24
  obtain ⟨hc26, hm26⟩ := and_e hm25
  obtain ⟨hc27, hm27⟩ := and_e hm26
  obtain ⟨hc28, hm28⟩ := and_e hm27
  obtain ⟨hc29, hm29⟩ := and_e hm28
  obtain ⟨hc30, hm30⟩ := and_e hm29
  obtain ⟨hc31, hm31⟩ := and_e hm30
  obtain ⟨hc32, hm32⟩ := and_e hm31
  obtain ⟨hc33, hm33⟩ := and_e hm32
  obtain ⟨hc34, hm34⟩ := and_e hm33
  obtain ⟨hc35, hm35⟩ := and_e hm34
  have hc36 := hm35
  obtain ⟨wKINDS, ev_wKINDS⟩ := arr_v hc0
  obtain ⟨wSUBJECT_PREDICATE_OBJECT, ev_wSUBJECT_PREDICATE_OBJECT⟩ := exa_v hc2
  obtain ⟨wSUBJECT_PREDICATE, ev_wSUBJECT_PREDICATE⟩ := exa_v hc5
  obtain ⟨wSUBJECT_OBJECT, ev_wSUBJECT_OBJECT⟩ := exa_v hc8
  obtain ⟨wPREDICATE_OBJECT, ev_wPREDICATE_OBJECT⟩ := exa_v hc11
  obtain ⟨wSUBJECT, ev_wSUBJECT⟩ := exa_v hc15
  obtain ⟨wPREDICATE, ev_wPREDICATE⟩ := exa_v hc18
  obtain ⟨wOBJECT, ev_wOBJECT⟩ := exa_v hc22
  obtain ⟨cl_wKINDS, Ar_wKINDS⟩ := Arr.start ev_wKINDS hc0
  obtain ⟨kKINDS, hk_wKINDS⟩ : ∃ k, k = cl_wKINDS.cls := ⟨_, rfl⟩
  obtain ⟨lq_wKINDS, le_wKINDS⟩ := own_len ev_wKINDS Ar_wKINDS.1 hc1
  have gf0 := Sta.start ev_wKINDS (Or.inr ⟨(hw _ (List.mem_of_getElem? (i := 2) rfl)), (hw _ (List.mem_of_getElem? (i := 5) rfl))⟩)
  have gf1 := Sta.start ev_wSUBJECT_PREDICATE_OBJECT (Or.inr ⟨(hw _ (List.mem_of_getElem? (i := 2) rfl)), (hw _ (List.mem_of_getElem? (i := 6) rfl))⟩)
  have gf2 := Exa.start ev_wSUBJECT_PREDICATE_OBJECT hc2
  have gf3 := Sta.start ev_wSUBJECT_PREDICATE (Or.inr ⟨(hw _ (List.mem_of_getElem? (i := 2) rfl)), (hw _ (List.mem_of_getElem? (i := 9) rfl))⟩)
  have gf4 := Exa.start ev_wSUBJECT_PREDICATE hc5
  have gf5 := Sta.start ev_wSUBJECT_OBJECT (Or.inr ⟨(hw _ (List.mem_of_getElem? (i := 2) rfl)), (hw _ (List.mem_of_getElem? (i := 10) rfl))⟩)
  have gf6 := Exa.start ev_wSUBJECT_OBJECT hc8
  have gf7 := Sta.start ev_wPREDICATE_OBJECT (Or.inr ⟨(hw _ (List.mem_of_getElem? (i := 2) rfl)), (hw _ (List.mem_of_getElem? (i := 11) rfl))⟩)
  have gf8 := Exa.start ev_wPREDICATE_OBJECT hc11
  have gf9 := Sta.start ev_wSUBJECT (Or.inr ⟨(hw _ (List.mem_of_getElem? (i := 2) rfl)), (hw _ (List.mem_of_getElem? (i := 14) rfl))⟩)
  have gf10 := Exa.start ev_wSUBJECT hc15
  have gf11 := Sta.start ev_wPREDICATE (Or.inr ⟨(hw _ (List.mem_of_getElem? (i := 2) rfl)), (hw _ (List.mem_of_getElem? (i := 15) rfl))⟩)
  have gf12 := Exa.start ev_wPREDICATE hc18
  have gf13 := Sta.start ev_wOBJECT (Or.inr ⟨(hw _ (List.mem_of_getElem? (i := 2) rfl)), (hw _ (List.mem_of_getElem? (i := 16) rfl))⟩)
  have gf14 := Exa.start ev_wOBJECT hc22
  have gf15 := Fld.start ((fld_at ev_wSUBJECT_PREDICATE_OBJECT).symm.trans (own_eqi hc4))
  have gf16 := Fld.start ((fld_at ev_wSUBJECT_PREDICATE).symm.trans (own_eqi hc7))
  have gf17 := Fld.start ((fld_at ev_wSUBJECT_OBJECT).symm.trans (own_eqi hc10))
  have gf18 := Fld.start ((fld_at ev_wPREDICATE_OBJECT).symm.trans (own_eqi hc13))
  have gf19 := Fld.start ((fld_at ev_wPREDICATE_OBJECT).symm.trans (own_eqi hc14))
  have gf20 := Fld.start ((fld_at ev_wSUBJECT).symm.trans (own_eqi hc17))
  have gf21 := Fld.start ((fld_at ev_wPREDICATE).symm.trans (own_eqi hc20))
  have gf22 := Fld.start ((fld_at ev_wPREDICATE).symm.trans (own_eqi hc21))
  have gf23 := Fld.start ((fld_at ev_wOBJECT).symm.trans (own_eqi hc24))
  have gf24 := Fld.start ((fld_at ev_wOBJECT).symm.trans (own_eqi hc25))
  have gf25 := Fld.start ((fld_at ev_wOBJECT).symm.trans (own_eqi hc26))
  have gf26 := Fld.start ((fld_at ev_wSUBJECT_PREDICATE_OBJECT).symm.trans (own_eqi hc27))
  have gf27 := Fld.start ((fld_at ev_wSUBJECT_PREDICATE_OBJECT).symm.trans (own_eqi hc28))
  have gf28 := Fld.start ((fld_at ev_wSUBJECT_PREDICATE).symm.trans (own_eqi hc29))
  have gf29 := Fld.start ((fld_at ev_wSUBJECT_PREDICATE).symm.trans (own_eqi hc30))
  have gf30 := Fld.start ((fld_at ev_wSUBJECT_OBJECT).symm.trans (own_eqi hc31))
  have gf31 := Fld.start ((fld_at ev_wSUBJECT).symm.trans (own_eqi hc32))
  have gf32 := Fld.start ((fld_at ev_wPREDICATE_OBJECT).symm.trans (own_eqi hc33))
  have gf33 := Fld.start ((fld_at ev_wPREDICATE).symm.trans (own_eqi hc34))
  have gf34 := Fld.start ((fld_at ev_wSUBJECT_OBJECT).symm.trans (own_eqi hc35))
  have gf35 := Fld.start ((fld_at ev_wSUBJECT).symm.trans (own_eqi hc36))
  have gf36 : Arv s s.heap wKINDS kKINDS (.object "com/example/quadrille/quadrille/graphfilter/PatternKind") (7 : Int32) [(.ref wSUBJECT_PREDICATE_OBJECT), (.ref wSUBJECT_PREDICATE), (.ref wSUBJECT_OBJECT), (.ref wPREDICATE_OBJECT), (.ref wSUBJECT), (.ref wPREDICATE), (.ref wOBJECT)] .null := by rw [hk_wKINDS]; exact Arv.start hfit Ar_wKINDS lq_wKINDS le_wKINDS (by decide) rfl ⟨(own_el ev_wKINDS Ar_wKINDS.1 hc3 ev_wSUBJECT_PREDICATE_OBJECT).2, (own_el ev_wKINDS Ar_wKINDS.1 hc6 ev_wSUBJECT_PREDICATE).2, (own_el ev_wKINDS Ar_wKINDS.1 hc9 ev_wSUBJECT_OBJECT).2, (own_el ev_wKINDS Ar_wKINDS.1 hc12 ev_wPREDICATE_OBJECT).2, (own_el ev_wKINDS Ar_wKINDS.1 hc16 ev_wSUBJECT).2, (own_el ev_wKINDS Ar_wKINDS.1 hc19 ev_wPREDICATE).2, (own_el ev_wKINDS Ar_wKINDS.1 hc23 ev_wOBJECT).2, trivial⟩
  have G : OwnG s wKINDS wSUBJECT_PREDICATE_OBJECT wSUBJECT_PREDICATE wSUBJECT_OBJECT wPREDICATE_OBJECT wSUBJECT wPREDICATE wOBJECT kKINDS := ⟨gf0, gf1, gf2, gf3, gf4, gf5, gf6, gf7, gf8, gf9, gf10, gf11, gf12, gf13, gf14, gf15, gf16, gf17, gf18, gf19, gf20, gf21, gf22, gf23, gf24, gf25, gf26, gf27, gf28, gf29, gf30, gf31, gf32, gf33, gf34, gf35, gf36, Fld.ne gf15 gf18 (by decide), Fld.ne gf15 gf21 (by decide), Fld.ne gf15 gf23 (by decide), Fld.ne gf16 gf18 (by decide), Fld.ne gf16 gf21 (by decide), Fld.ne gf16 gf23 (by decide), Fld.ne gf17 gf18 (by decide), Fld.ne gf17 gf21 (by decide), Fld.ne gf17 gf23 (by decide), Fld.ne gf18 gf20 (by decide), Fld.ne gf20 gf21 (by decide), Fld.ne gf20 gf23 (by decide), Fld.ne gf19 gf24 (by decide), Fld.ne gf22 gf24 (by decide), Fld.ne gf26 gf30 (by decide), Fld.ne gf26 gf31 (by decide), Fld.ne gf28 gf30 (by decide), Fld.ne gf28 gf31 (by decide), Fld.ne gf27 gf29 (by decide), Fld.ne gf32 gf33 (by decide), Fld.ne gf34 gf35 (by decide)⟩
  obtain ⟨n, o, h1, h2, h3, _, L, rfl, ⟨rfl, N⟩, hq⟩ := own_law l s _ hw tables_1 wKINDS wSUBJECT_PREDICATE_OBJECT wSUBJECT_PREDICATE wSUBJECT_OBJECT wPREDICATE_OBJECT wSUBJECT wPREDICATE wOBJECT kKINDS G s.heap s.heap.size (Old.start s) i0 p e ha hc hk s m _ below hf ((Spec.applies_iff_loose hf).mp happ).1 ⟨rfl, State.Warmed39.refl s, rfl⟩ trivial
  exact ⟨n, _, h1, h2, h3, hpost _ _ _ _ _ _ ⟨Cond.after_iff.mpr rfl, Cond.after_iff.mpr (eq_i res_at (Term.int_eval (1)) rfl), trivial⟩ ⟨hq.1, hq.2.1, (hq.2.2.sift fun y hy => Or.inr (N y hy)).mono (by decide) (by decide)⟩⟩
theorem main_1_1 : Claimed_1_1 := comes_1 fun _ _ _ _ _ _ h hF => ⟨h.1, hF⟩
theorem main_1_2 : Claimed_1_2 := comes_1 fun _ _ _ _ _ _ h hF => ⟨h.2.1, hF⟩
end Jvm.Pilot.@@N@@
namespace Jvm.Pilot.@@N@@
open Jvm Jvm.ClassFile Sem Op Lib Jvm.Free Jvm.Stand Jvm.Pilot.@@N@@.Jvm.D
/-! MADE BY PROGRAM (witnessworld.py) out of the Statement's table words and the real class files: 13 classes; the members and pool entries that the words name. The judged class is class 1, her method 2. -/
namespace start1
open Jvm.ClassFile
def u (s : String) : CpInfo := .utf8 (stringToUtf16 s)
/-- a pool by its gaps: so many unusable entries, then the entry; so many at the end -/
def gap : Nat → List CpInfo → List CpInfo
  | 0, r => r
  | n + 1, r => .unusable :: gap n r
def poolList (es : List (Nat × CpInfo)) (last : Nat) : List CpInfo := es.foldr (fun e r => gap e.1 (e.2 :: r)) (gap last [])
def pool (es : List (Nat × CpInfo)) (last : Nat) : Array CpInfo := ⟨poolList es last⟩
def fileOf (pool : Array CpInfo) (this : Nat) (attrs : Array Attribute := #[]) (ms : Array MethodInfo := #[]) (fl : Nat := 33) (sup : Nat := 0) (ifs : Array Nat := #[]) (fds : Array FieldInfo := #[]) : ClassFile where
  minorVersion := 0
  majorVersion := 65
  constantPool := pool
  accessFlags := fl
  thisClass := this
  superClass := sup
  interfaces := ifs
  fields := fds
  methods := ms
  attributes := attrs
def plain (name : String) (sup : Option ClassId) : Class where
  name := name
  kind := .ordinary
  loader := none
  accessFlags := 33
  super := sup
  interfaces := #[]
  cf := none
  fields := #[]
  methods := #[]
  instanceTypes := #[]
  staticTypes := #[]
  resolved := #[]
  callSites := []
  init := .initialized
  statics := none
  mirror := none

def pool0 : Array CpInfo := pool [(5, u "<init>"), (0, u "()V"), (1, .class_ 10), (1, u "java/lang/Object")] 113

def k0m0 : Method := { name := "<init>", desc := "()V", sig := { parameters := [], returnType := none }, accessFlags := 1, code := none }
/-- java/lang/Object -/
def k0 : Class := { plain "java/lang/Object" none with
  accessFlags := 33
  interfaces := #[]
  cf := some (fileOf pool0 8 #[] #[{ accessFlags := 1, nameIndex := 5, descriptorIndex := 6, attributes := #[] }] 33 0 #[] #[])
  fields := #[]
  methods := #[k0m0]
  instanceTypes := #[]
  staticTypes := #[]
  resolved := Array.replicate 124 none
  statics := none }

def pool1 : Array CpInfo := pool [(2, .class_ 4), (1, u "java/lang/Object"), (0, u "<init>"), (0, u "()V"), (0, .fieldref 8 9), (0, .class_ 10), (0, .nameAndType 11 12), (0, u "com/example/quadrille/quadrille/graphfilter/PatternKind"), (0, u "SUBJECT_PREDICATE_OBJECT"), (0, u "Lcom/example/quadrille/quadrille/graphfilter/PatternKind;"), (0, .fieldref 8 14), (0, .nameAndType 15 12), (0, u "SUBJECT_PREDICATE"), (0, .fieldref 8 17), (0, .nameAndType 18 12), (0, u "SUBJECT_OBJECT"), (0, .fieldref 8 20), (0, .nameAndType 21 12), (0, u "SUBJECT"), (0, .fieldref 8 23), (0, .nameAndType 24 12), (0, u "PREDICATE_OBJECT"), (0, .fieldref 8 26), (0, .nameAndType 27 12), (0, u "PREDICATE"), (0, .fieldref 8 29), (0, .nameAndType 30 12), (0, u "OBJECT"), (0, .methodref 8 32), (0, .nameAndType 33 34), (0, u "keeping"), (0, u "(ZZZ)Lcom/example/quadrille/quadrille/graphfilter/PatternKind;"), (0, .methodref 36 37), (0, .class_ 38), (0, .nameAndType 39 34), (0, u "com/example/quadrille/quadrille/graphfilter/PatternKindKeepingPinLaw"), (0, u "expected"), (3, u "law"), (0, u "(I)Z")] 2

def k1m0 : Method := { name := "<init>", desc := "()V", sig := { parameters := [], returnType := none }, accessFlags := 1, code := none }
def k1c1 : Code := { maxStack := 1, maxLocals := 3, code := method_2_code, exceptionTable := #[], attributes := #[] }
def k1m1 : Method := { name := "expected", desc := "(ZZZ)Lcom/example/quadrille/quadrille/graphfilter/PatternKind;", sig := { parameters := [.boolean, .boolean, .boolean], returnType := some (.object "com/example/quadrille/quadrille/graphfilter/PatternKind") }, accessFlags := 10, code := some k1c1 }
def k1c2 : Code := { maxStack := 4, maxLocals := 5, code := code, exceptionTable := #[], attributes := #[] }
def k1m2 : Method := { name := "law", desc := "(I)Z", sig := { parameters := [.int], returnType := some .boolean }, accessFlags := 9, code := some k1c2 }
/-- com/example/quadrille/quadrille/graphfilter/PatternKindKeepingPinLaw -/
def k1 : Class := { plain "com/example/quadrille/quadrille/graphfilter/PatternKindKeepingPinLaw" (some 0) with
  accessFlags := 49
  interfaces := #[]
  cf := some (fileOf pool1 36 #[] #[{ accessFlags := 1, nameIndex := 5, descriptorIndex := 6, attributes := #[] }, { accessFlags := 10, nameIndex := 39, descriptorIndex := 34, attributes := #[] }, { accessFlags := 9, nameIndex := 43, descriptorIndex := 44, attributes := #[] }] 49 2 #[] #[])
  fields := #[]
  methods := #[k1m0, k1m1, k1m2]
  instanceTypes := #[]
  staticTypes := #[]
  resolved := Array.replicate 47 none
  statics := none }

def pool2 : Array CpInfo := pool [(1, .class_ 2), (0, u "java/lang/constant/Constable"), (0, .class_ 4), (0, u "java/lang/Object")] 6

/-- java/lang/constant/Constable -/
def k2 : Class := { plain "java/lang/constant/Constable" (some 0) with
  accessFlags := 1537
  interfaces := #[]
  cf := some (fileOf pool2 1 #[] #[] 1537 3 #[] #[])
  fields := #[]
  methods := #[]
  instanceTypes := #[]
  staticTypes := #[]
  resolved := Array.replicate 11 none
  statics := none }

def pool3 : Array CpInfo := pool [(1, .class_ 2), (0, u "java/lang/Comparable"), (0, .class_ 4), (0, u "java/lang/Object")] 7

/-- java/lang/Comparable -/
def k3 : Class := { plain "java/lang/Comparable" (some 0) with
  accessFlags := 1537
  interfaces := #[]
  cf := some (fileOf pool3 1 #[] #[] 1537 3 #[] #[])
  fields := #[]
  methods := #[]
  instanceTypes := #[]
  staticTypes := #[]
  resolved := Array.replicate 12 none
  statics := none }

def pool4 : Array CpInfo := pool [(1, .class_ 2), (0, u "java/io/Serializable"), (0, .class_ 4), (0, u "java/lang/Object")] 2

/-- java/io/Serializable -/
def k4 : Class := { plain "java/io/Serializable" (some 0) with
  accessFlags := 1537
  interfaces := #[]
  cf := some (fileOf pool4 1 #[] #[] 1537 3 #[] #[])
  fields := #[]
  methods := #[]
  instanceTypes := #[]
  staticTypes := #[]
  resolved := Array.replicate 7 none
  statics := none }

def pool5 : Array CpInfo := pool [(2, .class_ 4), (1, u "java/lang/Enum"), (0, u "name"), (0, u "Ljava/lang/String;"), (2, u "ordinal"), (0, u "I"), (1, .class_ 14), (1, u "java/lang/Object"), (4, u "hash"), (86, .class_ 108), (1, u "java/lang/Enum$EnumDesc"), (2, .class_ 112), (0, u "java/lang/constant/Constable"), (0, .class_ 114), (0, u "java/lang/Comparable"), (0, .class_ 116), (0, u "java/io/Serializable")] 87

/-- java/lang/Enum -/
def k5 : Class := { plain "java/lang/Enum" (some 0) with
  accessFlags := 1057
  interfaces := #[2, 3, 4]
  cf := some (fileOf pool5 2 #[.nestMembers #[106]] #[] 1057 12 #[111, 113, 115] #[{ accessFlags := 18, nameIndex := 5, descriptorIndex := 6, attributes := #[] }, { accessFlags := 18, nameIndex := 9, descriptorIndex := 10, attributes := #[] }, { accessFlags := 2, nameIndex := 19, descriptorIndex := 10, attributes := #[] }])
  fields := #[{ name := "name", type := (.object "java/lang/String"), accessFlags := 18, slot := 0, constantValue := 0 }, { name := "ordinal", type := .int, accessFlags := 18, slot := 1, constantValue := 0 }, { name := "hash", type := .int, accessFlags := 2, slot := 2, constantValue := 0 }]
  methods := #[]
  instanceTypes := #[(.object "java/lang/String"), .int, .int]
  staticTypes := #[]
  resolved := Array.replicate 204 none
  statics := none }

def pool6 : Array CpInfo := pool [(1, .class_ 2), (0, u "com/example/quadrille/quadrille/graphfilter/PatternKind"), (2, u "SUBJECT_PREDICATE_OBJECT"), (0, u "Lcom/example/quadrille/quadrille/graphfilter/PatternKind;"), (2, u "SUBJECT_PREDICATE"), (2, u "SUBJECT_OBJECT"), (2, u "PREDICATE_OBJECT"), (2, u "SUBJECT"), (2, u "PREDICATE"), (2, u "OBJECT"), (2, u "$VALUES"), (0, u "[Lcom/example/quadrille/quadrille/graphfilter/PatternKind;"), (6, .class_ 37), (1, u "java/lang/Enum"), (6, .fieldref 1 45), (0, .nameAndType 46 47), (0, u "subject"), (0, u "Z"), (0, .fieldref 1 49), (0, .nameAndType 50 47), (0, u "predicate"), (0, .fieldref 1 52), (0, .nameAndType 53 47), (0, u "object"), (0, .fieldref 1 55), (0, .nameAndType 56 28), (0, u "KINDS"), (33, u "keeping"), (0, u "(ZZZ)Lcom/example/quadrille/quadrille/graphfilter/PatternKind;")] 10

def k6c0 : Code := { maxStack := 2, maxLocals := 8, code := prog_67_method_4_code, exceptionTable := #[], attributes := #[] }
def k6m0 : Method := { name := "keeping", desc := "(ZZZ)Lcom/example/quadrille/quadrille/graphfilter/PatternKind;", sig := { parameters := [.boolean, .boolean, .boolean], returnType := some (.object "com/example/quadrille/quadrille/graphfilter/PatternKind") }, accessFlags := 9, code := some k6c0 }
/-- com/example/quadrille/quadrille/graphfilter/PatternKind -/
def k6 : Class := { plain "com/example/quadrille/quadrille/graphfilter/PatternKind" (some 5) with
  accessFlags := 16433
  interfaces := #[]
  cf := some (fileOf pool6 1 #[] #[{ accessFlags := 9, nameIndex := 90, descriptorIndex := 91, attributes := #[] }] 16433 35 #[] #[{ accessFlags := 16409, nameIndex := 5, descriptorIndex := 6, attributes := #[] }, { accessFlags := 16409, nameIndex := 9, descriptorIndex := 6, attributes := #[] }, { accessFlags := 16409, nameIndex := 12, descriptorIndex := 6, attributes := #[] }, { accessFlags := 16409, nameIndex := 15, descriptorIndex := 6, attributes := #[] }, { accessFlags := 16409, nameIndex := 18, descriptorIndex := 6, attributes := #[] }, { accessFlags := 16409, nameIndex := 21, descriptorIndex := 6, attributes := #[] }, { accessFlags := 16409, nameIndex := 24, descriptorIndex := 6, attributes := #[] }, { accessFlags := 26, nameIndex := 56, descriptorIndex := 28, attributes := #[] }, { accessFlags := 18, nameIndex := 46, descriptorIndex := 47, attributes := #[] }, { accessFlags := 18, nameIndex := 50, descriptorIndex := 47, attributes := #[] }, { accessFlags := 18, nameIndex := 53, descriptorIndex := 47, attributes := #[] }, { accessFlags := 4122, nameIndex := 27, descriptorIndex := 28, attributes := #[] }])
  fields := #[{ name := "SUBJECT_PREDICATE_OBJECT", type := (.object "com/example/quadrille/quadrille/graphfilter/PatternKind"), accessFlags := 16409, slot := 0, constantValue := 0 }, { name := "SUBJECT_PREDICATE", type := (.object "com/example/quadrille/quadrille/graphfilter/PatternKind"), accessFlags := 16409, slot := 1, constantValue := 0 }, { name := "SUBJECT_OBJECT", type := (.object "com/example/quadrille/quadrille/graphfilter/PatternKind"), accessFlags := 16409, slot := 2, constantValue := 0 }, { name := "PREDICATE_OBJECT", type := (.object "com/example/quadrille/quadrille/graphfilter/PatternKind"), accessFlags := 16409, slot := 3, constantValue := 0 }, { name := "SUBJECT", type := (.object "com/example/quadrille/quadrille/graphfilter/PatternKind"), accessFlags := 16409, slot := 4, constantValue := 0 }, { name := "PREDICATE", type := (.object "com/example/quadrille/quadrille/graphfilter/PatternKind"), accessFlags := 16409, slot := 5, constantValue := 0 }, { name := "OBJECT", type := (.object "com/example/quadrille/quadrille/graphfilter/PatternKind"), accessFlags := 16409, slot := 6, constantValue := 0 }, { name := "KINDS", type := (.array (.object "com/example/quadrille/quadrille/graphfilter/PatternKind")), accessFlags := 26, slot := 7, constantValue := 0 }, { name := "subject", type := .boolean, accessFlags := 18, slot := 3, constantValue := 0 }, { name := "predicate", type := .boolean, accessFlags := 18, slot := 4, constantValue := 0 }, { name := "object", type := .boolean, accessFlags := 18, slot := 5, constantValue := 0 }, { name := "$VALUES", type := (.array (.object "com/example/quadrille/quadrille/graphfilter/PatternKind")), accessFlags := 4122, slot := 8, constantValue := 0 }]
  methods := #[k6m0]
  instanceTypes := #[(.object "java/lang/String"), .int, .int, .boolean, .boolean, .boolean]
  staticTypes := #[(.object "com/example/quadrille/quadrille/graphfilter/PatternKind"), (.object "com/example/quadrille/quadrille/graphfilter/PatternKind"), (.object "com/example/quadrille/quadrille/graphfilter/PatternKind"), (.object "com/example/quadrille/quadrille/graphfilter/PatternKind"), (.object "com/example/quadrille/quadrille/graphfilter/PatternKind"), (.object "com/example/quadrille/quadrille/graphfilter/PatternKind"), (.object "com/example/quadrille/quadrille/graphfilter/PatternKind"), (.array (.object "com/example/quadrille/quadrille/graphfilter/PatternKind")), (.array (.object "com/example/quadrille/quadrille/graphfilter/PatternKind"))]
  resolved := Array.replicate 102 none
  statics := some 0 }

def pool7 : Array CpInfo := pool [(1, u "java/lang/Cloneable"), (0, .class_ 1), (0, u "java/lang/Object"), (0, .class_ 3)] 3

/-- java/lang/Cloneable -/
def k7 : Class := { plain "java/lang/Cloneable" (some 0) with
  accessFlags := 1537
  interfaces := #[]
  cf := some (fileOf pool7 2 #[] #[] 1537 4 #[] #[])
  fields := #[]
  methods := #[]
  instanceTypes := #[]
  staticTypes := #[]
  resolved := Array.replicate 8 none
  statics := none }

/-- the primitive byte -/
def k8 : Class := { plain "byte" none with kind := .primitive 'B', accessFlags := 0x411 }
/-- [B -/
def k9 : Class := { plain "[B" (some 0) with kind := .array 8 .byte, interfaces := #[7, 4], accessFlags := 1041 }

/-- the primitive int -/
def k10 : Class := { plain "int" none with kind := .primitive 'I', accessFlags := 0x411 }
/-- [I -/
def k11 : Class := { plain "[I" (some 0) with kind := .array 10 .int, interfaces := #[7, 4], accessFlags := 1041 }

/-- [Lcom/example/quadrille/quadrille/graphfilter/PatternKind; -/
def k12 : Class := { plain "[Lcom/example/quadrille/quadrille/graphfilter/PatternKind;" (some 0) with kind := .array 6 (.object "com/example/quadrille/quadrille/graphfilter/PatternKind"), interfaces := #[7, 4], accessFlags := 1041 }

def heap : Heap := #[{ cls := 6, slots := #[.ref 2, .ref 3, .ref 4, .ref 5, .ref 6, .ref 7, .ref 8, .ref 1, .null], vm := .statics 6 },
  { cls := 12, slots := #[.ref 2, .ref 3, .ref 4, .ref 5, .ref 6, .ref 7, .ref 8], vm := .none },
  { cls := 6, slots := #[.null, .int 0, .int 0, .int 1, .int 1, .int 1], vm := .none },
  { cls := 6, slots := #[.null, .int 0, .int 0, .int 1, .int 1, .int 0], vm := .none },
  { cls := 6, slots := #[.null, .int 0, .int 0, .int 1, .int 0, .int 1], vm := .none },
  { cls := 6, slots := #[.null, .int 0, .int 0, .int 0, .int 1, .int 1], vm := .none },
  { cls := 6, slots := #[.null, .int 0, .int 0, .int 1, .int 0, .int 0], vm := .none },
  { cls := 6, slots := #[.null, .int 0, .int 0, .int 0, .int 1, .int 0], vm := .none },
  { cls := 6, slots := #[.null, .int 0, .int 0, .int 0, .int 0, .int 1], vm := .none }]
def classes : Array Class := #[k0, k1, k2, k3, k4, k5, k6, k7, k8, k9, k10, k11, k12]
def interned : List (Array UInt16 × Addr) := []
def slotsUsed : Nat := 58
def theMethod : MethodId := ⟨1, 2⟩
def args0 : Array Value := #[.int 5]
def aboutOver (below : List Frame) : State where
  vm := { classes := classes, interned := interned.toArray }
  heap := heap
  slotsUsed := slotsUsed
  threads := #[{ frames := .invoking theMethod args0 :: below }]
def below0 : List Frame := [.native { method := ⟨0, 0⟩, args := #[] }]
def about1 : State := aboutOver below0
def p0 : Program := .bare "" "" ""
def e0 : Env := launch0.env 0 0 0
theorem w_frames : about1.frames = Frame.invoking theMethod args0 :: below0 := rfl
set_option maxRecDepth 65536 in
theorem w_args : argsFit about1.vm theMethod args0 = true := by decide +kernel
set_option maxRecDepth 65536 in
theorem w_heap : heapFits about1 = true := by decide +kernel
set_option maxRecDepth 65536 in
theorem w_runnable : about1.curStatus? = some .runnable := by decide +kernel
set_option maxRecDepth 65536 in
theorem w_alone : about1.alone = true := by decide +kernel
set_option maxRecDepth 65536 in
theorem w_named : about1.methodNamed? x = some theMethod := by decide +kernel
set_option maxRecDepth 65536 in
theorem w_hears : about1.hears theMethod below0 = true := by decide +kernel
set_option maxRecDepth 65536 in
theorem w_ripe : about1.ripe theMethod args0 below0 = true := by decide +kernel
theorem w_running : about1.status = .running := rfl
set_option maxRecDepth 65536 in
theorem w_room : about1.hasRoom e0.platform room_1 = true :=
  launch0.hasRoom_least _ room_1 (by decide +kernel) (by decide +kernel) (by decide +kernel) (by decide +kernel) (by decide +kernel) (by decide +kernel)
theorem allAtoms_all (ts : List Jvm.Cond) (a : Array Jvm.Value) (st : Jvm.State) : (allAtoms ts).before a st = ts.all (fun c => c.before a st) := by
  induction ts with
  | nil => rfl
  | cons c t ih =>
    show (Jvm.Cond.and c (allAtoms t)).before a st = _
    rw [Jvm.Cond.before_and, ih, List.all_cons]
def words1 : List Jvm.Cond := Jvm.Cond.code x code maxLocals ret :: tables_1
/-- a 'code' word, met by the world's own term for the bytes: nothing is compared byte by byte -/
theorem code_word {y : MethodName} {bytes : ByteArray} {mx : Nat} {rt : Option FieldType} {a : Array Value} {s : State} {m : MethodId} {meth : Method} {c : Code} (h1 : s.methodNamed? y = some m) (h2 : s.vm.method? m = some meth) (h3 : meth.code = some c) (h4 : c.code = bytes)
    (h5 : (c.maxLocals == mx && c.exceptionTable.isEmpty && decide (c.maxStack ≤ mostOperands) && decide (meth.sig.returnType = rt) && !meth.locks && decide (parseMethodDescriptor y.desc = some meth.sig)) = true) : (Jvm.Cond.code y bytes mx rt).before a s = true := by
  simp only [Bool.and_eq_true, beq_iff_eq, Bool.not_eq_true', decide_eq_true_eq] at h5
  obtain ⟨⟨⟨⟨⟨g1, g2⟩, g3⟩, g4⟩, g5⟩, g6⟩ := h5
  simp [Cond.before, Cond.holds, Cond.value, h1, h2, h3, h4, g1, g2, g3, g4, g5, g6]
def isCode : Jvm.Cond → Bool
  | .code _ _ _ _ => true
  | _ => false
theorem all_split {L : List Jvm.Cond} {P : Jvm.Cond → Bool} (h1 : L.all (fun c => isCode c || P c) = true) (h2 : ∀ c ∈ L.filter isCode, P c = true) : L.all P = true := by
  refine List.all_eq_true.mpr fun c hc => ?_
  have h := List.all_eq_true.mp h1 c hc
  rcases Bool.eq_false_or_eq_true (isCode c) with hi | hi
  · exact h2 c (List.mem_filter.mpr ⟨hc, hi⟩)
  · simpa [hi] using h
set_option maxRecDepth 65536 in
theorem w_c0 : (Jvm.Cond.code x code maxLocals ret).before args0 about1 = true := code_word (m := ⟨1, 2⟩) (meth := k1m2) (c := k1c2) (by decide +kernel) rfl rfl rfl (by decide +kernel)
set_option maxRecDepth 65536 in
theorem w_c1 : (Jvm.Cond.code ({ cls := "com/example/quadrille/quadrille/graphfilter/PatternKind", name := "keeping", desc := "(ZZZ)Lcom/example/quadrille/quadrille/graphfilter/PatternKind;" } : Jvm.MethodName) prog_67_method_4_code (8 : Nat) (Option.some (Jvm.ClassFile.FieldType.object "com/example/quadrille/quadrille/graphfilter/PatternKind"))).before args0 about1 = true := code_word (m := ⟨6, 0⟩) (meth := k6m0) (c := k6c0) (by decide +kernel) rfl rfl rfl (by decide +kernel)
set_option maxRecDepth 65536 in
theorem w_c2 : (Jvm.Cond.code ({ cls := "com/example/quadrille/quadrille/graphfilter/PatternKindKeepingPinLaw", name := "expected", desc := "(ZZZ)Lcom/example/quadrille/quadrille/graphfilter/PatternKind;" } : Jvm.MethodName) method_2_code (3 : Nat) (Option.some (Jvm.ClassFile.FieldType.object "com/example/quadrille/quadrille/graphfilter/PatternKind"))).before args0 about1 = true := code_word (m := ⟨1, 1⟩) (meth := k1m1) (c := k1c1) (by decide +kernel) rfl rfl rfl (by decide +kernel)
def codes1 : List Jvm.Cond := [Jvm.Cond.code x code maxLocals ret, Jvm.Cond.code ({ cls := "com/example/quadrille/quadrille/graphfilter/PatternKind", name := "keeping", desc := "(ZZZ)Lcom/example/quadrille/quadrille/graphfilter/PatternKind;" } : Jvm.MethodName) prog_67_method_4_code (8 : Nat) (Option.some (Jvm.ClassFile.FieldType.object "com/example/quadrille/quadrille/graphfilter/PatternKind")), Jvm.Cond.code ({ cls := "com/example/quadrille/quadrille/graphfilter/PatternKindKeepingPinLaw", name := "expected", desc := "(ZZZ)Lcom/example/quadrille/quadrille/graphfilter/PatternKind;" } : Jvm.MethodName) method_2_code (3 : Nat) (Option.some (Jvm.ClassFile.FieldType.object "com/example/quadrille/quadrille/graphfilter/PatternKind"))]
set_option maxRecDepth 65536 in
theorem codes_eq : words1.filter isCode = codes1 := rfl
theorem w_codes : ∀ c ∈ words1.filter isCode, c.before args0 about1 = true := by
  rw [codes_eq]
  intro c hc
  simp only [codes1, List.mem_cons, List.not_mem_nil, or_false] at hc
  rcases hc with rfl | rfl | rfl
  · exact w_c0
  · exact w_c1
  · exact w_c2
set_option maxRecDepth 65536 in
theorem w_t1 : (words1.take 24).all (fun c => isCode c || c.before args0 about1) = true := by decide +kernel
set_option maxRecDepth 65536 in
theorem w_t2 : (words1.drop 24).all (fun c => isCode c || c.before args0 about1) = true := by decide +kernel
theorem w_tables : (allAtoms (Jvm.Cond.code x code maxLocals ret :: tables_1)).before args0 about1 = true := by
  rw [allAtoms_all]
  show words1.all (fun c => c.before args0 about1) = true
  refine all_split ?_ w_codes
  rw [← List.take_append_drop 24 words1, List.all_append, w_t1, w_t2]
  rfl
set_option maxRecDepth 65536 in
theorem w_case : (Jvm.Cond.and given_1 narrow_1).before args0 about1 = true := by decide +kernel
theorem w_applies : (headSpec (Jvm.Cond.code x code maxLocals ret :: tables_1) room_1).applies x e0.platform about1 = true :=
  (Spec.applies_iff w_frames).mpr ⟨w_running, w_runnable, w_alone, w_named, w_hears, w_ripe, w_room, w_tables⟩
theorem atStart : AtStart classFile x code maxLocals ret World_1 tables_1 room_1 Calls_1 rest_1 Pre_1 launch0 p0 e0 about1 theMethod args0 below0 :=
  ⟨lists_1, trivial, launch0.admits_env _ _ _, launch0.least_env, fairChoices_fair.cas, fairChoices_fair.clock, w_frames, w_args, w_heap, w_applies, trivial, trivial, w_case⟩
end start1
theorem witness_1 : WitnessClaimed_1 := ⟨start1.p0, start1.e0, start1.about1, start1.theMethod, start1.args0, start1.below0, start1.atStart⟩
end Jvm.Pilot.@@N@@
