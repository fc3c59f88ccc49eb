import JvmDerived
import JvmDerived.Pilot.@@N@@Statement
import JvmDerived.Pilot.@@N@@Code
set_option linter.unusedVariables false
set_option linter.unusedSimpArgs false
namespace Jvm.RoadKit
open Sem ClassFile Op Lib Jvm.Stand Jvm.Free Jvm.LawKit
section New
variable {p : Program} {l : Launch} {e : Env} {R : Room} {s : State} {m : MethodId} {args : Array Value} {below : List Frame} {meth : Method} {c : Code} {T : State} {locs : List Loc} {cells slots : Nat}
theorem retI (X : Stand p l e R s m args below meth c T locs cells slots) (hx : p.tables.exec = Jvm.exec) {pc : Nat} {Ls : Array Slot} {z : Int32} {rest : List Value} (hret : meth.sig.returnType = some .int) (hd : decode c.code pc = .ok (.ireturn, 1)) {fs : List Frame}
    (hl : ∀ (f : JFrame) (acts : List Action), f.method = m → f.locked = none → f.entered = [] → (doReturn e (T.setTop f) acts (some (.int z))).1 = T.setFrames fs) : Steps p.tables e below (T.setTop (mkF m pc Ls (.int z :: rest))) (T.setFrames fs) := by
  have hm' : T.vm.method? m = some meth := X.method'
  have hn : narrow .int (.int z) = .int z := rfl
  show Steps p.tables e below (T.setTop { method := m, pc := pc, locals := Ls, stack := _ :: rest, locked := none }) _
  jvm_step X.here [X.here.top, hx, hd, hm', hret, hn]
  first | (intro acts; rw [hl _ acts rfl rfl rfl]) | rw [hl _ _ rfl rfl rfl]
  exact Steps.refl _
end New
end Jvm.RoadKit
namespace Jvm.Pilot.@@N@@
open Jvm Jvm.ClassFile Sem Op Lib Jvm.Free Jvm.Stand Jvm.LawKit Jvm.RoadKit Bundle Jvm.Pilot.@@N@@.Jvm.D
theorem own_eqI {t : Term} {args : Array Value} {first s : State} {o : Option Outcome} {idx : List Nat} {k : Int32} (h : (Jvm.Cond.eq t (.int k)).value args first o s idx = some true) : t.eval args first o idx s = some (.int k) := by
  cases ht : t.eval args first o idx s with
  | none => simp [Cond.value, ht] at h
  | some x => cases x <;> simp [Cond.value, ht, Term.eval] at h ⊢ <;> exact h
theorem own_eqJ {t : Term} {args : Array Value} {first s : State} {o : Option Outcome} {idx : List Nat} {k : Int64} (h : (Jvm.Cond.eq t (.long k)).value args first o s idx = some true) : t.eval args first o idx s = some (.long k) := by
  cases ht : t.eval args first o idx s with
  | none => simp [Cond.value, ht] at h
  | some x => cases x <;> simp [Cond.value, ht, Term.eval] at h ⊢ <;> exact h
theorem own_eqR {t u : Term} {args : Array Value} {first s : State} {o : Option Outcome} {idx : List Nat} {x : Addr} (h : (Jvm.Cond.eq t u).value args first o s idx = some true) (hu : u.eval args first o idx s = some (.ref x)) : t.eval args first o idx s = some (.ref x) := by
  cases ht : t.eval args first o idx s with
  | none => simp [Cond.value, ht] at h
  | some z => cases z <;> simp [Cond.value, ht, hu] at h ⊢ <;> exact h
theorem cat_of {v : Value} (h : v.isRef = true) : v.category = 1 := by rcases ref_cases h with rfl | ⟨a, rfl⟩ <;> rfl
theorem own_fits {n : String} {v : Value} (h : v.isRef = true) : fits (.object n) v = true := by rcases ref_cases h with rfl | ⟨a, rfl⟩ <;> rfl
theorem own_exa_ns {Z : State} {h : Heap} {a : Addr} {C : String} (E : Exa Z h a C) : ∀ c : Cell, h[a]? = some c → c.vm.isStatics = false := fun c hc => by
  obtain ⟨cell, k, h1, -, -, h4, -⟩ := E
  cases h1.symm.trans hc; exact h4
theorem own_sta_keep {Z : State} {h h' : Heap} {ws : List Addr} {C n d : String} {v : Value} (F : Sta Z h C n d v) (K : Keep h h' ws) (q : ∀ x ∈ ws, ∀ c : Cell, h[x]? = some c → c.vm.isStatics = false) : Sta Z h' C n d v := by
  obtain ⟨cf, i, k, f, st, cell, h1, h2, h3, h4, h5, h6, r⟩ := F
  refine ⟨cf, i, k, f, st, cell, h1, h2, h3, h4, K.2.1 st cell h5 (fun hm => ?_), h6, r⟩
  have := q st hm cell h5
  rw [h6] at this; cases this
theorem own_arrayAt {Z : State} {a : Addr} {c : Cell} {ty : FieldType} (A : Arr Z Z.heap a c ty) : Z.arrayAt? a = some c := Arr.fin (State.Warmed39.refl Z).alike A
theorem own_len {t : Term} {args : Array Value} {s : State} {a : Addr} {cl : Cell} {ty : FieldType} {k : Int32} (h : (Jvm.Cond.eq (.length t) (.int k)).value args s none s [] = some true) (ht : t.eval args s none [] s = some (.ref a)) (A : Arr s s.heap a cl ty) : cl.slots.size < 2 ^ 31 ∧ cl.slots.size.toInt32 = k := by
  have e := own_eqI h
  have ha := own_arrayAt A
  by_cases hl : cl.slots.size < 2 ^ 31
  · rw [len_f ht ha hl] at e
    exact ⟨hl, Value.int.inj (Option.some.inj e)⟩
  · simp [Term.eval, ht, ha] at e
    exact absurd e.1 hl
theorem pn_0 : plainName "com/example/token_handoff/tokenhandoff/Kind" = true := by first | (simp [plainName, overriddenIn]; done) | decide +kernel
theorem d3_0 : decode prog_12_method_1_code 0 = .ok (.getstatic 19, 3) := by decide +kernel
theorem d3_3 : decode prog_12_method_1_code 3 = .ok (.invokevirtual 23, 3) := by decide +kernel
theorem d3_6 : decode prog_12_method_1_code 6 = .ok (.checkcast 24, 3) := by decide +kernel
theorem d3_9 : decode prog_12_method_1_code 9 = .ok (.areturn, 1) := by decide +kernel
theorem ef_3 (m : MethodId)   : entryFrame m #[] 0 = mkF m 0 #[] [] := by first | (simp [entryFrame, mkF, argsToLocals, Value.category]; done) | rfl
def Q3 (Z : State) (kA : ClassId) (va : Addr) (v0 : Addr) (v1 : Addr) (v2 : Addr) (v3 : Addr) (v4 : Addr) (h0 : Heap) (n0 : Nat) (v : Option Value) (h : Heap) (L : List Loc) : Prop := (∃ r : Addr, v = some (.ref r) ∧ (h0.size ≤ r) ∧ (Arv Z h r kA (.object "com/example/token_handoff/tokenhandoff/Kind") (5 : Int32) [(.ref v0), (.ref v1), (.ref v2), (.ref v3), (.ref v4)] .null) ∧ (Exa Z h r "[Lcom/example/token_handoff/tokenhandoff/Kind;")) ∧ Fr n0 L ∧ (Keep h0 h [])
set_option maxRecDepth 65536 in
set_option maxHeartbeats 40000000 in
theorem rm3 (l : Launch) (Z : State) (aw : Array Value) (hw : ∀ d ∈ tables_1, d.before aw Z = true) (ws : List Jvm.Cond) (kA : ClassId) (va : Addr) (v0 : Addr) (v1 : Addr) (v2 : Addr) (v3 : Addr) (v4 : Addr) (h0 : Heap) (n0 : Nat) (Z0 : n0 ≤ h0.size) (Arv_0 : Arv Z h0 va kA (.object "com/example/token_handoff/tokenhandoff/Kind") (5 : Int32) [(.ref v0), (.ref v1), (.ref v2), (.ref v3), (.ref v4)] .null) (Exa_1 : Exa Z h0 va "[Lcom/example/token_handoff/tokenhandoff/Kind;") (Sf__VALUES_2 : Sta Z h0 "com/example/token_handoff/tokenhandoff/Kind" "$VALUES" "[Lcom/example/token_handoff/tokenhandoff/Kind;" (.ref va)) :
    MetFree l (⟨"com/example/token_handoff/tokenhandoff/Kind", "values", "()[Lcom/example/token_handoff/tokenhandoff/Kind;"⟩ : MethodName) (head1 (Jvm.Cond.code (⟨"com/example/token_handoff/tokenhandoff/Kind", "values", "()[Lcom/example/token_handoff/tokenhandoff/Kind;"⟩ : MethodName) prog_12_method_1_code 0 (some (.array (.object "com/example/token_handoff/tokenhandoff/Kind"))) :: ws) ({ frames := 1, cells := 1, slots := 5, locals := 14 } : Room)) (fun a U => a = #[] ∧ Z.Warmed39 U.vm ∧ U.heap = h0) (fun _ _ _ _ _ => True) (fun _ U o U' => ∃ v L, o = .returned v ∧ Q3 Z kA va v0 v1 v2 v3 v4 h0 n0 v U'.heap L ∧ FrameEnd U o U' L ({ frames := 1, cells := 1, slots := 5, locals := 14 } : Room).cells ({ frames := 1, cells := 1, slots := 5, locals := 14 } : Room).slots) := by
  refine MetFree.of_bodySF (plainFor_of_name pn_0) hisR ?_
  intro p e s m args below meth c s₁ Bd hml0 hP hK
  obtain ⟨rfl, hZ, hh⟩ := hP
  have hx := Bd.exec
  have hby := Bd.bytes
  have hml : c.maxLocals = 0 := hml0
  have hown : s.vm.findClass "com/example/token_handoff/tokenhandoff/Kind" = some m.cls := findClass_of_methodNamed Bd.named
  have hnm := (name_of_methodNamed Bd.named Bd.method).1
  have X0 : Stand p l e ({ frames := 1, cells := 1, slots := 5, locals := 14 } : Room) s m #[] below meth c s₁ [] 0 0 := Stand.of_body Bd
  have e0 : s₁.heap = h0 := by rw [← hh, Bd.state]; rfl
  have N0 := Fr.nil n0
  have pre0 : ∀ t, Steps p.tables e below (s₁.setTop (mkF m 0 #[] [])) t → Steps p.tables e below (s₁.setTop (entryFrame m #[] 0)) t := fun t k => castTop (ef_3 m  ) k
  obtain ⟨T1, X1, e1, st1⟩ := getS2 X0 hx hZ hown (host := "") (Or.inl (hw _ (List.mem_of_getElem? (i := 11) rfl))) Via.refl e0 Sf__VALUES_2 (g := (mkF m 0 #[] [])) rfl (hb hby d3_0)
  obtain ⟨T2, h2, X2, e2, E2, A2, C2, st2⟩ := cloneH X1 hx hZ hown (hw _ (List.mem_of_getElem? (i := 13) rfl)) (hw _ (List.mem_of_getElem? (i := 14) rfl)) (hw _ (List.mem_of_getElem? (i := 18) rfl)) (hw _ (List.mem_of_getElem? (i := 16) rfl)) (hw _ (List.mem_of_getElem? (i := 17) rfl)) (hw _ (List.mem_of_getElem? (i := 19) rfl)) e1 (Arv.arh Arv_0) Exa_1 (g := (mkF m 3 #[] [(.ref va)])) rfl (by rw [hml]; rfl) rfl (hb hby d3_3) (by decide) (W := 0) (cap := 5) (by show 2 * 0 + _ ≤ _; exact Nat.le_of_eq rfl) (by decide) (by decide) (by decide) (by decide)
  obtain ⟨b2, g2⟩ : ∃ z, z = h0.size := ⟨_, rfl⟩
  rw [← g2] at A2 C2 st2
  have f3 := (Arv_0.ext E2)
  have f4 := (Exa_1.ext E2)
  have f5 := (Sf__VALUES_2.ext E2)
  have ne6 : va ≠ b2 := Nat.ne_of_lt (Nat.lt_of_lt_of_le Arv_0.lt (Nat.le_of_eq g2.symm))
  have ge_b2 : n0 ≤ b2 := Nat.le_trans Z0 (Nat.le_of_eq g2.symm)
  have sz_b2 : h0.size ≤ b2 := Nat.le_trans (Keep.refl h0 []).1 (Nat.le_of_eq g2.symm)
  have K2 : Keep h0 h2 [] := Keep.ext (Keep.refl h0 []) E2
  obtain ⟨T7, X7, e7, st7⟩ := castY X2 hx hZ hown (hw _ (List.mem_of_getElem? (i := 26) rfl)) e2 (Ins.self C2) (g := (mkF m 6 #[] [(.ref b2)])) rfl rfl (hb hby d3_6)
  have pre8 : ∀ t, Steps p.tables e below (T7.setTop (mkF m 9 #[] [(.ref b2)])) t → Steps p.tables e below (s₁.setTop (entryFrame m #[] 0)) t := fun t kt => pre0 t (by
      show Steps p.tables e below (s₁.setTop (mkF m 0 #[] [])) _
      refine st1 _ ?_
      show Steps p.tables e below (T1.setTop (mkF m 3 #[] [(.ref va)])) _
      refine st2 _ ?_
      show Steps p.tables e below (T2.setTop (mkF m 6 #[] [(.ref b2)])) _
      refine st7 _ ?_
      exact kt)
  obtain ⟨fs, hr, hrun, hended, hW, hsame⟩ := X7.leave (v := some (.ref b2)) (fun h => by rw [Bd.returns] at h; cases h)
  refine ⟨_, _, pre8 _ ?_, hrun, hended, _, _, rfl, ?_, ⟨_, rfl⟩, hW, hsame.mono (by decide) (by decide)⟩
  · show Steps p.tables e below (T7.setTop (mkF m 9 #[] [(.ref b2)])) _
    jvm_step X7.here [X7.here.top, hx, (hb hby d3_9), X7.method', Bd.returns, Value.isRef, FieldType.isReference]
    first | (intro acts; rw [hr _ acts rfl rfl rfl]) | rw [hr _ _ rfl rfl rfl]
    exact Steps.refl _
  · show Q3 Z _ _ _ _ _ _ _ h0 n0 _ T7.heap _
    rw [e7]
    exact ⟨⟨_, rfl, sz_b2, A2, C2⟩, N0, K2⟩
theorem pd_0 : parseMethodDescriptor "()[Lcom/example/token_handoff/tokenhandoff/Kind;" = some ⟨[], some (.array (.object "com/example/token_handoff/tokenhandoff/Kind"))⟩ := by decide +kernel
theorem d2_0 : decode prog_12_method_5_code 0 = .ok (.invokestatic 42, 3) := by decide +kernel
theorem d2_3 : decode prog_12_method_5_code 3 = .ok (.astore_n 1, 1) := by decide +kernel
theorem d2_4 : decode prog_12_method_5_code 4 = .ok (.aload_n 1, 1) := by decide +kernel
theorem d2_5 : decode prog_12_method_5_code 5 = .ok (.arraylength, 1) := by decide +kernel
theorem d2_6 : decode prog_12_method_5_code 6 = .ok (.istore_n 2, 1) := by decide +kernel
theorem d2_7 : decode prog_12_method_5_code 7 = .ok (.iconst 0, 1) := by decide +kernel
theorem d2_8 : decode prog_12_method_5_code 8 = .ok (.istore_n 3, 1) := by decide +kernel
theorem d2_9 : decode prog_12_method_5_code 9 = .ok (.iload_n 3, 1) := by decide +kernel
theorem d2_10 : decode prog_12_method_5_code 10 = .ok (.iload_n 2, 1) := by decide +kernel
theorem d2_11 : decode prog_12_method_5_code 11 = .ok (.if_icmp .ge 26, 3) := by decide +kernel
theorem d2_14 : decode prog_12_method_5_code 14 = .ok (.aload_n 1, 1) := by decide +kernel
theorem d2_15 : decode prog_12_method_5_code 15 = .ok (.iload_n 3, 1) := by decide +kernel
theorem d2_16 : decode prog_12_method_5_code 16 = .ok (.aaload, 1) := by decide +kernel
theorem d2_17 : decode prog_12_method_5_code 17 = .ok (.astore 4, 2) := by decide +kernel
theorem d2_19 : decode prog_12_method_5_code 19 = .ok (.aload 4, 2) := by decide +kernel
theorem d2_21 : decode prog_12_method_5_code 21 = .ok (.getfield 38, 3) := by decide +kernel
theorem d2_24 : decode prog_12_method_5_code 24 = .ok (.iload_n 0, 1) := by decide +kernel
theorem d2_25 : decode prog_12_method_5_code 25 = .ok (.if_icmp .ne 6, 3) := by decide +kernel
theorem d2_28 : decode prog_12_method_5_code 28 = .ok (.aload 4, 2) := by decide +kernel
theorem d2_30 : decode prog_12_method_5_code 30 = .ok (.areturn, 1) := by decide +kernel
theorem d2_31 : decode prog_12_method_5_code 31 = .ok (.iinc 3 1, 3) := by decide +kernel
theorem d2_34 : decode prog_12_method_5_code 34 = .ok (.goto (-25), 3) := by decide +kernel
theorem d2_37 : decode prog_12_method_5_code 37 = .ok (.aconst_null, 1) := by decide +kernel
theorem d2_38 : decode prog_12_method_5_code 38 = .ok (.areturn, 1) := by decide +kernel
theorem ef_2 (m : MethodId) (x0 : Int32)  : entryFrame m #[(.int x0)] 5 = mkF m 0 #[.val (.int x0), .unset, .unset, .unset, .unset] [] := by first | (simp [entryFrame, mkF, argsToLocals, Value.category]; done) | rfl
def Q2 (Z : State) (p0 : Int32) (kA : ClassId) (va : Addr) (v0 : Addr) (v1 : Addr) (v2 : Addr) (v3 : Addr) (v4 : Addr) (h0 : Heap) (n0 : Nat) (v : Option Value) (h : Heap) (L : List Loc) : Prop := (∃ r : Value, v = some r ∧ (((1 : Int32) = p0 → (Value.ref v0) = r) ∧ ((2 : Int32) = p0 → (Value.ref v1) = r) ∧ ((3 : Int32) = p0 → (Value.ref v2) = r) ∧ ((4 : Int32) = p0 → (Value.ref v3) = r) ∧ ((5 : Int32) = p0 → (Value.ref v4) = r) ∧ (¬ (1 : Int32) = p0 → ¬ (2 : Int32) = p0 → ¬ (3 : Int32) = p0 → ¬ (4 : Int32) = p0 → ¬ (5 : Int32) = p0 → Value.null = r))) ∧ Fr n0 L ∧ (Keep h0 h [])
set_option maxRecDepth 65536 in
set_option maxHeartbeats 40000000 in
theorem rm2 (l : Launch) (Z : State) (aw : Array Value) (hw : ∀ d ∈ tables_1, d.before aw Z = true) (ws : List Jvm.Cond) (p0 : Int32) (kA : ClassId) (va : Addr) (v0 : Addr) (v1 : Addr) (v2 : Addr) (v3 : Addr) (v4 : Addr) (h0 : Heap) (n0 : Nat) (Z0 : n0 ≤ h0.size) (Arv_0 : Arv Z h0 va kA (.object "com/example/token_handoff/tokenhandoff/Kind") (5 : Int32) [(.ref v0), (.ref v1), (.ref v2), (.ref v3), (.ref v4)] .null) (Exa_1 : Exa Z h0 va "[Lcom/example/token_handoff/tokenhandoff/Kind;") (Fld_2 : Fld Z h0 v0 "com/example/token_handoff/tokenhandoff/Kind" "code" "I" (.int (1 : Int32))) (Fld_3 : Fld Z h0 v1 "com/example/token_handoff/tokenhandoff/Kind" "code" "I" (.int (2 : Int32))) (Fld_4 : Fld Z h0 v2 "com/example/token_handoff/tokenhandoff/Kind" "code" "I" (.int (3 : Int32))) (Fld_5 : Fld Z h0 v3 "com/example/token_handoff/tokenhandoff/Kind" "code" "I" (.int (4 : Int32))) (Fld_6 : Fld Z h0 v4 "com/example/token_handoff/tokenhandoff/Kind" "code" "I" (.int (5 : Int32))) (Sf__VALUES_7 : Sta Z h0 "com/example/token_handoff/tokenhandoff/Kind" "$VALUES" "[Lcom/example/token_handoff/tokenhandoff/Kind;" (.ref va)) :
    MetFree l (⟨"com/example/token_handoff/tokenhandoff/Kind", "ofCode", "(I)Lcom/example/token_handoff/tokenhandoff/Kind;"⟩ : MethodName) (head1 (Jvm.Cond.code (⟨"com/example/token_handoff/tokenhandoff/Kind", "ofCode", "(I)Lcom/example/token_handoff/tokenhandoff/Kind;"⟩ : MethodName) prog_12_method_5_code 5 (some (.object "com/example/token_handoff/tokenhandoff/Kind")) :: ws) ({ frames := 2, cells := 1, slots := 5, locals := 25 } : Room)) (fun a U => a = #[(.int p0)] ∧ Z.Warmed39 U.vm ∧ U.heap = h0) (fun _ _ _ _ _ => True) (fun _ U o U' => ∃ v L, o = .returned v ∧ Q2 Z p0 kA va v0 v1 v2 v3 v4 h0 n0 v U'.heap L ∧ FrameEnd U o U' L ({ frames := 2, cells := 1, slots := 5, locals := 25 } : Room).cells ({ frames := 2, cells := 1, slots := 5, locals := 25 } : Room).slots) := by
  refine MetFree.of_bodySF (plainFor_of_name pn_0) hisR ?_
  intro p e s m args below meth c s₁ Bd hml0 hP hK
  obtain ⟨rfl, hZ, hh⟩ := hP
  have hx := Bd.exec
  have hby := Bd.bytes
  have hml : c.maxLocals = 5 := hml0
  have hown : s.vm.findClass "com/example/token_handoff/tokenhandoff/Kind" = some m.cls := findClass_of_methodNamed Bd.named
  have hnm := (name_of_methodNamed Bd.named Bd.method).1
  have X0 : Stand p l e ({ frames := 2, cells := 1, slots := 5, locals := 25 } : Room) s m #[(.int p0)] below meth c s₁ [] 0 0 := Stand.of_body Bd
  have e0 : s₁.heap = h0 := by rw [← hh, Bd.state]; rfl
  have N0 := Fr.nil n0
  have pre0 : ∀ t, Steps p.tables e below (s₁.setTop (mkF m 0 #[.val (.int p0), .unset, .unset, .unset, .unset] [])) t → Steps p.tables e below (s₁.setTop (entryFrame m #[(.int p0)] 5)) t := fun t k => castTop (ef_2 m p0 ) k
  obtain ⟨_, _, ⟨T1, L1, k1, n1⟩, -, X1, ⟨Lc1, hQ1, l1, y1, z1⟩, st1⟩ := Jvm.LawKit.callS X0 hx (y := (⟨"com/example/token_handoff/tokenhandoff/Kind", "values", "()[Lcom/example/token_handoff/tokenhandoff/Kind;"⟩ : MethodName)) hown (mvT hZ (hw _ (List.mem_of_getElem? (i := 8) rfl))) (mvT hZ (hw _ (List.mem_of_getElem? (i := 9) rfl))) (mvT hZ (hw _ (List.mem_of_getElem? (i := 6) rfl))) (mvT hZ (hw _ (List.mem_of_getElem? (i := 10) rfl))) (by decide) (backOf (W := 0) (rm3 l Z aw hw [] kA va v0 v1 v2 v3 v4 h0 n0 Z0 Arv_0 Exa_1 Sf__VALUES_7) hZ (hw _ (List.mem_of_getElem? (i := 10) rfl)) (hw _ (List.mem_of_getElem? (i := 6) rfl)) (by decide) (by decide)) (g := (mkF m 0 #[.val (.int p0), .unset, .unset, .unset, .unset] [])) rfl (by rw [hml]; rfl) (argsL := []) (rest := []) (lenOf pd_0 rfl) rfl (by show 2 * 0 + _ ≤ _; exact Nat.le_of_eq rfl) (hb hby d2_0) (fun _ _ => ⟨rfl, e0, (by decide : 0 + 1 ≤ _), (by decide : 0 + 5 ≤ _)⟩)
  dsimp only [Pt.U, Pt.locs, Pt.cells, Pt.slots] at X1 l1 y1 z1 st1 hQ1
  subst l1 y1 z1
  obtain ⟨⟨r2, rfl, m1_0, m1_1, m1_2⟩, Nq1, c1_0⟩ := hQ1
  have N1 := Fr.app N0 Nq1
  have f3 := (Arv_0.keep c1_0 nin0)
  have f4 := (Exa_1.keep c1_0)
  have f5 := (Fld_2.keep c1_0 nin0)
  have f6 := (Fld_3.keep c1_0 nin0)
  have f7 := (Fld_4.keep c1_0 nin0)
  have f8 := (Fld_5.keep c1_0 nin0)
  have f9 := (Fld_6.keep c1_0 nin0)
  have f10 := (own_sta_keep Sf__VALUES_7 c1_0 all0)
  have K11 : Keep h0 T1.heap [] := Keep.trans (Keep.refl h0 []) c1_0 all0
  obtain ⟨co12, Ao12, qo12, So12, No12, Ho12, Go12⟩ := id m1_1
  obtain ⟨co13, Ao13, qo13, So13, No13, Ho13, Go13⟩ := id m1_1
  have hin14 : ¬ ((0 : Int32) < 0 ∨ co13.slots.size ≤ ((0 : Int32)).toNatClampNeg) := inb_of So13 ⟨by decide, by decide⟩
  have hat15 : co13.slots[((0 : Int32)).toNatClampNeg]? = some (.ref v0) := Has.at Ho13 hin14 rfl
  obtain ⟨T16, X16, e16, st16⟩ := getF X1 hx hZ hown (host := "") (Or.inl (hw _ (List.mem_of_getElem? (i := 28) rfl))) Via.refl rfl f5 (g := (mkF m 21 #[.val (.int p0), .val (.ref r2), .val (.int (5 : Int32)), .val (.int (0 : Int32)), .val (.ref v0)] [(.ref v0)])) rfl rfl (hb hby d2_21)
  have pre17 : ∀ t, Steps p.tables e below (T16.setTop (mkF m 25 #[.val (.int p0), .val (.ref r2), .val (.int (5 : Int32)), .val (.int (0 : Int32)), .val (.ref v0)] [(.int p0), (.int (1 : Int32))])) t → Steps p.tables e below (s₁.setTop (entryFrame m #[(.int p0)] 5)) t := fun t kt => pre0 t (by
      show Steps p.tables e below (s₁.setTop (mkF m 0 #[.val (.int p0), .unset, .unset, .unset, .unset] [])) _
      refine st1 _ ?_
      show Steps p.tables e below (T1.setTop (mkF m 3 #[.val (.int p0), .unset, .unset, .unset, .unset] [(.ref r2)])) _
      refine XS.astoreN X1.here hx rfl (hb hby d2_3) rfl rfl (l' := #[.val (.int p0), .val (.ref r2), .unset, .unset, .unset]) rfl ?_
      show Steps p.tables e below (T1.setTop (mkF m 4 #[.val (.int p0), .val (.ref r2), .unset, .unset, .unset] [])) _
      refine XS.aloadN X1.here hx rfl (hb hby d2_4) rfl rfl ?_
      show Steps p.tables e below (T1.setTop (mkF m 5 #[.val (.int p0), .val (.ref r2), .unset, .unset, .unset] [(.ref r2)])) _
      refine X1.arraylength hx Ao12.1 (State.isArrayOf_alike hZ.alike Ao12.2.1) (g := (mkF m 5 #[.val (.int p0), .val (.ref r2), .unset, .unset, .unset] [(.ref r2)])) rfl rfl (hb hby d2_5) _ ?_
      rw [len_of So12 No12]
      show Steps p.tables e below (T1.setTop (mkF m 6 #[.val (.int p0), .val (.ref r2), .unset, .unset, .unset] [(.int (5 : Int32))])) _
      refine XS.istoreN X1.here hx rfl (hb hby d2_6) rfl (l' := #[.val (.int p0), .val (.ref r2), .val (.int (5 : Int32)), .unset, .unset]) rfl ?_
      show Steps p.tables e below (T1.setTop (mkF m 7 #[.val (.int p0), .val (.ref r2), .val (.int (5 : Int32)), .unset, .unset] [])) _
      refine XS.iconst X1.here hx rfl (hb hby d2_7) ?_
      show Steps p.tables e below (T1.setTop (mkF m 8 #[.val (.int p0), .val (.ref r2), .val (.int (5 : Int32)), .unset, .unset] [(.int (0 : Int32))])) _
      refine XS.istoreN X1.here hx rfl (hb hby d2_8) rfl (l' := #[.val (.int p0), .val (.ref r2), .val (.int (5 : Int32)), .val (.int (0 : Int32)), .unset]) rfl ?_
      show Steps p.tables e below (T1.setTop (mkF m 9 #[.val (.int p0), .val (.ref r2), .val (.int (5 : Int32)), .val (.int (0 : Int32)), .unset] [])) _
      refine XS.iloadN X1.here hx rfl (hb hby d2_9) rfl ?_
      show Steps p.tables e below (T1.setTop (mkF m 10 #[.val (.int p0), .val (.ref r2), .val (.int (5 : Int32)), .val (.int (0 : Int32)), .unset] [(.int (0 : Int32))])) _
      refine XS.iloadN X1.here hx rfl (hb hby d2_10) rfl ?_
      show Steps p.tables e below (T1.setTop (mkF m 11 #[.val (.int p0), .val (.ref r2), .val (.int (5 : Int32)), .val (.int (0 : Int32)), .unset] [(.int (5 : Int32)), (.int (0 : Int32))])) _
      refine XS.icmpNo X1.here hx rfl (hb hby d2_11) rfl (tlt (by decide : (0 : Int32) < (5 : Int32))).2.1 ?_
      show Steps p.tables e below (T1.setTop (mkF m 14 #[.val (.int p0), .val (.ref r2), .val (.int (5 : Int32)), .val (.int (0 : Int32)), .unset] [])) _
      refine XS.aloadN X1.here hx rfl (hb hby d2_14) rfl rfl ?_
      show Steps p.tables e below (T1.setTop (mkF m 15 #[.val (.int p0), .val (.ref r2), .val (.int (5 : Int32)), .val (.int (0 : Int32)), .unset] [(.ref r2)])) _
      refine XS.iloadN X1.here hx rfl (hb hby d2_15) rfl ?_
      show Steps p.tables e below (T1.setTop (mkF m 16 #[.val (.int p0), .val (.ref r2), .val (.int (5 : Int32)), .val (.int (0 : Int32)), .unset] [(.int (0 : Int32)), (.ref r2)])) _
      refine X1.aaload hx (j := (0 : Int32)) (v := (.ref v0)) Ao13.1 (State.isArrayOf_alike hZ.alike Ao13.2.1) rfl Ao13.2.2 hin14 hat15 (g := (mkF m 16 #[.val (.int p0), .val (.ref r2), .val (.int (5 : Int32)), .val (.int (0 : Int32)), .unset] [(.int (0 : Int32)), (.ref r2)])) rfl rfl (hb hby d2_16) _ ?_
      show Steps p.tables e below (T1.setTop (mkF m 17 #[.val (.int p0), .val (.ref r2), .val (.int (5 : Int32)), .val (.int (0 : Int32)), .unset] [(.ref v0)])) _
      refine XS.astore X1.here hx rfl (hb hby d2_17) rfl rfl (l' := #[.val (.int p0), .val (.ref r2), .val (.int (5 : Int32)), .val (.int (0 : Int32)), .val (.ref v0)]) rfl ?_
      show Steps p.tables e below (T1.setTop (mkF m 19 #[.val (.int p0), .val (.ref r2), .val (.int (5 : Int32)), .val (.int (0 : Int32)), .val (.ref v0)] [])) _
      refine XS.aload X1.here hx rfl (hb hby d2_19) rfl rfl ?_
      show Steps p.tables e below (T1.setTop (mkF m 21 #[.val (.int p0), .val (.ref r2), .val (.int (5 : Int32)), .val (.int (0 : Int32)), .val (.ref v0)] [(.ref v0)])) _
      refine st16 _ ?_
      show Steps p.tables e below (T16.setTop (mkF m 24 #[.val (.int p0), .val (.ref r2), .val (.int (5 : Int32)), .val (.int (0 : Int32)), .val (.ref v0)] [(.int (1 : Int32))])) _
      refine XS.iloadN X16.here hx rfl (hb hby d2_24) rfl ?_
      exact kt)
  by_cases hc18 : (1 : Int32) = p0
  · skip
    have pre19 : ∀ t, Steps p.tables e below (T16.setTop (mkF m 30 #[.val (.int p0), .val (.ref r2), .val (.int (5 : Int32)), .val (.int (0 : Int32)), .val (.ref v0)] [(.ref v0)])) t → Steps p.tables e below (s₁.setTop (entryFrame m #[(.int p0)] 5)) t := fun t kt => pre17 t (by
        show Steps p.tables e below (T16.setTop (mkF m 25 #[.val (.int p0), .val (.ref r2), .val (.int (5 : Int32)), .val (.int (0 : Int32)), .val (.ref v0)] [(.int p0), (.int (1 : Int32))])) _
        refine XS.icmpNo X16.here hx rfl (hb hby d2_25) rfl (teq hc18).2 ?_
        show Steps p.tables e below (T16.setTop (mkF m 28 #[.val (.int p0), .val (.ref r2), .val (.int (5 : Int32)), .val (.int (0 : Int32)), .val (.ref v0)] [])) _
        refine XS.aload X16.here hx rfl (hb hby d2_28) rfl rfl ?_
        exact kt)
    obtain ⟨fs, hr, hrun, hended, hW, hsame⟩ := X16.leave (v := some (.ref v0)) (fun h => by rw [Bd.returns] at h; cases h)
    refine ⟨_, _, pre19 _ ?_, hrun, hended, _, _, rfl, ?_, ⟨_, rfl⟩, hW, hsame.mono (by decide) (by decide)⟩
    · show Steps p.tables e below (T16.setTop (mkF m 30 #[.val (.int p0), .val (.ref r2), .val (.int (5 : Int32)), .val (.int (0 : Int32)), .val (.ref v0)] [(.ref v0)])) _
      jvm_step X16.here [X16.here.top, hx, (hb hby d2_30), X16.method', Bd.returns, Value.isRef, FieldType.isReference]
      first | (intro acts; rw [hr _ acts rfl rfl rfl]) | rw [hr _ _ rfl rfl rfl]
      exact Steps.refl _
    · show Q2 Z _ _ _ _ _ _ _ _ h0 n0 _ T16.heap _
      rw [e16]
      exact ⟨⟨_, rfl, ⟨fun _ => rfl, fun z => absurd (z.trans hc18.symm) (by decide), fun z => absurd (z.trans hc18.symm) (by decide), fun z => absurd (z.trans hc18.symm) (by decide), fun z => absurd (z.trans hc18.symm) (by decide), fun n0 n1 n2 n3 n4 => absurd hc18 n0⟩⟩, N1, K11⟩
  · skip
    obtain ⟨co20, Ao20, qo20, So20, No20, Ho20, Go20⟩ := id m1_1
    have hin21 : ¬ ((1 : Int32) < 0 ∨ co20.slots.size ≤ ((1 : Int32)).toNatClampNeg) := inb_of So20 ⟨by decide, by decide⟩
    have hat22 : co20.slots[((1 : Int32)).toNatClampNeg]? = some (.ref v1) := Has.at Ho20 hin21 rfl
    obtain ⟨T23, X23, e23, st23⟩ := getF X16 hx hZ hown (host := "") (Or.inl (hw _ (List.mem_of_getElem? (i := 28) rfl))) Via.refl e16 f6 (g := (mkF m 21 #[.val (.int p0), .val (.ref r2), .val (.int (5 : Int32)), .val (.int (1 : Int32)), .val (.ref v1)] [(.ref v1)])) rfl rfl (hb hby d2_21)
    have pre24 : ∀ t, Steps p.tables e below (T23.setTop (mkF m 25 #[.val (.int p0), .val (.ref r2), .val (.int (5 : Int32)), .val (.int (1 : Int32)), .val (.ref v1)] [(.int p0), (.int (2 : Int32))])) t → Steps p.tables e below (s₁.setTop (entryFrame m #[(.int p0)] 5)) t := fun t kt => pre17 t (by
        show Steps p.tables e below (T16.setTop (mkF m 25 #[.val (.int p0), .val (.ref r2), .val (.int (5 : Int32)), .val (.int (0 : Int32)), .val (.ref v0)] [(.int p0), (.int (1 : Int32))])) _
        refine XS.icmpYes X16.here hx rfl (pc0 := 25) (pc' := 31) rfl (hb hby d2_25) rfl (feq hc18).2 (by decide) (by decide) ?_
        show Steps p.tables e below (T16.setTop (mkF m 31 #[.val (.int p0), .val (.ref r2), .val (.int (5 : Int32)), .val (.int (0 : Int32)), .val (.ref v0)] [])) _
        refine XS.iinc X16.here hx rfl (hb hby d2_31) rfl (l' := #[.val (.int p0), .val (.ref r2), .val (.int (5 : Int32)), .val (.int (1 : Int32)), .val (.ref v0)]) rfl ?_
        show Steps p.tables e below (T16.setTop (mkF m 34 #[.val (.int p0), .val (.ref r2), .val (.int (5 : Int32)), .val (.int (1 : Int32)), .val (.ref v0)] [])) _
        refine XS.goto X16.here hx rfl (pc0 := 34) (pc' := 9) rfl (hb hby d2_34) (by decide) (by decide) ?_
        show Steps p.tables e below (T16.setTop (mkF m 9 #[.val (.int p0), .val (.ref r2), .val (.int (5 : Int32)), .val (.int (1 : Int32)), .val (.ref v0)] [])) _
        refine XS.iloadN X16.here hx rfl (hb hby d2_9) rfl ?_
        show Steps p.tables e below (T16.setTop (mkF m 10 #[.val (.int p0), .val (.ref r2), .val (.int (5 : Int32)), .val (.int (1 : Int32)), .val (.ref v0)] [(.int (1 : Int32))])) _
        refine XS.iloadN X16.here hx rfl (hb hby d2_10) rfl ?_
        show Steps p.tables e below (T16.setTop (mkF m 11 #[.val (.int p0), .val (.ref r2), .val (.int (5 : Int32)), .val (.int (1 : Int32)), .val (.ref v0)] [(.int (5 : Int32)), (.int (1 : Int32))])) _
        refine XS.icmpNo X16.here hx rfl (hb hby d2_11) rfl (tlt (by decide : (1 : Int32) < (5 : Int32))).2.1 ?_
        show Steps p.tables e below (T16.setTop (mkF m 14 #[.val (.int p0), .val (.ref r2), .val (.int (5 : Int32)), .val (.int (1 : Int32)), .val (.ref v0)] [])) _
        refine XS.aloadN X16.here hx rfl (hb hby d2_14) rfl rfl ?_
        show Steps p.tables e below (T16.setTop (mkF m 15 #[.val (.int p0), .val (.ref r2), .val (.int (5 : Int32)), .val (.int (1 : Int32)), .val (.ref v0)] [(.ref r2)])) _
        refine XS.iloadN X16.here hx rfl (hb hby d2_15) rfl ?_
        show Steps p.tables e below (T16.setTop (mkF m 16 #[.val (.int p0), .val (.ref r2), .val (.int (5 : Int32)), .val (.int (1 : Int32)), .val (.ref v0)] [(.int (1 : Int32)), (.ref r2)])) _
        refine X16.aaload hx (j := (1 : Int32)) (v := (.ref v1)) (by rw [e16]; exact Ao20.1) (State.isArrayOf_alike hZ.alike Ao20.2.1) rfl Ao20.2.2 hin21 hat22 (g := (mkF m 16 #[.val (.int p0), .val (.ref r2), .val (.int (5 : Int32)), .val (.int (1 : Int32)), .val (.ref v0)] [(.int (1 : Int32)), (.ref r2)])) rfl rfl (hb hby d2_16) _ ?_
        show Steps p.tables e below (T16.setTop (mkF m 17 #[.val (.int p0), .val (.ref r2), .val (.int (5 : Int32)), .val (.int (1 : Int32)), .val (.ref v0)] [(.ref v1)])) _
        refine XS.astore X16.here hx rfl (hb hby d2_17) rfl rfl (l' := #[.val (.int p0), .val (.ref r2), .val (.int (5 : Int32)), .val (.int (1 : Int32)), .val (.ref v1)]) rfl ?_
        show Steps p.tables e below (T16.setTop (mkF m 19 #[.val (.int p0), .val (.ref r2), .val (.int (5 : Int32)), .val (.int (1 : Int32)), .val (.ref v1)] [])) _
        refine XS.aload X16.here hx rfl (hb hby d2_19) rfl rfl ?_
        show Steps p.tables e below (T16.setTop (mkF m 21 #[.val (.int p0), .val (.ref r2), .val (.int (5 : Int32)), .val (.int (1 : Int32)), .val (.ref v1)] [(.ref v1)])) _
        refine st23 _ ?_
        show Steps p.tables e below (T23.setTop (mkF m 24 #[.val (.int p0), .val (.ref r2), .val (.int (5 : Int32)), .val (.int (1 : Int32)), .val (.ref v1)] [(.int (2 : Int32))])) _
        refine XS.iloadN X23.here hx rfl (hb hby d2_24) rfl ?_
        exact kt)
    by_cases hc25 : (2 : Int32) = p0
    · skip
      have pre26 : ∀ t, Steps p.tables e below (T23.setTop (mkF m 30 #[.val (.int p0), .val (.ref r2), .val (.int (5 : Int32)), .val (.int (1 : Int32)), .val (.ref v1)] [(.ref v1)])) t → Steps p.tables e below (s₁.setTop (entryFrame m #[(.int p0)] 5)) t := fun t kt => pre24 t (by
          show Steps p.tables e below (T23.setTop (mkF m 25 #[.val (.int p0), .val (.ref r2), .val (.int (5 : Int32)), .val (.int (1 : Int32)), .val (.ref v1)] [(.int p0), (.int (2 : Int32))])) _
          refine XS.icmpNo X23.here hx rfl (hb hby d2_25) rfl (teq hc25).2 ?_
          show Steps p.tables e below (T23.setTop (mkF m 28 #[.val (.int p0), .val (.ref r2), .val (.int (5 : Int32)), .val (.int (1 : Int32)), .val (.ref v1)] [])) _
          refine XS.aload X23.here hx rfl (hb hby d2_28) rfl rfl ?_
          exact kt)
      obtain ⟨fs, hr, hrun, hended, hW, hsame⟩ := X23.leave (v := some (.ref v1)) (fun h => by rw [Bd.returns] at h; cases h)
      refine ⟨_, _, pre26 _ ?_, hrun, hended, _, _, rfl, ?_, ⟨_, rfl⟩, hW, hsame.mono (by decide) (by decide)⟩
      · show Steps p.tables e below (T23.setTop (mkF m 30 #[.val (.int p0), .val (.ref r2), .val (.int (5 : Int32)), .val (.int (1 : Int32)), .val (.ref v1)] [(.ref v1)])) _
        jvm_step X23.here [X23.here.top, hx, (hb hby d2_30), X23.method', Bd.returns, Value.isRef, FieldType.isReference]
        first | (intro acts; rw [hr _ acts rfl rfl rfl]) | rw [hr _ _ rfl rfl rfl]
        exact Steps.refl _
      · show Q2 Z _ _ _ _ _ _ _ _ h0 n0 _ T23.heap _
        rw [e23]
        exact ⟨⟨_, rfl, ⟨fun z => absurd (z.trans hc25.symm) (by decide), fun _ => rfl, fun z => absurd (z.trans hc25.symm) (by decide), fun z => absurd (z.trans hc25.symm) (by decide), fun z => absurd (z.trans hc25.symm) (by decide), fun n0 n1 n2 n3 n4 => absurd hc25 n1⟩⟩, N1, K11⟩
    · skip
      obtain ⟨co27, Ao27, qo27, So27, No27, Ho27, Go27⟩ := id m1_1
      have hin28 : ¬ ((2 : Int32) < 0 ∨ co27.slots.size ≤ ((2 : Int32)).toNatClampNeg) := inb_of So27 ⟨by decide, by decide⟩
      have hat29 : co27.slots[((2 : Int32)).toNatClampNeg]? = some (.ref v2) := Has.at Ho27 hin28 rfl
      obtain ⟨T30, X30, e30, st30⟩ := getF X23 hx hZ hown (host := "") (Or.inl (hw _ (List.mem_of_getElem? (i := 28) rfl))) Via.refl e23 f7 (g := (mkF m 21 #[.val (.int p0), .val (.ref r2), .val (.int (5 : Int32)), .val (.int (2 : Int32)), .val (.ref v2)] [(.ref v2)])) rfl rfl (hb hby d2_21)
      have pre31 : ∀ t, Steps p.tables e below (T30.setTop (mkF m 25 #[.val (.int p0), .val (.ref r2), .val (.int (5 : Int32)), .val (.int (2 : Int32)), .val (.ref v2)] [(.int p0), (.int (3 : Int32))])) t → Steps p.tables e below (s₁.setTop (entryFrame m #[(.int p0)] 5)) t := fun t kt => pre24 t (by
          show Steps p.tables e below (T23.setTop (mkF m 25 #[.val (.int p0), .val (.ref r2), .val (.int (5 : Int32)), .val (.int (1 : Int32)), .val (.ref v1)] [(.int p0), (.int (2 : Int32))])) _
          refine XS.icmpYes X23.here hx rfl (pc0 := 25) (pc' := 31) rfl (hb hby d2_25) rfl (feq hc25).2 (by decide) (by decide) ?_
          show Steps p.tables e below (T23.setTop (mkF m 31 #[.val (.int p0), .val (.ref r2), .val (.int (5 : Int32)), .val (.int (1 : Int32)), .val (.ref v1)] [])) _
          refine XS.iinc X23.here hx rfl (hb hby d2_31) rfl (l' := #[.val (.int p0), .val (.ref r2), .val (.int (5 : Int32)), .val (.int (2 : Int32)), .val (.ref v1)]) rfl ?_
          show Steps p.tables e below (T23.setTop (mkF m 34 #[.val (.int p0), .val (.ref r2), .val (.int (5 : Int32)), .val (.int (2 : Int32)), .val (.ref v1)] [])) _
          refine XS.goto X23.here hx rfl (pc0 := 34) (pc' := 9) rfl (hb hby d2_34) (by decide) (by decide) ?_
          show Steps p.tables e below (T23.setTop (mkF m 9 #[.val (.int p0), .val (.ref r2), .val (.int (5 : Int32)), .val (.int (2 : Int32)), .val (.ref v1)] [])) _
          refine XS.iloadN X23.here hx rfl (hb hby d2_9) rfl ?_
          show Steps p.tables e below (T23.setTop (mkF m 10 #[.val (.int p0), .val (.ref r2), .val (.int (5 : Int32)), .val (.int (2 : Int32)), .val (.ref v1)] [(.int (2 : Int32))])) _
          refine XS.iloadN X23.here hx rfl (hb hby d2_10) rfl ?_
          show Steps p.tables e below (T23.setTop (mkF m 11 #[.val (.int p0), .val (.ref r2), .val (.int (5 : Int32)), .val (.int (2 : Int32)), .val (.ref v1)] [(.int (5 : Int32)), (.int (2 : Int32))])) _
          refine XS.icmpNo X23.here hx rfl (hb hby d2_11) rfl (tlt (by decide : (2 : Int32) < (5 : Int32))).2.1 ?_
          show Steps p.tables e below (T23.setTop (mkF m 14 #[.val (.int p0), .val (.ref r2), .val (.int (5 : Int32)), .val (.int (2 : Int32)), .val (.ref v1)] [])) _
          refine XS.aloadN X23.here hx rfl (hb hby d2_14) rfl rfl ?_
          show Steps p.tables e below (T23.setTop (mkF m 15 #[.val (.int p0), .val (.ref r2), .val (.int (5 : Int32)), .val (.int (2 : Int32)), .val (.ref v1)] [(.ref r2)])) _
          refine XS.iloadN X23.here hx rfl (hb hby d2_15) rfl ?_
          show Steps p.tables e below (T23.setTop (mkF m 16 #[.val (.int p0), .val (.ref r2), .val (.int (5 : Int32)), .val (.int (2 : Int32)), .val (.ref v1)] [(.int (2 : Int32)), (.ref r2)])) _
          refine X23.aaload hx (j := (2 : Int32)) (v := (.ref v2)) (by rw [e23]; exact Ao27.1) (State.isArrayOf_alike hZ.alike Ao27.2.1) rfl Ao27.2.2 hin28 hat29 (g := (mkF m 16 #[.val (.int p0), .val (.ref r2), .val (.int (5 : Int32)), .val (.int (2 : Int32)), .val (.ref v1)] [(.int (2 : Int32)), (.ref r2)])) rfl rfl (hb hby d2_16) _ ?_
          show Steps p.tables e below (T23.setTop (mkF m 17 #[.val (.int p0), .val (.ref r2), .val (.int (5 : Int32)), .val (.int (2 : Int32)), .val (.ref v1)] [(.ref v2)])) _
          refine XS.astore X23.here hx rfl (hb hby d2_17) rfl rfl (l' := #[.val (.int p0), .val (.ref r2), .val (.int (5 : Int32)), .val (.int (2 : Int32)), .val (.ref v2)]) rfl ?_
          show Steps p.tables e below (T23.setTop (mkF m 19 #[.val (.int p0), .val (.ref r2), .val (.int (5 : Int32)), .val (.int (2 : Int32)), .val (.ref v2)] [])) _
          refine XS.aload X23.here hx rfl (hb hby d2_19) rfl rfl ?_
          show Steps p.tables e below (T23.setTop (mkF m 21 #[.val (.int p0), .val (.ref r2), .val (.int (5 : Int32)), .val (.int (2 : Int32)), .val (.ref v2)] [(.ref v2)])) _
          refine st30 _ ?_
          show Steps p.tables e below (T30.setTop (mkF m 24 #[.val (.int p0), .val (.ref r2), .val (.int (5 : Int32)), .val (.int (2 : Int32)), .val (.ref v2)] [(.int (3 : Int32))])) _
          refine XS.iloadN X30.here hx rfl (hb hby d2_24) rfl ?_
          exact kt)
      by_cases hc32 : (3 : Int32) = p0
      · skip
        have pre33 : ∀ t, Steps p.tables e below (T30.setTop (mkF m 30 #[.val (.int p0), .val (.ref r2), .val (.int (5 : Int32)), .val (.int (2 : Int32)), .val (.ref v2)] [(.ref v2)])) t → Steps p.tables e below (s₁.setTop (entryFrame m #[(.int p0)] 5)) t := fun t kt => pre31 t (by
            show Steps p.tables e below (T30.setTop (mkF m 25 #[.val (.int p0), .val (.ref r2), .val (.int (5 : Int32)), .val (.int (2 : Int32)), .val (.ref v2)] [(.int p0), (.int (3 : Int32))])) _
            refine XS.icmpNo X30.here hx rfl (hb hby d2_25) rfl (teq hc32).2 ?_
            show Steps p.tables e below (T30.setTop (mkF m 28 #[.val (.int p0), .val (.ref r2), .val (.int (5 : Int32)), .val (.int (2 : Int32)), .val (.ref v2)] [])) _
            refine XS.aload X30.here hx rfl (hb hby d2_28) rfl rfl ?_
            exact kt)
        obtain ⟨fs, hr, hrun, hended, hW, hsame⟩ := X30.leave (v := some (.ref v2)) (fun h => by rw [Bd.returns] at h; cases h)
        refine ⟨_, _, pre33 _ ?_, hrun, hended, _, _, rfl, ?_, ⟨_, rfl⟩, hW, hsame.mono (by decide) (by decide)⟩
        · show Steps p.tables e below (T30.setTop (mkF m 30 #[.val (.int p0), .val (.ref r2), .val (.int (5 : Int32)), .val (.int (2 : Int32)), .val (.ref v2)] [(.ref v2)])) _
          jvm_step X30.here [X30.here.top, hx, (hb hby d2_30), X30.method', Bd.returns, Value.isRef, FieldType.isReference]
          first | (intro acts; rw [hr _ acts rfl rfl rfl]) | rw [hr _ _ rfl rfl rfl]
          exact Steps.refl _
        · show Q2 Z _ _ _ _ _ _ _ _ h0 n0 _ T30.heap _
          rw [e30]
          exact ⟨⟨_, rfl, ⟨fun z => absurd (z.trans hc32.symm) (by decide), fun z => absurd (z.trans hc32.symm) (by decide), fun _ => rfl, fun z => absurd (z.trans hc32.symm) (by decide), fun z => absurd (z.trans hc32.symm) (by decide), fun n0 n1 n2 n3 n4 => absurd hc32 n2⟩⟩, N1, K11⟩
      · skip
        obtain ⟨co34, Ao34, qo34, So34, No34, Ho34, Go34⟩ := id m1_1
        have hin35 : ¬ ((3 : Int32) < 0 ∨ co34.slots.size ≤ ((3 : Int32)).toNatClampNeg) := inb_of So34 ⟨by decide, by decide⟩
        have hat36 : co34.slots[((3 : Int32)).toNatClampNeg]? = some (.ref v3) := Has.at Ho34 hin35 rfl
        obtain ⟨T37, X37, e37, st37⟩ := getF X30 hx hZ hown (host := "") (Or.inl (hw _ (List.mem_of_getElem? (i := 28) rfl))) Via.refl e30 f8 (g := (mkF m 21 #[.val (.int p0), .val (.ref r2), .val (.int (5 : Int32)), .val (.int (3 : Int32)), .val (.ref v3)] [(.ref v3)])) rfl rfl (hb hby d2_21)
        have pre38 : ∀ t, Steps p.tables e below (T37.setTop (mkF m 25 #[.val (.int p0), .val (.ref r2), .val (.int (5 : Int32)), .val (.int (3 : Int32)), .val (.ref v3)] [(.int p0), (.int (4 : Int32))])) t → Steps p.tables e below (s₁.setTop (entryFrame m #[(.int p0)] 5)) t := fun t kt => pre31 t (by
            show Steps p.tables e below (T30.setTop (mkF m 25 #[.val (.int p0), .val (.ref r2), .val (.int (5 : Int32)), .val (.int (2 : Int32)), .val (.ref v2)] [(.int p0), (.int (3 : Int32))])) _
            refine XS.icmpYes X30.here hx rfl (pc0 := 25) (pc' := 31) rfl (hb hby d2_25) rfl (feq hc32).2 (by decide) (by decide) ?_
            show Steps p.tables e below (T30.setTop (mkF m 31 #[.val (.int p0), .val (.ref r2), .val (.int (5 : Int32)), .val (.int (2 : Int32)), .val (.ref v2)] [])) _
            refine XS.iinc X30.here hx rfl (hb hby d2_31) rfl (l' := #[.val (.int p0), .val (.ref r2), .val (.int (5 : Int32)), .val (.int (3 : Int32)), .val (.ref v2)]) rfl ?_
            show Steps p.tables e below (T30.setTop (mkF m 34 #[.val (.int p0), .val (.ref r2), .val (.int (5 : Int32)), .val (.int (3 : Int32)), .val (.ref v2)] [])) _
            refine XS.goto X30.here hx rfl (pc0 := 34) (pc' := 9) rfl (hb hby d2_34) (by decide) (by decide) ?_
            show Steps p.tables e below (T30.setTop (mkF m 9 #[.val (.int p0), .val (.ref r2), .val (.int (5 : Int32)), .val (.int (3 : Int32)), .val (.ref v2)] [])) _
            refine XS.iloadN X30.here hx rfl (hb hby d2_9) rfl ?_
            show Steps p.tables e below (T30.setTop (mkF m 10 #[.val (.int p0), .val (.ref r2), .val (.int (5 : Int32)), .val (.int (3 : Int32)), .val (.ref v2)] [(.int (3 : Int32))])) _
            refine XS.iloadN X30.here hx rfl (hb hby d2_10) rfl ?_
            show Steps p.tables e below (T30.setTop (mkF m 11 #[.val (.int p0), .val (.ref r2), .val (.int (5 : Int32)), .val (.int (3 : Int32)), .val (.ref v2)] [(.int (5 : Int32)), (.int (3 : Int32))])) _
            refine XS.icmpNo X30.here hx rfl (hb hby d2_11) rfl (tlt (by decide : (3 : Int32) < (5 : Int32))).2.1 ?_
            show Steps p.tables e below (T30.setTop (mkF m 14 #[.val (.int p0), .val (.ref r2), .val (.int (5 : Int32)), .val (.int (3 : Int32)), .val (.ref v2)] [])) _
            refine XS.aloadN X30.here hx rfl (hb hby d2_14) rfl rfl ?_
            show Steps p.tables e below (T30.setTop (mkF m 15 #[.val (.int p0), .val (.ref r2), .val (.int (5 : Int32)), .val (.int (3 : Int32)), .val (.ref v2)] [(.ref r2)])) _
            refine XS.iloadN X30.here hx rfl (hb hby d2_15) rfl ?_
            show Steps p.tables e below (T30.setTop (mkF m 16 #[.val (.int p0), .val (.ref r2), .val (.int (5 : Int32)), .val (.int (3 : Int32)), .val (.ref v2)] [(.int (3 : Int32)), (.ref r2)])) _
            refine X30.aaload hx (j := (3 : Int32)) (v := (.ref v3)) (by rw [e30]; exact Ao34.1) (State.isArrayOf_alike hZ.alike Ao34.2.1) rfl Ao34.2.2 hin35 hat36 (g := (mkF m 16 #[.val (.int p0), .val (.ref r2), .val (.int (5 : Int32)), .val (.int (3 : Int32)), .val (.ref v2)] [(.int (3 : Int32)), (.ref r2)])) rfl rfl (hb hby d2_16) _ ?_
            show Steps p.tables e below (T30.setTop (mkF m 17 #[.val (.int p0), .val (.ref r2), .val (.int (5 : Int32)), .val (.int (3 : Int32)), .val (.ref v2)] [(.ref v3)])) _
            refine XS.astore X30.here hx rfl (hb hby d2_17) rfl rfl (l' := #[.val (.int p0), .val (.ref r2), .val (.int (5 : Int32)), .val (.int (3 : Int32)), .val (.ref v3)]) rfl ?_
            show Steps p.tables e below (T30.setTop (mkF m 19 #[.val (.int p0), .val (.ref r2), .val (.int (5 : Int32)), .val (.int (3 : Int32)), .val (.ref v3)] [])) _
            refine XS.aload X30.here hx rfl (hb hby d2_19) rfl rfl ?_
            show Steps p.tables e below (T30.setTop (mkF m 21 #[.val (.int p0), .val (.ref r2), .val (.int (5 : Int32)), .val (.int (3 : Int32)), .val (.ref v3)] [(.ref v3)])) _
            refine st37 _ ?_
            show Steps p.tables e below (T37.setTop (mkF m 24 #[.val (.int p0), .val (.ref r2), .val (.int (5 : Int32)), .val (.int (3 : Int32)), .val (.ref v3)] [(.int (4 : Int32))])) _
            refine XS.iloadN X37.here hx rfl (hb hby d2_24) rfl ?_
            exact kt)
        by_cases hc39 : (4 : Int32) = p0
        · skip
          have pre40 : ∀ t, Steps p.tables e below (T37.setTop (mkF m 30 #[.val (.int p0), .val (.ref r2), .val (.int (5 : Int32)), .val (.int (3 : Int32)), .val (.ref v3)] [(.ref v3)])) t → Steps p.tables e below (s₁.setTop (entryFrame m #[(.int p0)] 5)) t := fun t kt => pre38 t (by
              show Steps p.tables e below (T37.setTop (mkF m 25 #[.val (.int p0), .val (.ref r2), .val (.int (5 : Int32)), .val (.int (3 : Int32)), .val (.ref v3)] [(.int p0), (.int (4 : Int32))])) _
              refine XS.icmpNo X37.here hx rfl (hb hby d2_25) rfl (teq hc39).2 ?_
              show Steps p.tables e below (T37.setTop (mkF m 28 #[.val (.int p0), .val (.ref r2), .val (.int (5 : Int32)), .val (.int (3 : Int32)), .val (.ref v3)] [])) _
              refine XS.aload X37.here hx rfl (hb hby d2_28) rfl rfl ?_
              exact kt)
          obtain ⟨fs, hr, hrun, hended, hW, hsame⟩ := X37.leave (v := some (.ref v3)) (fun h => by rw [Bd.returns] at h; cases h)
          refine ⟨_, _, pre40 _ ?_, hrun, hended, _, _, rfl, ?_, ⟨_, rfl⟩, hW, hsame.mono (by decide) (by decide)⟩
          · show Steps p.tables e below (T37.setTop (mkF m 30 #[.val (.int p0), .val (.ref r2), .val (.int (5 : Int32)), .val (.int (3 : Int32)), .val (.ref v3)] [(.ref v3)])) _
            jvm_step X37.here [X37.here.top, hx, (hb hby d2_30), X37.method', Bd.returns, Value.isRef, FieldType.isReference]
            first | (intro acts; rw [hr _ acts rfl rfl rfl]) | rw [hr _ _ rfl rfl rfl]
            exact Steps.refl _
          · show Q2 Z _ _ _ _ _ _ _ _ h0 n0 _ T37.heap _
            rw [e37]
            exact ⟨⟨_, rfl, ⟨fun z => absurd (z.trans hc39.symm) (by decide), fun z => absurd (z.trans hc39.symm) (by decide), fun z => absurd (z.trans hc39.symm) (by decide), fun _ => rfl, fun z => absurd (z.trans hc39.symm) (by decide), fun n0 n1 n2 n3 n4 => absurd hc39 n3⟩⟩, N1, K11⟩
        · skip
          obtain ⟨co41, Ao41, qo41, So41, No41, Ho41, Go41⟩ := id m1_1
          have hin42 : ¬ ((4 : Int32) < 0 ∨ co41.slots.size ≤ ((4 : Int32)).toNatClampNeg) := inb_of So41 ⟨by decide, by decide⟩
          have hat43 : co41.slots[((4 : Int32)).toNatClampNeg]? = some (.ref v4) := Has.at Ho41 hin42 rfl
          obtain ⟨T44, X44, e44, st44⟩ := getF X37 hx hZ hown (host := "") (Or.inl (hw _ (List.mem_of_getElem? (i := 28) rfl))) Via.refl e37 f9 (g := (mkF m 21 #[.val (.int p0), .val (.ref r2), .val (.int (5 : Int32)), .val (.int (4 : Int32)), .val (.ref v4)] [(.ref v4)])) rfl rfl (hb hby d2_21)
          have pre45 : ∀ t, Steps p.tables e below (T44.setTop (mkF m 25 #[.val (.int p0), .val (.ref r2), .val (.int (5 : Int32)), .val (.int (4 : Int32)), .val (.ref v4)] [(.int p0), (.int (5 : Int32))])) t → Steps p.tables e below (s₁.setTop (entryFrame m #[(.int p0)] 5)) t := fun t kt => pre38 t (by
              show Steps p.tables e below (T37.setTop (mkF m 25 #[.val (.int p0), .val (.ref r2), .val (.int (5 : Int32)), .val (.int (3 : Int32)), .val (.ref v3)] [(.int p0), (.int (4 : Int32))])) _
              refine XS.icmpYes X37.here hx rfl (pc0 := 25) (pc' := 31) rfl (hb hby d2_25) rfl (feq hc39).2 (by decide) (by decide) ?_
              show Steps p.tables e below (T37.setTop (mkF m 31 #[.val (.int p0), .val (.ref r2), .val (.int (5 : Int32)), .val (.int (3 : Int32)), .val (.ref v3)] [])) _
              refine XS.iinc X37.here hx rfl (hb hby d2_31) rfl (l' := #[.val (.int p0), .val (.ref r2), .val (.int (5 : Int32)), .val (.int (4 : Int32)), .val (.ref v3)]) rfl ?_
              show Steps p.tables e below (T37.setTop (mkF m 34 #[.val (.int p0), .val (.ref r2), .val (.int (5 : Int32)), .val (.int (4 : Int32)), .val (.ref v3)] [])) _
              refine XS.goto X37.here hx rfl (pc0 := 34) (pc' := 9) rfl (hb hby d2_34) (by decide) (by decide) ?_
              show Steps p.tables e below (T37.setTop (mkF m 9 #[.val (.int p0), .val (.ref r2), .val (.int (5 : Int32)), .val (.int (4 : Int32)), .val (.ref v3)] [])) _
              refine XS.iloadN X37.here hx rfl (hb hby d2_9) rfl ?_
              show Steps p.tables e below (T37.setTop (mkF m 10 #[.val (.int p0), .val (.ref r2), .val (.int (5 : Int32)), .val (.int (4 : Int32)), .val (.ref v3)] [(.int (4 : Int32))])) _
              refine XS.iloadN X37.here hx rfl (hb hby d2_10) rfl ?_
              show Steps p.tables e below (T37.setTop (mkF m 11 #[.val (.int p0), .val (.ref r2), .val (.int (5 : Int32)), .val (.int (4 : Int32)), .val (.ref v3)] [(.int (5 : Int32)), (.int (4 : Int32))])) _
              refine XS.icmpNo X37.here hx rfl (hb hby d2_11) rfl (tlt (by decide : (4 : Int32) < (5 : Int32))).2.1 ?_
              show Steps p.tables e below (T37.setTop (mkF m 14 #[.val (.int p0), .val (.ref r2), .val (.int (5 : Int32)), .val (.int (4 : Int32)), .val (.ref v3)] [])) _
              refine XS.aloadN X37.here hx rfl (hb hby d2_14) rfl rfl ?_
              show Steps p.tables e below (T37.setTop (mkF m 15 #[.val (.int p0), .val (.ref r2), .val (.int (5 : Int32)), .val (.int (4 : Int32)), .val (.ref v3)] [(.ref r2)])) _
              refine XS.iloadN X37.here hx rfl (hb hby d2_15) rfl ?_
              show Steps p.tables e below (T37.setTop (mkF m 16 #[.val (.int p0), .val (.ref r2), .val (.int (5 : Int32)), .val (.int (4 : Int32)), .val (.ref v3)] [(.int (4 : Int32)), (.ref r2)])) _
              refine X37.aaload hx (j := (4 : Int32)) (v := (.ref v4)) (by rw [e37]; exact Ao41.1) (State.isArrayOf_alike hZ.alike Ao41.2.1) rfl Ao41.2.2 hin42 hat43 (g := (mkF m 16 #[.val (.int p0), .val (.ref r2), .val (.int (5 : Int32)), .val (.int (4 : Int32)), .val (.ref v3)] [(.int (4 : Int32)), (.ref r2)])) rfl rfl (hb hby d2_16) _ ?_
              show Steps p.tables e below (T37.setTop (mkF m 17 #[.val (.int p0), .val (.ref r2), .val (.int (5 : Int32)), .val (.int (4 : Int32)), .val (.ref v3)] [(.ref v4)])) _
              refine XS.astore X37.here hx rfl (hb hby d2_17) rfl rfl (l' := #[.val (.int p0), .val (.ref r2), .val (.int (5 : Int32)), .val (.int (4 : Int32)), .val (.ref v4)]) rfl ?_
              show Steps p.tables e below (T37.setTop (mkF m 19 #[.val (.int p0), .val (.ref r2), .val (.int (5 : Int32)), .val (.int (4 : Int32)), .val (.ref v4)] [])) _
              refine XS.aload X37.here hx rfl (hb hby d2_19) rfl rfl ?_
              show Steps p.tables e below (T37.setTop (mkF m 21 #[.val (.int p0), .val (.ref r2), .val (.int (5 : Int32)), .val (.int (4 : Int32)), .val (.ref v4)] [(.ref v4)])) _
              refine st44 _ ?_
              show Steps p.tables e below (T44.setTop (mkF m 24 #[.val (.int p0), .val (.ref r2), .val (.int (5 : Int32)), .val (.int (4 : Int32)), .val (.ref v4)] [(.int (5 : Int32))])) _
              refine XS.iloadN X44.here hx rfl (hb hby d2_24) rfl ?_
              exact kt)
          by_cases hc46 : (5 : Int32) = p0
          · skip
            have pre47 : ∀ t, Steps p.tables e below (T44.setTop (mkF m 30 #[.val (.int p0), .val (.ref r2), .val (.int (5 : Int32)), .val (.int (4 : Int32)), .val (.ref v4)] [(.ref v4)])) t → Steps p.tables e below (s₁.setTop (entryFrame m #[(.int p0)] 5)) t := fun t kt => pre45 t (by
                show Steps p.tables e below (T44.setTop (mkF m 25 #[.val (.int p0), .val (.ref r2), .val (.int (5 : Int32)), .val (.int (4 : Int32)), .val (.ref v4)] [(.int p0), (.int (5 : Int32))])) _
                refine XS.icmpNo X44.here hx rfl (hb hby d2_25) rfl (teq hc46).2 ?_
                show Steps p.tables e below (T44.setTop (mkF m 28 #[.val (.int p0), .val (.ref r2), .val (.int (5 : Int32)), .val (.int (4 : Int32)), .val (.ref v4)] [])) _
                refine XS.aload X44.here hx rfl (hb hby d2_28) rfl rfl ?_
                exact kt)
            obtain ⟨fs, hr, hrun, hended, hW, hsame⟩ := X44.leave (v := some (.ref v4)) (fun h => by rw [Bd.returns] at h; cases h)
            refine ⟨_, _, pre47 _ ?_, hrun, hended, _, _, rfl, ?_, ⟨_, rfl⟩, hW, hsame.mono (by decide) (by decide)⟩
            · show Steps p.tables e below (T44.setTop (mkF m 30 #[.val (.int p0), .val (.ref r2), .val (.int (5 : Int32)), .val (.int (4 : Int32)), .val (.ref v4)] [(.ref v4)])) _
              jvm_step X44.here [X44.here.top, hx, (hb hby d2_30), X44.method', Bd.returns, Value.isRef, FieldType.isReference]
              first | (intro acts; rw [hr _ acts rfl rfl rfl]) | rw [hr _ _ rfl rfl rfl]
              exact Steps.refl _
            · show Q2 Z _ _ _ _ _ _ _ _ h0 n0 _ T44.heap _
              rw [e44]
              exact ⟨⟨_, rfl, ⟨fun z => absurd (z.trans hc46.symm) (by decide), fun z => absurd (z.trans hc46.symm) (by decide), fun z => absurd (z.trans hc46.symm) (by decide), fun z => absurd (z.trans hc46.symm) (by decide), fun _ => rfl, fun n0 n1 n2 n3 n4 => absurd hc46 n4⟩⟩, N1, K11⟩
          · skip
            have pre48 : ∀ t, Steps p.tables e below (T44.setTop (mkF m 38 #[.val (.int p0), .val (.ref r2), .val (.int (5 : Int32)), .val (.int (5 : Int32)), .val (.ref v4)] [.null])) t → Steps p.tables e below (s₁.setTop (entryFrame m #[(.int p0)] 5)) t := fun t kt => pre45 t (by
                show Steps p.tables e below (T44.setTop (mkF m 25 #[.val (.int p0), .val (.ref r2), .val (.int (5 : Int32)), .val (.int (4 : Int32)), .val (.ref v4)] [(.int p0), (.int (5 : Int32))])) _
                refine XS.icmpYes X44.here hx rfl (pc0 := 25) (pc' := 31) rfl (hb hby d2_25) rfl (feq hc46).2 (by decide) (by decide) ?_
                show Steps p.tables e below (T44.setTop (mkF m 31 #[.val (.int p0), .val (.ref r2), .val (.int (5 : Int32)), .val (.int (4 : Int32)), .val (.ref v4)] [])) _
                refine XS.iinc X44.here hx rfl (hb hby d2_31) rfl (l' := #[.val (.int p0), .val (.ref r2), .val (.int (5 : Int32)), .val (.int (5 : Int32)), .val (.ref v4)]) rfl ?_
                show Steps p.tables e below (T44.setTop (mkF m 34 #[.val (.int p0), .val (.ref r2), .val (.int (5 : Int32)), .val (.int (5 : Int32)), .val (.ref v4)] [])) _
                refine XS.goto X44.here hx rfl (pc0 := 34) (pc' := 9) rfl (hb hby d2_34) (by decide) (by decide) ?_
                show Steps p.tables e below (T44.setTop (mkF m 9 #[.val (.int p0), .val (.ref r2), .val (.int (5 : Int32)), .val (.int (5 : Int32)), .val (.ref v4)] [])) _
                refine XS.iloadN X44.here hx rfl (hb hby d2_9) rfl ?_
                show Steps p.tables e below (T44.setTop (mkF m 10 #[.val (.int p0), .val (.ref r2), .val (.int (5 : Int32)), .val (.int (5 : Int32)), .val (.ref v4)] [(.int (5 : Int32))])) _
                refine XS.iloadN X44.here hx rfl (hb hby d2_10) rfl ?_
                show Steps p.tables e below (T44.setTop (mkF m 11 #[.val (.int p0), .val (.ref r2), .val (.int (5 : Int32)), .val (.int (5 : Int32)), .val (.ref v4)] [(.int (5 : Int32)), (.int (5 : Int32))])) _
                refine XS.icmpYes X44.here hx rfl (pc0 := 11) (pc' := 37) rfl (hb hby d2_11) rfl (flt (fun z => Int32.lt_irrefl z)).2.1 (by decide) (by decide) ?_
                show Steps p.tables e below (T44.setTop (mkF m 37 #[.val (.int p0), .val (.ref r2), .val (.int (5 : Int32)), .val (.int (5 : Int32)), .val (.ref v4)] [])) _
                refine XS.aconstNull X44.here hx rfl (hb hby d2_37) ?_
                exact kt)
            obtain ⟨fs, hr, hrun, hended, hW, hsame⟩ := X44.leave (v := some .null) (fun h => by rw [Bd.returns] at h; cases h)
            refine ⟨_, _, pre48 _ ?_, hrun, hended, _, _, rfl, ?_, ⟨_, rfl⟩, hW, hsame.mono (by decide) (by decide)⟩
            · show Steps p.tables e below (T44.setTop (mkF m 38 #[.val (.int p0), .val (.ref r2), .val (.int (5 : Int32)), .val (.int (5 : Int32)), .val (.ref v4)] [.null])) _
              jvm_step X44.here [X44.here.top, hx, (hb hby d2_38), X44.method', Bd.returns, Value.isRef, FieldType.isReference]
              first | (intro acts; rw [hr _ acts rfl rfl rfl]) | rw [hr _ _ rfl rfl rfl]
              exact Steps.refl _
            · show Q2 Z _ _ _ _ _ _ _ _ h0 n0 _ T44.heap _
              rw [e44]
              exact ⟨⟨_, rfl, ⟨fun z => absurd z hc18, fun z => absurd z hc25, fun z => absurd z hc32, fun z => absurd z hc39, fun z => absurd z hc46, fun _ _ _ _ _ => rfl⟩⟩, N1, K11⟩
theorem pn_1 : plainName "com/example/token_handoff/tokenhandoff/KindOfCodePinLaw" = true := by first | (simp [plainName, overriddenIn]; done) | decide +kernel
theorem d1_0 : decode method_3_code 0 = .ok (.iload_n 0, 1) := by decide +kernel
theorem d1_1 : decode method_3_code 1 = .ok (.iconst 1, 1) := by decide +kernel
theorem d1_2 : decode method_3_code 2 = .ok (.if_icmp .ne 7, 3) := by decide +kernel
theorem d1_5 : decode method_3_code 5 = .ok (.getstatic 22, 3) := by decide +kernel
theorem d1_8 : decode method_3_code 8 = .ok (.areturn, 1) := by decide +kernel
theorem d1_9 : decode method_3_code 9 = .ok (.iload_n 0, 1) := by decide +kernel
theorem d1_10 : decode method_3_code 10 = .ok (.iconst 2, 1) := by decide +kernel
theorem d1_11 : decode method_3_code 11 = .ok (.if_icmp .ne 7, 3) := by decide +kernel
theorem d1_14 : decode method_3_code 14 = .ok (.getstatic 26, 3) := by decide +kernel
theorem d1_17 : decode method_3_code 17 = .ok (.areturn, 1) := by decide +kernel
theorem d1_18 : decode method_3_code 18 = .ok (.iload_n 0, 1) := by decide +kernel
theorem d1_19 : decode method_3_code 19 = .ok (.iconst 3, 1) := by decide +kernel
theorem d1_20 : decode method_3_code 20 = .ok (.if_icmp .ne 7, 3) := by decide +kernel
theorem d1_23 : decode method_3_code 23 = .ok (.getstatic 29, 3) := by decide +kernel
theorem d1_26 : decode method_3_code 26 = .ok (.areturn, 1) := by decide +kernel
theorem d1_27 : decode method_3_code 27 = .ok (.iload_n 0, 1) := by decide +kernel
theorem d1_28 : decode method_3_code 28 = .ok (.iconst 4, 1) := by decide +kernel
theorem d1_29 : decode method_3_code 29 = .ok (.if_icmp .ne 7, 3) := by decide +kernel
theorem d1_32 : decode method_3_code 32 = .ok (.getstatic 32, 3) := by decide +kernel
theorem d1_35 : decode method_3_code 35 = .ok (.areturn, 1) := by decide +kernel
theorem d1_36 : decode method_3_code 36 = .ok (.iload_n 0, 1) := by decide +kernel
theorem d1_37 : decode method_3_code 37 = .ok (.iconst 5, 1) := by decide +kernel
theorem d1_38 : decode method_3_code 38 = .ok (.if_icmp .ne 7, 3) := by decide +kernel
theorem d1_41 : decode method_3_code 41 = .ok (.getstatic 35, 3) := by decide +kernel
theorem d1_44 : decode method_3_code 44 = .ok (.areturn, 1) := by decide +kernel
theorem d1_45 : decode method_3_code 45 = .ok (.aconst_null, 1) := by decide +kernel
theorem d1_46 : decode method_3_code 46 = .ok (.areturn, 1) := by decide +kernel
theorem ef_1 (m : MethodId) (x0 : Int32)  : entryFrame m #[(.int x0)] 1 = mkF m 0 #[.val (.int x0)] [] := by first | (simp [entryFrame, mkF, argsToLocals, Value.category]; done) | rfl
def Q1 (Z : State) (p0 : Int32) (w_MOVE_0 : Addr) (w_ACK_1 : Addr) (w_COMMIT_2 : Addr) (w_EARLY_STOP_3 : Addr) (w_DISCARD_4 : Addr) (h0 : Heap) (n0 : Nat) (v : Option Value) (h : Heap) (L : List Loc) : Prop := (∃ r : Value, v = some r ∧ (((1 : Int32) = p0 ∧ (Value.ref w_MOVE_0) = r) ∨ ((2 : Int32) = p0 ∧ (Value.ref w_ACK_1) = r) ∨ ((3 : Int32) = p0 ∧ (Value.ref w_COMMIT_2) = r) ∨ ((4 : Int32) = p0 ∧ (Value.ref w_EARLY_STOP_3) = r) ∨ ((5 : Int32) = p0 ∧ (Value.ref w_DISCARD_4) = r) ∨ (Value.null = r ∧ ¬ p0 = (1 : Int32) ∧ ¬ p0 = (2 : Int32) ∧ ¬ p0 = (3 : Int32) ∧ ¬ p0 = (4 : Int32) ∧ ¬ p0 = (5 : Int32)))) ∧ Fr n0 L ∧ h = h0
set_option maxRecDepth 65536 in
set_option maxHeartbeats 40000000 in
theorem rm1 (l : Launch) (Z : State) (aw : Array Value) (hw : ∀ d ∈ tables_1, d.before aw Z = true) (ws : List Jvm.Cond) (p0 : Int32) (w_MOVE_0 : Addr) (w_ACK_1 : Addr) (w_COMMIT_2 : Addr) (w_EARLY_STOP_3 : Addr) (w_DISCARD_4 : Addr) (h0 : Heap) (n0 : Nat) (Z0 : n0 ≤ h0.size) (Sf_MOVE_0 : Sta Z h0 "com/example/token_handoff/tokenhandoff/Kind" "MOVE" "Lcom/example/token_handoff/tokenhandoff/Kind;" (.ref w_MOVE_0)) (Sf_ACK_1 : Sta Z h0 "com/example/token_handoff/tokenhandoff/Kind" "ACK" "Lcom/example/token_handoff/tokenhandoff/Kind;" (.ref w_ACK_1)) (Sf_COMMIT_2 : Sta Z h0 "com/example/token_handoff/tokenhandoff/Kind" "COMMIT" "Lcom/example/token_handoff/tokenhandoff/Kind;" (.ref w_COMMIT_2)) (Sf_EARLY_STOP_3 : Sta Z h0 "com/example/token_handoff/tokenhandoff/Kind" "EARLY_STOP" "Lcom/example/token_handoff/tokenhandoff/Kind;" (.ref w_EARLY_STOP_3)) (Sf_DISCARD_4 : Sta Z h0 "com/example/token_handoff/tokenhandoff/Kind" "DISCARD" "Lcom/example/token_handoff/tokenhandoff/Kind;" (.ref w_DISCARD_4)) :
    MetFree l (⟨"com/example/token_handoff/tokenhandoff/KindOfCodePinLaw", "expectedKind", "(I)Lcom/example/token_handoff/tokenhandoff/Kind;"⟩ : MethodName) (head1 (Jvm.Cond.code (⟨"com/example/token_handoff/tokenhandoff/KindOfCodePinLaw", "expectedKind", "(I)Lcom/example/token_handoff/tokenhandoff/Kind;"⟩ : MethodName) method_3_code 1 (some (.object "com/example/token_handoff/tokenhandoff/Kind")) :: ws) ({ frames := 0, cells := 0, slots := 0, locals := 0 } : Room)) (fun a U => a = #[(.int p0)] ∧ Z.Warmed39 U.vm ∧ U.heap = h0) (fun _ _ _ _ _ => True) (fun _ U o U' => ∃ v L, o = .returned v ∧ Q1 Z p0 w_MOVE_0 w_ACK_1 w_COMMIT_2 w_EARLY_STOP_3 w_DISCARD_4 h0 n0 v U'.heap L ∧ FrameEnd U o U' L ({ frames := 0, cells := 0, slots := 0, locals := 0 } : Room).cells ({ frames := 0, cells := 0, slots := 0, locals := 0 } : Room).slots) := by
  refine MetFree.of_bodySF (plainFor_of_name pn_1) hisR ?_
  intro p e s m args below meth c s₁ Bd hml0 hP hK
  obtain ⟨rfl, hZ, hh⟩ := hP
  have hx := Bd.exec
  have hby := Bd.bytes
  have hml : c.maxLocals = 1 := hml0
  have hown : s.vm.findClass "com/example/token_handoff/tokenhandoff/KindOfCodePinLaw" = some m.cls := findClass_of_methodNamed Bd.named
  have hnm := (name_of_methodNamed Bd.named Bd.method).1
  have X0 : Stand p l e ({ frames := 0, cells := 0, slots := 0, locals := 0 } : Room) s m #[(.int p0)] below meth c s₁ [] 0 0 := Stand.of_body Bd
  have e0 : s₁.heap = h0 := by rw [← hh, Bd.state]; rfl
  have N0 := Fr.nil n0
  have pre0 : ∀ t, Steps p.tables e below (s₁.setTop (mkF m 0 #[.val (.int p0)] [])) t → Steps p.tables e below (s₁.setTop (entryFrame m #[(.int p0)] 1)) t := fun t k => castTop (ef_1 m p0 ) k
  have pre1 : ∀ t, Steps p.tables e below (s₁.setTop (mkF m 2 #[.val (.int p0)] [(.int (1 : Int32)), (.int p0)])) t → Steps p.tables e below (s₁.setTop (entryFrame m #[(.int p0)] 1)) t := fun t kt => pre0 t (by
      show Steps p.tables e below (s₁.setTop (mkF m 0 #[.val (.int p0)] [])) _
      refine XS.iloadN X0.here hx rfl (hb hby d1_0) rfl ?_
      show Steps p.tables e below (s₁.setTop (mkF m 1 #[.val (.int p0)] [(.int p0)])) _
      refine XS.iconst X0.here hx rfl (hb hby d1_1) ?_
      exact kt)
  by_cases hc2 : p0 = (1 : Int32)
  · skip
    obtain ⟨T3, X3, e3, st3⟩ := getS2 X0 hx hZ hown (host := "") (Or.inl (hw _ (List.mem_of_getElem? (i := 38) rfl))) Via.refl e0 Sf_MOVE_0 (g := (mkF m 5 #[.val (.int p0)] [])) rfl (hb hby d1_5)
    have pre4 : ∀ t, Steps p.tables e below (T3.setTop (mkF m 8 #[.val (.int p0)] [(.ref w_MOVE_0)])) t → Steps p.tables e below (s₁.setTop (entryFrame m #[(.int p0)] 1)) t := fun t kt => pre1 t (by
        show Steps p.tables e below (s₁.setTop (mkF m 2 #[.val (.int p0)] [(.int (1 : Int32)), (.int p0)])) _
        refine XS.icmpNo X0.here hx rfl (hb hby d1_2) rfl (teq hc2).2 ?_
        show Steps p.tables e below (s₁.setTop (mkF m 5 #[.val (.int p0)] [])) _
        refine st3 _ ?_
        exact kt)
    obtain ⟨fs, hr, hrun, hended, hW, hsame⟩ := X3.leave (v := some (.ref w_MOVE_0)) (fun h => by rw [Bd.returns] at h; cases h)
    refine ⟨_, _, pre4 _ ?_, hrun, hended, _, _, rfl, ?_, ⟨_, rfl⟩, hW, hsame.mono (by decide) (by decide)⟩
    · show Steps p.tables e below (T3.setTop (mkF m 8 #[.val (.int p0)] [(.ref w_MOVE_0)])) _
      jvm_step X3.here [X3.here.top, hx, (hb hby d1_8), X3.method', Bd.returns, Value.isRef, FieldType.isReference]
      first | (intro acts; rw [hr _ acts rfl rfl rfl]) | rw [hr _ _ rfl rfl rfl]
      exact Steps.refl _
    · show Q1 Z _ _ _ _ _ _ h0 n0 _ T3.heap _
      rw [e3]
      exact ⟨⟨_, rfl, Or.inl ⟨hc2.symm, rfl⟩⟩, N0, rfl⟩
  · skip
    have pre5 : ∀ t, Steps p.tables e below (s₁.setTop (mkF m 11 #[.val (.int p0)] [(.int (2 : Int32)), (.int p0)])) t → Steps p.tables e below (s₁.setTop (entryFrame m #[(.int p0)] 1)) t := fun t kt => pre1 t (by
        show Steps p.tables e below (s₁.setTop (mkF m 2 #[.val (.int p0)] [(.int (1 : Int32)), (.int p0)])) _
        refine XS.icmpYes X0.here hx rfl (pc0 := 2) (pc' := 9) rfl (hb hby d1_2) rfl (feq hc2).2 (by decide) (by decide) ?_
        show Steps p.tables e below (s₁.setTop (mkF m 9 #[.val (.int p0)] [])) _
        refine XS.iloadN X0.here hx rfl (hb hby d1_9) rfl ?_
        show Steps p.tables e below (s₁.setTop (mkF m 10 #[.val (.int p0)] [(.int p0)])) _
        refine XS.iconst X0.here hx rfl (hb hby d1_10) ?_
        exact kt)
    by_cases hc6 : p0 = (2 : Int32)
    · skip
      obtain ⟨T7, X7, e7, st7⟩ := getS2 X0 hx hZ hown (host := "") (Or.inl (hw _ (List.mem_of_getElem? (i := 39) rfl))) Via.refl e0 Sf_ACK_1 (g := (mkF m 14 #[.val (.int p0)] [])) rfl (hb hby d1_14)
      have pre8 : ∀ t, Steps p.tables e below (T7.setTop (mkF m 17 #[.val (.int p0)] [(.ref w_ACK_1)])) t → Steps p.tables e below (s₁.setTop (entryFrame m #[(.int p0)] 1)) t := fun t kt => pre5 t (by
          show Steps p.tables e below (s₁.setTop (mkF m 11 #[.val (.int p0)] [(.int (2 : Int32)), (.int p0)])) _
          refine XS.icmpNo X0.here hx rfl (hb hby d1_11) rfl (teq hc6).2 ?_
          show Steps p.tables e below (s₁.setTop (mkF m 14 #[.val (.int p0)] [])) _
          refine st7 _ ?_
          exact kt)
      obtain ⟨fs, hr, hrun, hended, hW, hsame⟩ := X7.leave (v := some (.ref w_ACK_1)) (fun h => by rw [Bd.returns] at h; cases h)
      refine ⟨_, _, pre8 _ ?_, hrun, hended, _, _, rfl, ?_, ⟨_, rfl⟩, hW, hsame.mono (by decide) (by decide)⟩
      · show Steps p.tables e below (T7.setTop (mkF m 17 #[.val (.int p0)] [(.ref w_ACK_1)])) _
        jvm_step X7.here [X7.here.top, hx, (hb hby d1_17), X7.method', Bd.returns, Value.isRef, FieldType.isReference]
        first | (intro acts; rw [hr _ acts rfl rfl rfl]) | rw [hr _ _ rfl rfl rfl]
        exact Steps.refl _
      · show Q1 Z _ _ _ _ _ _ h0 n0 _ T7.heap _
        rw [e7]
        exact ⟨⟨_, rfl, Or.inr (Or.inl ⟨hc6.symm, rfl⟩)⟩, N0, rfl⟩
    · skip
      have pre9 : ∀ t, Steps p.tables e below (s₁.setTop (mkF m 20 #[.val (.int p0)] [(.int (3 : Int32)), (.int p0)])) t → Steps p.tables e below (s₁.setTop (entryFrame m #[(.int p0)] 1)) t := fun t kt => pre5 t (by
          show Steps p.tables e below (s₁.setTop (mkF m 11 #[.val (.int p0)] [(.int (2 : Int32)), (.int p0)])) _
          refine XS.icmpYes X0.here hx rfl (pc0 := 11) (pc' := 18) rfl (hb hby d1_11) rfl (feq hc6).2 (by decide) (by decide) ?_
          show Steps p.tables e below (s₁.setTop (mkF m 18 #[.val (.int p0)] [])) _
          refine XS.iloadN X0.here hx rfl (hb hby d1_18) rfl ?_
          show Steps p.tables e below (s₁.setTop (mkF m 19 #[.val (.int p0)] [(.int p0)])) _
          refine XS.iconst X0.here hx rfl (hb hby d1_19) ?_
          exact kt)
      by_cases hc10 : p0 = (3 : Int32)
      · skip
        obtain ⟨T11, X11, e11, st11⟩ := getS2 X0 hx hZ hown (host := "") (Or.inl (hw _ (List.mem_of_getElem? (i := 36) rfl))) Via.refl e0 Sf_COMMIT_2 (g := (mkF m 23 #[.val (.int p0)] [])) rfl (hb hby d1_23)
        have pre12 : ∀ t, Steps p.tables e below (T11.setTop (mkF m 26 #[.val (.int p0)] [(.ref w_COMMIT_2)])) t → Steps p.tables e below (s₁.setTop (entryFrame m #[(.int p0)] 1)) t := fun t kt => pre9 t (by
            show Steps p.tables e below (s₁.setTop (mkF m 20 #[.val (.int p0)] [(.int (3 : Int32)), (.int p0)])) _
            refine XS.icmpNo X0.here hx rfl (hb hby d1_20) rfl (teq hc10).2 ?_
            show Steps p.tables e below (s₁.setTop (mkF m 23 #[.val (.int p0)] [])) _
            refine st11 _ ?_
            exact kt)
        obtain ⟨fs, hr, hrun, hended, hW, hsame⟩ := X11.leave (v := some (.ref w_COMMIT_2)) (fun h => by rw [Bd.returns] at h; cases h)
        refine ⟨_, _, pre12 _ ?_, hrun, hended, _, _, rfl, ?_, ⟨_, rfl⟩, hW, hsame.mono (by decide) (by decide)⟩
        · show Steps p.tables e below (T11.setTop (mkF m 26 #[.val (.int p0)] [(.ref w_COMMIT_2)])) _
          jvm_step X11.here [X11.here.top, hx, (hb hby d1_26), X11.method', Bd.returns, Value.isRef, FieldType.isReference]
          first | (intro acts; rw [hr _ acts rfl rfl rfl]) | rw [hr _ _ rfl rfl rfl]
          exact Steps.refl _
        · show Q1 Z _ _ _ _ _ _ h0 n0 _ T11.heap _
          rw [e11]
          exact ⟨⟨_, rfl, Or.inr (Or.inr (Or.inl ⟨hc10.symm, rfl⟩))⟩, N0, rfl⟩
      · skip
        have pre13 : ∀ t, Steps p.tables e below (s₁.setTop (mkF m 29 #[.val (.int p0)] [(.int (4 : Int32)), (.int p0)])) t → Steps p.tables e below (s₁.setTop (entryFrame m #[(.int p0)] 1)) t := fun t kt => pre9 t (by
            show Steps p.tables e below (s₁.setTop (mkF m 20 #[.val (.int p0)] [(.int (3 : Int32)), (.int p0)])) _
            refine XS.icmpYes X0.here hx rfl (pc0 := 20) (pc' := 27) rfl (hb hby d1_20) rfl (feq hc10).2 (by decide) (by decide) ?_
            show Steps p.tables e below (s₁.setTop (mkF m 27 #[.val (.int p0)] [])) _
            refine XS.iloadN X0.here hx rfl (hb hby d1_27) rfl ?_
            show Steps p.tables e below (s₁.setTop (mkF m 28 #[.val (.int p0)] [(.int p0)])) _
            refine XS.iconst X0.here hx rfl (hb hby d1_28) ?_
            exact kt)
        by_cases hc14 : p0 = (4 : Int32)
        · skip
          obtain ⟨T15, X15, e15, st15⟩ := getS2 X0 hx hZ hown (host := "") (Or.inl (hw _ (List.mem_of_getElem? (i := 37) rfl))) Via.refl e0 Sf_EARLY_STOP_3 (g := (mkF m 32 #[.val (.int p0)] [])) rfl (hb hby d1_32)
          have pre16 : ∀ t, Steps p.tables e below (T15.setTop (mkF m 35 #[.val (.int p0)] [(.ref w_EARLY_STOP_3)])) t → Steps p.tables e below (s₁.setTop (entryFrame m #[(.int p0)] 1)) t := fun t kt => pre13 t (by
              show Steps p.tables e below (s₁.setTop (mkF m 29 #[.val (.int p0)] [(.int (4 : Int32)), (.int p0)])) _
              refine XS.icmpNo X0.here hx rfl (hb hby d1_29) rfl (teq hc14).2 ?_
              show Steps p.tables e below (s₁.setTop (mkF m 32 #[.val (.int p0)] [])) _
              refine st15 _ ?_
              exact kt)
          obtain ⟨fs, hr, hrun, hended, hW, hsame⟩ := X15.leave (v := some (.ref w_EARLY_STOP_3)) (fun h => by rw [Bd.returns] at h; cases h)
          refine ⟨_, _, pre16 _ ?_, hrun, hended, _, _, rfl, ?_, ⟨_, rfl⟩, hW, hsame.mono (by decide) (by decide)⟩
          · show Steps p.tables e below (T15.setTop (mkF m 35 #[.val (.int p0)] [(.ref w_EARLY_STOP_3)])) _
            jvm_step X15.here [X15.here.top, hx, (hb hby d1_35), X15.method', Bd.returns, Value.isRef, FieldType.isReference]
            first | (intro acts; rw [hr _ acts rfl rfl rfl]) | rw [hr _ _ rfl rfl rfl]
            exact Steps.refl _
          · show Q1 Z _ _ _ _ _ _ h0 n0 _ T15.heap _
            rw [e15]
            exact ⟨⟨_, rfl, Or.inr (Or.inr (Or.inr (Or.inl ⟨hc14.symm, rfl⟩)))⟩, N0, rfl⟩
        · skip
          have pre17 : ∀ t, Steps p.tables e below (s₁.setTop (mkF m 38 #[.val (.int p0)] [(.int (5 : Int32)), (.int p0)])) t → Steps p.tables e below (s₁.setTop (entryFrame m #[(.int p0)] 1)) t := fun t kt => pre13 t (by
              show Steps p.tables e below (s₁.setTop (mkF m 29 #[.val (.int p0)] [(.int (4 : Int32)), (.int p0)])) _
              refine XS.icmpYes X0.here hx rfl (pc0 := 29) (pc' := 36) rfl (hb hby d1_29) rfl (feq hc14).2 (by decide) (by decide) ?_
              show Steps p.tables e below (s₁.setTop (mkF m 36 #[.val (.int p0)] [])) _
              refine XS.iloadN X0.here hx rfl (hb hby d1_36) rfl ?_
              show Steps p.tables e below (s₁.setTop (mkF m 37 #[.val (.int p0)] [(.int p0)])) _
              refine XS.iconst X0.here hx rfl (hb hby d1_37) ?_
              exact kt)
          by_cases hc18 : p0 = (5 : Int32)
          · skip
            obtain ⟨T19, X19, e19, st19⟩ := getS2 X0 hx hZ hown (host := "") (Or.inl (hw _ (List.mem_of_getElem? (i := 30) rfl))) Via.refl e0 Sf_DISCARD_4 (g := (mkF m 41 #[.val (.int p0)] [])) rfl (hb hby d1_41)
            have pre20 : ∀ t, Steps p.tables e below (T19.setTop (mkF m 44 #[.val (.int p0)] [(.ref w_DISCARD_4)])) t → Steps p.tables e below (s₁.setTop (entryFrame m #[(.int p0)] 1)) t := fun t kt => pre17 t (by
                show Steps p.tables e below (s₁.setTop (mkF m 38 #[.val (.int p0)] [(.int (5 : Int32)), (.int p0)])) _
                refine XS.icmpNo X0.here hx rfl (hb hby d1_38) rfl (teq hc18).2 ?_
                show Steps p.tables e below (s₁.setTop (mkF m 41 #[.val (.int p0)] [])) _
                refine st19 _ ?_
                exact kt)
            obtain ⟨fs, hr, hrun, hended, hW, hsame⟩ := X19.leave (v := some (.ref w_DISCARD_4)) (fun h => by rw [Bd.returns] at h; cases h)
            refine ⟨_, _, pre20 _ ?_, hrun, hended, _, _, rfl, ?_, ⟨_, rfl⟩, hW, hsame.mono (by decide) (by decide)⟩
            · show Steps p.tables e below (T19.setTop (mkF m 44 #[.val (.int p0)] [(.ref w_DISCARD_4)])) _
              jvm_step X19.here [X19.here.top, hx, (hb hby d1_44), X19.method', Bd.returns, Value.isRef, FieldType.isReference]
              first | (intro acts; rw [hr _ acts rfl rfl rfl]) | rw [hr _ _ rfl rfl rfl]
              exact Steps.refl _
            · show Q1 Z _ _ _ _ _ _ h0 n0 _ T19.heap _
              rw [e19]
              exact ⟨⟨_, rfl, Or.inr (Or.inr (Or.inr (Or.inr (Or.inl ⟨hc18.symm, rfl⟩))))⟩, N0, rfl⟩
          · skip
            have pre21 : ∀ t, Steps p.tables e below (s₁.setTop (mkF m 46 #[.val (.int p0)] [.null])) t → Steps p.tables e below (s₁.setTop (entryFrame m #[(.int p0)] 1)) t := fun t kt => pre17 t (by
                show Steps p.tables e below (s₁.setTop (mkF m 38 #[.val (.int p0)] [(.int (5 : Int32)), (.int p0)])) _
                refine XS.icmpYes X0.here hx rfl (pc0 := 38) (pc' := 45) rfl (hb hby d1_38) rfl (feq hc18).2 (by decide) (by decide) ?_
                show Steps p.tables e below (s₁.setTop (mkF m 45 #[.val (.int p0)] [])) _
                refine XS.aconstNull X0.here hx rfl (hb hby d1_45) ?_
                exact kt)
            obtain ⟨fs, hr, hrun, hended, hW, hsame⟩ := X0.leave (v := some .null) (fun h => by rw [Bd.returns] at h; cases h)
            refine ⟨_, _, pre21 _ ?_, hrun, hended, _, _, rfl, ?_, ⟨_, rfl⟩, hW, hsame.mono (by decide) (by decide)⟩
            · show Steps p.tables e below (s₁.setTop (mkF m 46 #[.val (.int p0)] [.null])) _
              jvm_step X0.here [X0.here.top, hx, (hb hby d1_46), X0.method', Bd.returns, Value.isRef, FieldType.isReference]
              first | (intro acts; rw [hr _ acts rfl rfl rfl]) | rw [hr _ _ rfl rfl rfl]
              exact Steps.refl _
            · show Q1 Z _ _ _ _ _ _ h0 n0 _ s₁.heap _
              rw [e0]
              exact ⟨⟨_, rfl, Or.inr (Or.inr (Or.inr (Or.inr (Or.inr (⟨rfl, hc2, hc6, hc10, hc14, hc18⟩)))))⟩, N0, rfl⟩
theorem d4_0 : decode prog_12_method_4_code 0 = .ok (.aload_n 0, 1) := by decide +kernel
theorem d4_1 : decode prog_12_method_4_code 1 = .ok (.getfield 38, 3) := by decide +kernel
theorem d4_4 : decode prog_12_method_4_code 4 = .ok (.ireturn, 1) := by decide +kernel
theorem ef_4 (m : MethodId) (x0 : Addr)  : entryFrame m #[(.ref x0)] 1 = mkF m 0 #[.val (.ref x0)] [] := by first | (simp [entryFrame, mkF, argsToLocals, Value.category]; done) | rfl
def Q4 (Z : State) (a0 : Addr) (w_code_0 : Int32) (h0 : Heap) (n0 : Nat) (v : Option Value) (h : Heap) (L : List Loc) : Prop := v = some (.int w_code_0) ∧ Fr n0 L ∧ h = h0
set_option maxRecDepth 65536 in
set_option maxHeartbeats 40000000 in
theorem rm4 (l : Launch) (Z : State) (aw : Array Value) (hw : ∀ d ∈ tables_1, d.before aw Z = true) (ws : List Jvm.Cond) (a0 : Addr) (w_code_0 : Int32) (h0 : Heap) (n0 : Nat) (Z0 : n0 ≤ h0.size) (Ff_code_0 : Fld Z h0 a0 "com/example/token_handoff/tokenhandoff/Kind" "code" "I" (.int w_code_0)) :
    MetFree l (⟨"com/example/token_handoff/tokenhandoff/Kind", "code", "()I"⟩ : MethodName) (head1 (Jvm.Cond.code (⟨"com/example/token_handoff/tokenhandoff/Kind", "code", "()I"⟩ : MethodName) prog_12_method_4_code 1 (some .int) :: ws) ({ frames := 0, cells := 0, slots := 0, locals := 0 } : Room)) (fun a U => a = #[(.ref a0)] ∧ Z.Warmed39 U.vm ∧ U.heap = h0) (fun _ _ _ _ _ => True) (fun _ U o U' => ∃ v L, o = .returned v ∧ Q4 Z a0 w_code_0 h0 n0 v U'.heap L ∧ FrameEnd U o U' L ({ frames := 0, cells := 0, slots := 0, locals := 0 } : Room).cells ({ frames := 0, cells := 0, slots := 0, locals := 0 } : Room).slots) := by
  refine MetFree.of_bodySF (plainFor_of_name pn_0) hisR ?_
  intro p e s m args below meth c s₁ Bd hml0 hP hK
  obtain ⟨rfl, hZ, hh⟩ := hP
  have hx := Bd.exec
  have hby := Bd.bytes
  have hml : c.maxLocals = 1 := hml0
  have hown : s.vm.findClass "com/example/token_handoff/tokenhandoff/Kind" = some m.cls := findClass_of_methodNamed Bd.named
  have hnm := (name_of_methodNamed Bd.named Bd.method).1
  have X0 : Stand p l e ({ frames := 0, cells := 0, slots := 0, locals := 0 } : Room) s m #[(.ref a0)] below meth c s₁ [] 0 0 := Stand.of_body Bd
  have e0 : s₁.heap = h0 := by rw [← hh, Bd.state]; rfl
  have N0 := Fr.nil n0
  have pre0 : ∀ t, Steps p.tables e below (s₁.setTop (mkF m 0 #[.val (.ref a0)] [])) t → Steps p.tables e below (s₁.setTop (entryFrame m #[(.ref a0)] 1)) t := fun t k => castTop (ef_4 m a0 ) k
  obtain ⟨T1, X1, e1, st1⟩ := getF X0 hx hZ hown (host := "") (Or.inl (hw _ (List.mem_of_getElem? (i := 28) rfl))) Via.refl e0 Ff_code_0 (g := (mkF m 1 #[.val (.ref a0)] [(.ref a0)])) rfl rfl (hb hby d4_1)
  have pre2 : ∀ t, Steps p.tables e below (T1.setTop (mkF m 4 #[.val (.ref a0)] [(.int w_code_0)])) t → Steps p.tables e below (s₁.setTop (entryFrame m #[(.ref a0)] 1)) t := fun t kt => pre0 t (by
      show Steps p.tables e below (s₁.setTop (mkF m 0 #[.val (.ref a0)] [])) _
      refine XS.aloadN X0.here hx rfl (hb hby d4_0) rfl rfl ?_
      show Steps p.tables e below (s₁.setTop (mkF m 1 #[.val (.ref a0)] [(.ref a0)])) _
      refine st1 _ ?_
      exact kt)
  obtain ⟨fs, hr, hrun, hended, hW, hsame⟩ := X1.leave (v := some (.int w_code_0)) (fun h => by rw [Bd.returns] at h; cases h)
  refine ⟨_, _, pre2 _ ?_, hrun, hended, _, _, rfl, ?_, ⟨_, rfl⟩, hW, hsame.mono (by decide) (by decide)⟩
  · show Steps p.tables e below (T1.setTop (mkF m 4 #[.val (.ref a0)] [(.int w_code_0)])) _
    exact retI X1 hx Bd.returns (hb hby d4_4) hr
  · show Q4 Z _ _ h0 n0 _ T1.heap _
    rw [e1]
    exact ⟨rfl, N0, rfl⟩
theorem pd_1 : parseMethodDescriptor "(I)Lcom/example/token_handoff/tokenhandoff/Kind;" = some ⟨[.int], some (.object "com/example/token_handoff/tokenhandoff/Kind")⟩ := by decide +kernel
theorem pd_2 : parseMethodDescriptor "()I" = some ⟨[], some .int⟩ := by decide +kernel
theorem ef_0 (m : MethodId) (x0 : Int32) (x1 : Int32)  : entryFrame m #[(.int x0), (.int x1)] maxLocals = mkF m 0 #[.val (.int x0), .val (.int x1), .unset, .unset, .unset] [] := by first | (simp [entryFrame, mkF, argsToLocals, Value.category, maxLocals]; done) | rfl
def Q0 (Z : State) (p0 : Int32) (p1 : Int32) (u__VALUES_1 : Addr) (w_MOVE_3 : Addr) (w_ACK_5 : Addr) (w_COMMIT_7 : Addr) (w_EARLY_STOP_9 : Addr) (w_DISCARD_11 : Addr) (kA : ClassId) (h0 : Heap) (n0 : Nat) (v : Option Value) (h : Heap) (L : List Loc) : Prop := v = some (.int (1 : Int32)) ∧ Fr n0 L ∧ (True)
set_option maxRecDepth 65536 in
set_option maxHeartbeats 40000000 in
theorem rm0 (l : Launch) (Z : State) (aw : Array Value) (hw : ∀ d ∈ tables_1, d.before aw Z = true) (ws : List Jvm.Cond) (p0 : Int32) (p1 : Int32) (u__VALUES_1 : Addr) (w_MOVE_3 : Addr) (w_ACK_5 : Addr) (w_COMMIT_7 : Addr) (w_EARLY_STOP_9 : Addr) (w_DISCARD_11 : Addr) (kA : ClassId) (h0 : Heap) (n0 : Nat) (Z0 : n0 ≤ h0.size) (S__VALUES_0 : Sta Z h0 "com/example/token_handoff/tokenhandoff/Kind" "$VALUES" "[Lcom/example/token_handoff/tokenhandoff/Kind;" (.ref u__VALUES_1)) (E_1 : Exa Z h0 u__VALUES_1 "[Lcom/example/token_handoff/tokenhandoff/Kind;") (S_MOVE_2 : Sta Z h0 "com/example/token_handoff/tokenhandoff/Kind" "MOVE" "Lcom/example/token_handoff/tokenhandoff/Kind;" (.ref w_MOVE_3)) (E_3 : Exa Z h0 w_MOVE_3 "com/example/token_handoff/tokenhandoff/Kind") (S_ACK_4 : Sta Z h0 "com/example/token_handoff/tokenhandoff/Kind" "ACK" "Lcom/example/token_handoff/tokenhandoff/Kind;" (.ref w_ACK_5)) (E_5 : Exa Z h0 w_ACK_5 "com/example/token_handoff/tokenhandoff/Kind") (S_COMMIT_6 : Sta Z h0 "com/example/token_handoff/tokenhandoff/Kind" "COMMIT" "Lcom/example/token_handoff/tokenhandoff/Kind;" (.ref w_COMMIT_7)) (E_7 : Exa Z h0 w_COMMIT_7 "com/example/token_handoff/tokenhandoff/Kind") (S_EARLY_STOP_8 : Sta Z h0 "com/example/token_handoff/tokenhandoff/Kind" "EARLY_STOP" "Lcom/example/token_handoff/tokenhandoff/Kind;" (.ref w_EARLY_STOP_9)) (E_9 : Exa Z h0 w_EARLY_STOP_9 "com/example/token_handoff/tokenhandoff/Kind") (S_DISCARD_10 : Sta Z h0 "com/example/token_handoff/tokenhandoff/Kind" "DISCARD" "Lcom/example/token_handoff/tokenhandoff/Kind;" (.ref w_DISCARD_11)) (E_11 : Exa Z h0 w_DISCARD_11 "com/example/token_handoff/tokenhandoff/Kind") (F_code_12 : Fld Z h0 w_MOVE_3 "com/example/token_handoff/tokenhandoff/Kind" "code" "I" (.int (1 : Int32))) (F_code_13 : Fld Z h0 w_ACK_5 "com/example/token_handoff/tokenhandoff/Kind" "code" "I" (.int (2 : Int32))) (F_code_14 : Fld Z h0 w_COMMIT_7 "com/example/token_handoff/tokenhandoff/Kind" "code" "I" (.int (3 : Int32))) (F_code_15 : Fld Z h0 w_EARLY_STOP_9 "com/example/token_handoff/tokenhandoff/Kind" "code" "I" (.int (4 : Int32))) (F_code_16 : Fld Z h0 w_DISCARD_11 "com/example/token_handoff/tokenhandoff/Kind" "code" "I" (.int (5 : Int32))) (AvV : Arv Z h0 u__VALUES_1 kA (.object "com/example/token_handoff/tokenhandoff/Kind") (5 : Int32) [(.ref w_MOVE_3), (.ref w_ACK_5), (.ref w_COMMIT_7), (.ref w_EARLY_STOP_9), (.ref w_DISCARD_11)] .null) :
    MetFree l x (head1 (Jvm.Cond.code x code maxLocals ret :: ws) room_1) (fun a U => a = #[(.int p0), (.int p1)] ∧ Z.Warmed39 U.vm ∧ U.heap = h0) (fun _ _ _ _ _ => True) (fun _ U o U' => ∃ v L, o = .returned v ∧ Q0 Z p0 p1 u__VALUES_1 w_MOVE_3 w_ACK_5 w_COMMIT_7 w_EARLY_STOP_9 w_DISCARD_11 kA h0 n0 v U'.heap L ∧ FrameEnd U o U' L room_1.cells room_1.slots) := by
  refine MetFree.of_bodySF (plainFor_of_name pn_1) hisR ?_
  intro p e s m args below meth c s₁ Bd hml0 hP hK
  obtain ⟨rfl, hZ, hh⟩ := hP
  have hx := Bd.exec
  have hby := Bd.bytes
  have hml : c.maxLocals = 5 := hml0
  have hown : s.vm.findClass "com/example/token_handoff/tokenhandoff/KindOfCodePinLaw" = some m.cls := findClass_of_methodNamed Bd.named
  have hnm := (name_of_methodNamed Bd.named Bd.method).1
  have X0 : Stand p l e room_1 s m #[(.int p0), (.int p1)] below meth c s₁ [] 0 0 := Stand.of_body Bd
  have e0 : s₁.heap = h0 := by rw [← hh, Bd.state]; rfl
  have N0 := Fr.nil n0
  have pre0 : ∀ t, Steps p.tables e below (s₁.setTop (mkF m 0 #[.val (.int p0), .val (.int p1), .unset, .unset, .unset] [])) t → Steps p.tables e below (s₁.setTop (entryFrame m #[(.int p0), (.int p1)] maxLocals)) t := fun t k => castTop (ef_0 m p0 p1 ) k
  refine cps (A := ∃ (cc : Int32), ∀ t, Steps p.tables e below (s₁.setTop (mkF m 17 #[.val (.int p0), .val (.int p1), .val (.int cc), .unset, .unset] [])) t → Steps p.tables e below (s₁.setTop (entryFrame m #[(.int p0), (.int p1)] maxLocals)) t) (fun kk1 => ?_) (fun hA => ?_)
  · skip
    have pre2 : ∀ t, Steps p.tables e below (s₁.setTop (mkF m 3 #[.val (.int p0), .val (.int p1), .unset, .unset, .unset] [(.int (p1 &&& (1 : Int32)))])) t → Steps p.tables e below (s₁.setTop (entryFrame m #[(.int p0), (.int p1)] maxLocals)) t := fun t kt => pre0 t (by
        show Steps p.tables e below (s₁.setTop (mkF m 0 #[.val (.int p0), .val (.int p1), .unset, .unset, .unset] [])) _
        refine XS.iloadN X0.here hx rfl (hb hby at_0) rfl ?_
        show Steps p.tables e below (s₁.setTop (mkF m 1 #[.val (.int p0), .val (.int p1), .unset, .unset, .unset] [(.int p1)])) _
        refine XS.iconst X0.here hx rfl (hb hby at_1) ?_
        show Steps p.tables e below (s₁.setTop (mkF m 2 #[.val (.int p0), .val (.int p1), .unset, .unset, .unset] [(.int (1 : Int32)), (.int p1)])) _
        refine XS.iand X0.here hx rfl (hb hby at_2) rfl ?_
        exact kt)
    by_cases hc3 : (p1 &&& (1 : Int32)) = (0 : Int32)
    · skip
      have pre4 : ∀ t, Steps p.tables e below (s₁.setTop (mkF m 17 #[.val (.int p0), .val (.int p1), .val (.int ((p0 &&& (7 : Int32)) - (1 : Int32))), .unset, .unset] [])) t → Steps p.tables e below (s₁.setTop (entryFrame m #[(.int p0), (.int p1)] maxLocals)) t := fun t kt => pre2 t (by
          show Steps p.tables e below (s₁.setTop (mkF m 3 #[.val (.int p0), .val (.int p1), .unset, .unset, .unset] [(.int (p1 &&& (1 : Int32)))])) _
          refine XS.ifYes X0.here hx rfl (pc0 := 3) (pc' := 10) rfl (hb hby at_3) rfl ((if0 _ _).trans (teq hc3).1) (by decide) (by decide) ?_
          show Steps p.tables e below (s₁.setTop (mkF m 10 #[.val (.int p0), .val (.int p1), .unset, .unset, .unset] [])) _
          refine XS.iloadN X0.here hx rfl (hb hby at_10) rfl ?_
          show Steps p.tables e below (s₁.setTop (mkF m 11 #[.val (.int p0), .val (.int p1), .unset, .unset, .unset] [(.int p0)])) _
          refine XS.bipush X0.here hx rfl (hb hby at_11) ?_
          show Steps p.tables e below (s₁.setTop (mkF m 13 #[.val (.int p0), .val (.int p1), .unset, .unset, .unset] [(.int (7 : Int32)), (.int p0)])) _
          refine XS.iand X0.here hx rfl (hb hby at_13) rfl ?_
          show Steps p.tables e below (s₁.setTop (mkF m 14 #[.val (.int p0), .val (.int p1), .unset, .unset, .unset] [(.int (p0 &&& (7 : Int32)))])) _
          refine XS.iconst X0.here hx rfl (hb hby at_14) ?_
          show Steps p.tables e below (s₁.setTop (mkF m 15 #[.val (.int p0), .val (.int p1), .unset, .unset, .unset] [(.int (1 : Int32)), (.int (p0 &&& (7 : Int32)))])) _
          refine XS.isub X0.here hx rfl (hb hby at_15) rfl ?_
          show Steps p.tables e below (s₁.setTop (mkF m 16 #[.val (.int p0), .val (.int p1), .unset, .unset, .unset] [(.int ((p0 &&& (7 : Int32)) - (1 : Int32)))])) _
          refine XS.istoreN X0.here hx rfl (hb hby at_16) rfl (l' := #[.val (.int p0), .val (.int p1), .val (.int ((p0 &&& (7 : Int32)) - (1 : Int32))), .unset, .unset]) rfl ?_
          exact kt)
      exact kk1 ⟨((p0 &&& (7 : Int32)) - (1 : Int32)), pre4⟩
    · skip
      have pre5 : ∀ t, Steps p.tables e below (s₁.setTop (mkF m 17 #[.val (.int p0), .val (.int p1), .val (.int p0), .unset, .unset] [])) t → Steps p.tables e below (s₁.setTop (entryFrame m #[(.int p0), (.int p1)] maxLocals)) t := fun t kt => pre2 t (by
          show Steps p.tables e below (s₁.setTop (mkF m 3 #[.val (.int p0), .val (.int p1), .unset, .unset, .unset] [(.int (p1 &&& (1 : Int32)))])) _
          refine XS.ifNo X0.here hx rfl (hb hby at_3) rfl ((if0 _ _).trans (feq hc3).1) ?_
          show Steps p.tables e below (s₁.setTop (mkF m 6 #[.val (.int p0), .val (.int p1), .unset, .unset, .unset] [])) _
          refine XS.iloadN X0.here hx rfl (hb hby at_6) rfl ?_
          show Steps p.tables e below (s₁.setTop (mkF m 7 #[.val (.int p0), .val (.int p1), .unset, .unset, .unset] [(.int p0)])) _
          refine XS.goto X0.here hx rfl (pc0 := 7) (pc' := 16) rfl (hb hby at_7) (by decide) (by decide) ?_
          show Steps p.tables e below (s₁.setTop (mkF m 16 #[.val (.int p0), .val (.int p1), .unset, .unset, .unset] [(.int p0)])) _
          refine XS.istoreN X0.here hx rfl (hb hby at_16) rfl (l' := #[.val (.int p0), .val (.int p1), .val (.int p0), .unset, .unset]) rfl ?_
          exact kt)
      exact kk1 ⟨p0, pre5⟩
  · skip
    obtain ⟨cc, pre6⟩ := hA
    obtain ⟨_, _, ⟨T7, L7, k7, n7⟩, -, X7, ⟨Lc7, hQ7, l7, y7, z7⟩, st7⟩ := Jvm.LawKit.callS X0 hx (y := (⟨"com/example/token_handoff/tokenhandoff/KindOfCodePinLaw", "expectedKind", "(I)Lcom/example/token_handoff/tokenhandoff/Kind;"⟩ : MethodName)) hown (mvT hZ (hw _ (List.mem_of_getElem? (i := 0) rfl))) (mvT hZ (hw _ (List.mem_of_getElem? (i := 1) rfl))) (mvT hZ (hw _ (List.mem_of_getElem? (i := 2) rfl))) (mvT hZ (hw _ (List.mem_of_getElem? (i := 3) rfl))) (by decide) (backOf (W := 0) (rm1 l Z aw hw [] cc w_MOVE_3 w_ACK_5 w_COMMIT_7 w_EARLY_STOP_9 w_DISCARD_11 h0 n0 Z0 S_MOVE_2 S_ACK_4 S_COMMIT_6 S_EARLY_STOP_8 S_DISCARD_10) hZ (hw _ (List.mem_of_getElem? (i := 3) rfl)) (hw _ (List.mem_of_getElem? (i := 2) rfl)) (by decide) (by decide)) (g := (mkF m 18 #[.val (.int p0), .val (.int p1), .val (.int cc), .unset, .unset] [(.int cc)])) rfl (by rw [hml]; rfl) (argsL := [(.int cc)]) (rest := []) (lenOf pd_1 rfl) rfl (by show 2 * 0 + _ ≤ _; exact Nat.le_of_eq rfl) (hb hby at_18) (fun _ _ => ⟨rfl, e0, (by decide : 0 + 0 ≤ _), (by decide : 0 + 0 ≤ _)⟩)
    dsimp only [Pt.U, Pt.locs, Pt.cells, Pt.slots] at X7 l7 y7 z7 st7 hQ7
    subst l7 y7 z7
    obtain ⟨⟨r8, rfl, Pr8⟩, Nq7, e7⟩ := hQ7
    have N7 := Fr.app N0 Nq7
    have pre9 : ∀ t, Steps p.tables e below (T7.setTop (mkF m 21 #[.val (.int p0), .val (.int p1), .val (.int cc), .unset, .unset] [r8])) t → Steps p.tables e below (s₁.setTop (entryFrame m #[(.int p0), (.int p1)] maxLocals)) t := fun t kt => pre6 t (by
        show Steps p.tables e below (s₁.setTop (mkF m 17 #[.val (.int p0), .val (.int p1), .val (.int cc), .unset, .unset] [])) _
        refine XS.iloadN X0.here hx rfl (hb hby at_17) rfl ?_
        show Steps p.tables e below (s₁.setTop (mkF m 18 #[.val (.int p0), .val (.int p1), .val (.int cc), .unset, .unset] [(.int cc)])) _
        refine st7 _ ?_
        exact kt)
    rcases Pr8 with ⟨rfl, rfl⟩ | ⟨rfl, rfl⟩ | ⟨rfl, rfl⟩ | ⟨rfl, rfl⟩ | ⟨rfl, rfl⟩ | ⟨rfl, n1, n2, n3, n4, n5⟩
    · skip
      obtain ⟨_, _, ⟨T10, L10, k10, n10⟩, -, X10, ⟨Lc10, hQ10, l10, y10, z10⟩, st10⟩ := Jvm.LawKit.callS X7 hx (y := (⟨"com/example/token_handoff/tokenhandoff/Kind", "ofCode", "(I)Lcom/example/token_handoff/tokenhandoff/Kind;"⟩ : MethodName)) hown (mvT hZ (hw _ (List.mem_of_getElem? (i := 4) rfl))) (mvT hZ (hw _ (List.mem_of_getElem? (i := 5) rfl))) (mvT hZ (hw _ (List.mem_of_getElem? (i := 6) rfl))) (mvT hZ (hw _ (List.mem_of_getElem? (i := 7) rfl))) (by decide) (backOf (W := 0) (rm2 l Z aw hw [] (1 : Int32) kA u__VALUES_1 w_MOVE_3 w_ACK_5 w_COMMIT_7 w_EARLY_STOP_9 w_DISCARD_11 h0 n0 Z0 AvV E_1 F_code_12 F_code_13 F_code_14 F_code_15 F_code_16 S__VALUES_0) hZ (hw _ (List.mem_of_getElem? (i := 7) rfl)) (hw _ (List.mem_of_getElem? (i := 6) rfl)) (by decide) (by decide)) (g := (mkF m 23 #[.val (.int p0), .val (.int p1), .val (.int (1 : Int32)), .val (.ref w_MOVE_3), .unset] [(.int (1 : Int32))])) rfl (by rw [hml]; rfl) (argsL := [(.int (1 : Int32))]) (rest := []) (lenOf pd_1 rfl) rfl (by show 2 * 0 + _ ≤ _; exact Nat.le_of_eq rfl) (hb hby at_23) (fun _ _ => ⟨rfl, e7, (by decide : 0 + 1 ≤ _), (by decide : 0 + 5 ≤ _)⟩)
      dsimp only [Pt.U, Pt.locs, Pt.cells, Pt.slots] at X10 l10 y10 z10 st10 hQ10
      subst l10 y10 z10
      obtain ⟨⟨r11, rfl, Pr11⟩, Nq10, c10_0⟩ := hQ10
      have N10 := Fr.app N7 Nq10
      have f12 := (own_sta_keep S__VALUES_0 c10_0 all0)
      have f13 := (E_1.keep c10_0)
      have f14 := (own_sta_keep S_MOVE_2 c10_0 all0)
      have f15 := (E_3.keep c10_0)
      have f16 := (own_sta_keep S_ACK_4 c10_0 all0)
      have f17 := (E_5.keep c10_0)
      have f18 := (own_sta_keep S_COMMIT_6 c10_0 all0)
      have f19 := (E_7.keep c10_0)
      have f20 := (own_sta_keep S_EARLY_STOP_8 c10_0 all0)
      have f21 := (E_9.keep c10_0)
      have f22 := (own_sta_keep S_DISCARD_10 c10_0 all0)
      have f23 := (E_11.keep c10_0)
      have f24 := (F_code_12.keep c10_0 nin0)
      have f25 := (F_code_13.keep c10_0 nin0)
      have f26 := (F_code_14.keep c10_0 nin0)
      have f27 := (F_code_15.keep c10_0 nin0)
      have f28 := (F_code_16.keep c10_0 nin0)
      have f29 := (AvV.keep c10_0 nin0)
      have K30 : Keep h0 T10.heap [] := Keep.trans (Keep.refl h0 []) c10_0 all0
      have pre31 : ∀ t, Steps p.tables e below (T10.setTop (mkF m 26 #[.val (.int p0), .val (.int p1), .val (.int (1 : Int32)), .val (.ref w_MOVE_3), .unset] [r11])) t → Steps p.tables e below (s₁.setTop (entryFrame m #[(.int p0), (.int p1)] maxLocals)) t := fun t kt => pre9 t (by
          show Steps p.tables e below (T7.setTop (mkF m 21 #[.val (.int p0), .val (.int p1), .val (.int (1 : Int32)), .unset, .unset] [(.ref w_MOVE_3)])) _
          refine XS.astoreN X7.here hx rfl (hb hby at_21) rfl rfl (l' := #[.val (.int p0), .val (.int p1), .val (.int (1 : Int32)), .val (.ref w_MOVE_3), .unset]) rfl ?_
          show Steps p.tables e below (T7.setTop (mkF m 22 #[.val (.int p0), .val (.int p1), .val (.int (1 : Int32)), .val (.ref w_MOVE_3), .unset] [])) _
          refine XS.iloadN X7.here hx rfl (hb hby at_22) rfl ?_
          show Steps p.tables e below (T7.setTop (mkF m 23 #[.val (.int p0), .val (.int p1), .val (.int (1 : Int32)), .val (.ref w_MOVE_3), .unset] [(.int (1 : Int32))])) _
          refine st10 _ ?_
          exact kt)
      obtain rfl : (Value.ref w_MOVE_3) = r11 := Pr11.1 rfl
      obtain ⟨cq32, kq32, q32a, q32b, q32c⟩ := isOf hZ rfl f15
      obtain ⟨_, _, ⟨T32, L32, k32, n32⟩, -, X32, ⟨Lc32, hQ32, l32, y32, z32⟩, st32⟩ := X10.virtualBack hx (y := (⟨"com/example/token_handoff/tokenhandoff/Kind", "code", "()I"⟩ : MethodName)) (z := (⟨"com/example/token_handoff/tokenhandoff/Kind", "code", "()I"⟩ : MethodName)) hown (mvT hZ (hw _ (List.mem_of_getElem? (i := 31) rfl))) (mvT hZ (hw _ (List.mem_of_getElem? (i := 32) rfl))) (notFace_of_selects (args := #[]) (mvT hZ (hw _ (List.mem_of_getElem? (i := 34) rfl)))) (mvT hZ (hw _ (List.mem_of_getElem? (i := 34) rfl))) (mvT hZ (hw _ (List.mem_of_getElem? (i := 33) rfl))) (by decide) (backOf (W := 0) (rm4 l Z aw hw [] w_MOVE_3 (1 : Int32) T10.heap n0 (Nat.le_trans Z0 c10_0.1) f24) hZ (hw _ (List.mem_of_getElem? (i := 35) rfl)) (hw _ (List.mem_of_getElem? (i := 6) rfl)) (by decide) (by decide)) q32a q32c (g := (mkF m 41 #[.val (.int p0), .val (.int p1), .val (.int (1 : Int32)), .val (.ref w_MOVE_3), .val (.ref w_MOVE_3)] [(.ref w_MOVE_3)])) rfl (by rw [hml]; rfl) (Steps.refl _) (argsL := []) (rest := []) (lenOf pd_2 rfl) rfl (by show 2 * 0 + _ ≤ _; exact Nat.le_of_eq rfl) (hb hby at_41) (fun _ _ => ⟨rfl, rfl, (by decide : 1 + 0 ≤ _), (by decide : 5 + 0 ≤ _)⟩)
      dsimp only [Pt.U, Pt.locs, Pt.cells, Pt.slots] at X32 l32 y32 z32 st32 hQ32
      subst l32 y32 z32
      obtain ⟨rfl, Nq32, e32⟩ := hQ32
      have N32 := Fr.app N10 Nq32
      have pre33 : ∀ t, Steps p.tables e below (T32.setTop (mkF m 51 #[.val (.int p0), .val (.int p1), .val (.int (1 : Int32)), .val (.ref w_MOVE_3), .val (.ref w_MOVE_3)] [(.int (1 : Int32))])) t → Steps p.tables e below (s₁.setTop (entryFrame m #[(.int p0), (.int p1)] maxLocals)) t := fun t kt => pre31 t (by
          show Steps p.tables e below (T10.setTop (mkF m 26 #[.val (.int p0), .val (.int p1), .val (.int (1 : Int32)), .val (.ref w_MOVE_3), .unset] [(.ref w_MOVE_3)])) _
          refine XS.astore X10.here hx rfl (hb hby at_26) rfl rfl (l' := #[.val (.int p0), .val (.int p1), .val (.int (1 : Int32)), .val (.ref w_MOVE_3), .val (.ref w_MOVE_3)]) rfl ?_
          show Steps p.tables e below (T10.setTop (mkF m 28 #[.val (.int p0), .val (.int p1), .val (.int (1 : Int32)), .val (.ref w_MOVE_3), .val (.ref w_MOVE_3)] [])) _
          refine XS.aload X10.here hx rfl (hb hby at_28) rfl rfl ?_
          show Steps p.tables e below (T10.setTop (mkF m 30 #[.val (.int p0), .val (.int p1), .val (.int (1 : Int32)), .val (.ref w_MOVE_3), .val (.ref w_MOVE_3)] [(.ref w_MOVE_3)])) _
          refine XS.aloadN X10.here hx rfl (hb hby at_30) rfl rfl ?_
          show Steps p.tables e below (T10.setTop (mkF m 31 #[.val (.int p0), .val (.int p1), .val (.int (1 : Int32)), .val (.ref w_MOVE_3), .val (.ref w_MOVE_3)] [(.ref w_MOVE_3), (.ref w_MOVE_3)])) _
          refine Jvm.RoadKit.acmp (g := (mkF m 31 #[.val (.int p0), .val (.int p1), .val (.int (1 : Int32)), .val (.ref w_MOVE_3), .val (.ref w_MOVE_3)] [(.ref w_MOVE_3), (.ref w_MOVE_3)])) X10 hx rfl rfl rfl (pc0 := 31) (pc' := 36) (same := true) rfl (hb hby at_31) rfl (decide_eq_true rfl) (by decide) (by decide) ?_
          show Steps p.tables e below (T10.setTop (mkF m 36 #[.val (.int p0), .val (.int p1), .val (.int (1 : Int32)), .val (.ref w_MOVE_3), .val (.ref w_MOVE_3)] [])) _
          refine XS.aloadN X10.here hx rfl (hb hby at_36) rfl rfl ?_
          show Steps p.tables e below (T10.setTop (mkF m 37 #[.val (.int p0), .val (.int p1), .val (.int (1 : Int32)), .val (.ref w_MOVE_3), .val (.ref w_MOVE_3)] [(.ref w_MOVE_3)])) _
          refine XS.ifnullNo X10.here hx rfl (hb hby at_37) rfl ?_
          show Steps p.tables e below (T10.setTop (mkF m 40 #[.val (.int p0), .val (.int p1), .val (.int (1 : Int32)), .val (.ref w_MOVE_3), .val (.ref w_MOVE_3)] [])) _
          refine XS.aloadN X10.here hx rfl (hb hby at_40) rfl rfl ?_
          show Steps p.tables e below (T10.setTop (mkF m 41 #[.val (.int p0), .val (.int p1), .val (.int (1 : Int32)), .val (.ref w_MOVE_3), .val (.ref w_MOVE_3)] [(.ref w_MOVE_3)])) _
          refine st32.trans ?_
          show Steps p.tables e below (T32.setTop (mkF m 44 #[.val (.int p0), .val (.int p1), .val (.int (1 : Int32)), .val (.ref w_MOVE_3), .val (.ref w_MOVE_3)] [(.int (1 : Int32))])) _
          refine XS.iloadN X32.here hx rfl (hb hby at_44) rfl ?_
          show Steps p.tables e below (T32.setTop (mkF m 45 #[.val (.int p0), .val (.int p1), .val (.int (1 : Int32)), .val (.ref w_MOVE_3), .val (.ref w_MOVE_3)] [(.int (1 : Int32)), (.int (1 : Int32))])) _
          refine XS.icmpYes X32.here hx rfl (pc0 := 45) (pc' := 50) rfl (hb hby at_45) rfl (teq (rfl : (1 : Int32) = (1 : Int32))).1 (by decide) (by decide) ?_
          show Steps p.tables e below (T32.setTop (mkF m 50 #[.val (.int p0), .val (.int p1), .val (.int (1 : Int32)), .val (.ref w_MOVE_3), .val (.ref w_MOVE_3)] [])) _
          refine XS.iconst X32.here hx rfl (hb hby at_50) ?_
          exact kt)
      obtain ⟨fs, hr, hrun, hended, hW, hsame⟩ := X32.leave (v := some (.int (1 : Int32))) (fun h => by rw [Bd.returns] at h; cases h)
      refine ⟨_, _, pre33 _ ?_, hrun, hended, _, _, rfl, ?_, ⟨_, rfl⟩, hW, hsame.mono (by decide) (by decide)⟩
      · show Steps p.tables e below (T32.setTop (mkF m 51 #[.val (.int p0), .val (.int p1), .val (.int (1 : Int32)), .val (.ref w_MOVE_3), .val (.ref w_MOVE_3)] [(.int (1 : Int32))])) _
        exact retN X32 hx (t := .boolean) Bd.returns (by simp) (hb hby at_51) hr
      · show Q0 Z _ _ _ _ _ _ _ _ _ h0 n0 _ T32.heap _
        rw [e32]
        exact ⟨rfl, N32, trivial⟩
    · skip
      obtain ⟨_, _, ⟨T34, L34, k34, n34⟩, -, X34, ⟨Lc34, hQ34, l34, y34, z34⟩, st34⟩ := Jvm.LawKit.callS X7 hx (y := (⟨"com/example/token_handoff/tokenhandoff/Kind", "ofCode", "(I)Lcom/example/token_handoff/tokenhandoff/Kind;"⟩ : MethodName)) hown (mvT hZ (hw _ (List.mem_of_getElem? (i := 4) rfl))) (mvT hZ (hw _ (List.mem_of_getElem? (i := 5) rfl))) (mvT hZ (hw _ (List.mem_of_getElem? (i := 6) rfl))) (mvT hZ (hw _ (List.mem_of_getElem? (i := 7) rfl))) (by decide) (backOf (W := 0) (rm2 l Z aw hw [] (2 : Int32) kA u__VALUES_1 w_MOVE_3 w_ACK_5 w_COMMIT_7 w_EARLY_STOP_9 w_DISCARD_11 h0 n0 Z0 AvV E_1 F_code_12 F_code_13 F_code_14 F_code_15 F_code_16 S__VALUES_0) hZ (hw _ (List.mem_of_getElem? (i := 7) rfl)) (hw _ (List.mem_of_getElem? (i := 6) rfl)) (by decide) (by decide)) (g := (mkF m 23 #[.val (.int p0), .val (.int p1), .val (.int (2 : Int32)), .val (.ref w_ACK_5), .unset] [(.int (2 : Int32))])) rfl (by rw [hml]; rfl) (argsL := [(.int (2 : Int32))]) (rest := []) (lenOf pd_1 rfl) rfl (by show 2 * 0 + _ ≤ _; exact Nat.le_of_eq rfl) (hb hby at_23) (fun _ _ => ⟨rfl, e7, (by decide : 0 + 1 ≤ _), (by decide : 0 + 5 ≤ _)⟩)
      dsimp only [Pt.U, Pt.locs, Pt.cells, Pt.slots] at X34 l34 y34 z34 st34 hQ34
      subst l34 y34 z34
      obtain ⟨⟨r35, rfl, Pr35⟩, Nq34, c34_0⟩ := hQ34
      have N34 := Fr.app N7 Nq34
      have f36 := (own_sta_keep S__VALUES_0 c34_0 all0)
      have f37 := (E_1.keep c34_0)
      have f38 := (own_sta_keep S_MOVE_2 c34_0 all0)
      have f39 := (E_3.keep c34_0)
      have f40 := (own_sta_keep S_ACK_4 c34_0 all0)
      have f41 := (E_5.keep c34_0)
      have f42 := (own_sta_keep S_COMMIT_6 c34_0 all0)
      have f43 := (E_7.keep c34_0)
      have f44 := (own_sta_keep S_EARLY_STOP_8 c34_0 all0)
      have f45 := (E_9.keep c34_0)
      have f46 := (own_sta_keep S_DISCARD_10 c34_0 all0)
      have f47 := (E_11.keep c34_0)
      have f48 := (F_code_12.keep c34_0 nin0)
      have f49 := (F_code_13.keep c34_0 nin0)
      have f50 := (F_code_14.keep c34_0 nin0)
      have f51 := (F_code_15.keep c34_0 nin0)
      have f52 := (F_code_16.keep c34_0 nin0)
      have f53 := (AvV.keep c34_0 nin0)
      have K54 : Keep h0 T34.heap [] := Keep.trans (Keep.refl h0 []) c34_0 all0
      have pre55 : ∀ t, Steps p.tables e below (T34.setTop (mkF m 26 #[.val (.int p0), .val (.int p1), .val (.int (2 : Int32)), .val (.ref w_ACK_5), .unset] [r35])) t → Steps p.tables e below (s₁.setTop (entryFrame m #[(.int p0), (.int p1)] maxLocals)) t := fun t kt => pre9 t (by
          show Steps p.tables e below (T7.setTop (mkF m 21 #[.val (.int p0), .val (.int p1), .val (.int (2 : Int32)), .unset, .unset] [(.ref w_ACK_5)])) _
          refine XS.astoreN X7.here hx rfl (hb hby at_21) rfl rfl (l' := #[.val (.int p0), .val (.int p1), .val (.int (2 : Int32)), .val (.ref w_ACK_5), .unset]) rfl ?_
          show Steps p.tables e below (T7.setTop (mkF m 22 #[.val (.int p0), .val (.int p1), .val (.int (2 : Int32)), .val (.ref w_ACK_5), .unset] [])) _
          refine XS.iloadN X7.here hx rfl (hb hby at_22) rfl ?_
          show Steps p.tables e below (T7.setTop (mkF m 23 #[.val (.int p0), .val (.int p1), .val (.int (2 : Int32)), .val (.ref w_ACK_5), .unset] [(.int (2 : Int32))])) _
          refine st34 _ ?_
          exact kt)
      obtain rfl : (Value.ref w_ACK_5) = r35 := Pr35.2.1 rfl
      obtain ⟨cq56, kq56, q56a, q56b, q56c⟩ := isOf hZ rfl f41
      obtain ⟨_, _, ⟨T56, L56, k56, n56⟩, -, X56, ⟨Lc56, hQ56, l56, y56, z56⟩, st56⟩ := X34.virtualBack hx (y := (⟨"com/example/token_handoff/tokenhandoff/Kind", "code", "()I"⟩ : MethodName)) (z := (⟨"com/example/token_handoff/tokenhandoff/Kind", "code", "()I"⟩ : MethodName)) hown (mvT hZ (hw _ (List.mem_of_getElem? (i := 31) rfl))) (mvT hZ (hw _ (List.mem_of_getElem? (i := 32) rfl))) (notFace_of_selects (args := #[]) (mvT hZ (hw _ (List.mem_of_getElem? (i := 34) rfl)))) (mvT hZ (hw _ (List.mem_of_getElem? (i := 34) rfl))) (mvT hZ (hw _ (List.mem_of_getElem? (i := 33) rfl))) (by decide) (backOf (W := 0) (rm4 l Z aw hw [] w_ACK_5 (2 : Int32) T34.heap n0 (Nat.le_trans Z0 c34_0.1) f49) hZ (hw _ (List.mem_of_getElem? (i := 35) rfl)) (hw _ (List.mem_of_getElem? (i := 6) rfl)) (by decide) (by decide)) q56a q56c (g := (mkF m 41 #[.val (.int p0), .val (.int p1), .val (.int (2 : Int32)), .val (.ref w_ACK_5), .val (.ref w_ACK_5)] [(.ref w_ACK_5)])) rfl (by rw [hml]; rfl) (Steps.refl _) (argsL := []) (rest := []) (lenOf pd_2 rfl) rfl (by show 2 * 0 + _ ≤ _; exact Nat.le_of_eq rfl) (hb hby at_41) (fun _ _ => ⟨rfl, rfl, (by decide : 1 + 0 ≤ _), (by decide : 5 + 0 ≤ _)⟩)
      dsimp only [Pt.U, Pt.locs, Pt.cells, Pt.slots] at X56 l56 y56 z56 st56 hQ56
      subst l56 y56 z56
      obtain ⟨rfl, Nq56, e56⟩ := hQ56
      have N56 := Fr.app N34 Nq56
      have pre57 : ∀ t, Steps p.tables e below (T56.setTop (mkF m 51 #[.val (.int p0), .val (.int p1), .val (.int (2 : Int32)), .val (.ref w_ACK_5), .val (.ref w_ACK_5)] [(.int (1 : Int32))])) t → Steps p.tables e below (s₁.setTop (entryFrame m #[(.int p0), (.int p1)] maxLocals)) t := fun t kt => pre55 t (by
          show Steps p.tables e below (T34.setTop (mkF m 26 #[.val (.int p0), .val (.int p1), .val (.int (2 : Int32)), .val (.ref w_ACK_5), .unset] [(.ref w_ACK_5)])) _
          refine XS.astore X34.here hx rfl (hb hby at_26) rfl rfl (l' := #[.val (.int p0), .val (.int p1), .val (.int (2 : Int32)), .val (.ref w_ACK_5), .val (.ref w_ACK_5)]) rfl ?_
          show Steps p.tables e below (T34.setTop (mkF m 28 #[.val (.int p0), .val (.int p1), .val (.int (2 : Int32)), .val (.ref w_ACK_5), .val (.ref w_ACK_5)] [])) _
          refine XS.aload X34.here hx rfl (hb hby at_28) rfl rfl ?_
          show Steps p.tables e below (T34.setTop (mkF m 30 #[.val (.int p0), .val (.int p1), .val (.int (2 : Int32)), .val (.ref w_ACK_5), .val (.ref w_ACK_5)] [(.ref w_ACK_5)])) _
          refine XS.aloadN X34.here hx rfl (hb hby at_30) rfl rfl ?_
          show Steps p.tables e below (T34.setTop (mkF m 31 #[.val (.int p0), .val (.int p1), .val (.int (2 : Int32)), .val (.ref w_ACK_5), .val (.ref w_ACK_5)] [(.ref w_ACK_5), (.ref w_ACK_5)])) _
          refine Jvm.RoadKit.acmp (g := (mkF m 31 #[.val (.int p0), .val (.int p1), .val (.int (2 : Int32)), .val (.ref w_ACK_5), .val (.ref w_ACK_5)] [(.ref w_ACK_5), (.ref w_ACK_5)])) X34 hx rfl rfl rfl (pc0 := 31) (pc' := 36) (same := true) rfl (hb hby at_31) rfl (decide_eq_true rfl) (by decide) (by decide) ?_
          show Steps p.tables e below (T34.setTop (mkF m 36 #[.val (.int p0), .val (.int p1), .val (.int (2 : Int32)), .val (.ref w_ACK_5), .val (.ref w_ACK_5)] [])) _
          refine XS.aloadN X34.here hx rfl (hb hby at_36) rfl rfl ?_
          show Steps p.tables e below (T34.setTop (mkF m 37 #[.val (.int p0), .val (.int p1), .val (.int (2 : Int32)), .val (.ref w_ACK_5), .val (.ref w_ACK_5)] [(.ref w_ACK_5)])) _
          refine XS.ifnullNo X34.here hx rfl (hb hby at_37) rfl ?_
          show Steps p.tables e below (T34.setTop (mkF m 40 #[.val (.int p0), .val (.int p1), .val (.int (2 : Int32)), .val (.ref w_ACK_5), .val (.ref w_ACK_5)] [])) _
          refine XS.aloadN X34.here hx rfl (hb hby at_40) rfl rfl ?_
          show Steps p.tables e below (T34.setTop (mkF m 41 #[.val (.int p0), .val (.int p1), .val (.int (2 : Int32)), .val (.ref w_ACK_5), .val (.ref w_ACK_5)] [(.ref w_ACK_5)])) _
          refine st56.trans ?_
          show Steps p.tables e below (T56.setTop (mkF m 44 #[.val (.int p0), .val (.int p1), .val (.int (2 : Int32)), .val (.ref w_ACK_5), .val (.ref w_ACK_5)] [(.int (2 : Int32))])) _
          refine XS.iloadN X56.here hx rfl (hb hby at_44) rfl ?_
          show Steps p.tables e below (T56.setTop (mkF m 45 #[.val (.int p0), .val (.int p1), .val (.int (2 : Int32)), .val (.ref w_ACK_5), .val (.ref w_ACK_5)] [(.int (2 : Int32)), (.int (2 : Int32))])) _
          refine XS.icmpYes X56.here hx rfl (pc0 := 45) (pc' := 50) rfl (hb hby at_45) rfl (teq (rfl : (2 : Int32) = (2 : Int32))).1 (by decide) (by decide) ?_
          show Steps p.tables e below (T56.setTop (mkF m 50 #[.val (.int p0), .val (.int p1), .val (.int (2 : Int32)), .val (.ref w_ACK_5), .val (.ref w_ACK_5)] [])) _
          refine XS.iconst X56.here hx rfl (hb hby at_50) ?_
          exact kt)
      obtain ⟨fs, hr, hrun, hended, hW, hsame⟩ := X56.leave (v := some (.int (1 : Int32))) (fun h => by rw [Bd.returns] at h; cases h)
      refine ⟨_, _, pre57 _ ?_, hrun, hended, _, _, rfl, ?_, ⟨_, rfl⟩, hW, hsame.mono (by decide) (by decide)⟩
      · show Steps p.tables e below (T56.setTop (mkF m 51 #[.val (.int p0), .val (.int p1), .val (.int (2 : Int32)), .val (.ref w_ACK_5), .val (.ref w_ACK_5)] [(.int (1 : Int32))])) _
        exact retN X56 hx (t := .boolean) Bd.returns (by simp) (hb hby at_51) hr
      · show Q0 Z _ _ _ _ _ _ _ _ _ h0 n0 _ T56.heap _
        rw [e56]
        exact ⟨rfl, N56, trivial⟩
    · skip
      obtain ⟨_, _, ⟨T58, L58, k58, n58⟩, -, X58, ⟨Lc58, hQ58, l58, y58, z58⟩, st58⟩ := Jvm.LawKit.callS X7 hx (y := (⟨"com/example/token_handoff/tokenhandoff/Kind", "ofCode", "(I)Lcom/example/token_handoff/tokenhandoff/Kind;"⟩ : MethodName)) hown (mvT hZ (hw _ (List.mem_of_getElem? (i := 4) rfl))) (mvT hZ (hw _ (List.mem_of_getElem? (i := 5) rfl))) (mvT hZ (hw _ (List.mem_of_getElem? (i := 6) rfl))) (mvT hZ (hw _ (List.mem_of_getElem? (i := 7) rfl))) (by decide) (backOf (W := 0) (rm2 l Z aw hw [] (3 : Int32) kA u__VALUES_1 w_MOVE_3 w_ACK_5 w_COMMIT_7 w_EARLY_STOP_9 w_DISCARD_11 h0 n0 Z0 AvV E_1 F_code_12 F_code_13 F_code_14 F_code_15 F_code_16 S__VALUES_0) hZ (hw _ (List.mem_of_getElem? (i := 7) rfl)) (hw _ (List.mem_of_getElem? (i := 6) rfl)) (by decide) (by decide)) (g := (mkF m 23 #[.val (.int p0), .val (.int p1), .val (.int (3 : Int32)), .val (.ref w_COMMIT_7), .unset] [(.int (3 : Int32))])) rfl (by rw [hml]; rfl) (argsL := [(.int (3 : Int32))]) (rest := []) (lenOf pd_1 rfl) rfl (by show 2 * 0 + _ ≤ _; exact Nat.le_of_eq rfl) (hb hby at_23) (fun _ _ => ⟨rfl, e7, (by decide : 0 + 1 ≤ _), (by decide : 0 + 5 ≤ _)⟩)
      dsimp only [Pt.U, Pt.locs, Pt.cells, Pt.slots] at X58 l58 y58 z58 st58 hQ58
      subst l58 y58 z58
      obtain ⟨⟨r59, rfl, Pr59⟩, Nq58, c58_0⟩ := hQ58
      have N58 := Fr.app N7 Nq58
      have f60 := (own_sta_keep S__VALUES_0 c58_0 all0)
      have f61 := (E_1.keep c58_0)
      have f62 := (own_sta_keep S_MOVE_2 c58_0 all0)
      have f63 := (E_3.keep c58_0)
      have f64 := (own_sta_keep S_ACK_4 c58_0 all0)
      have f65 := (E_5.keep c58_0)
      have f66 := (own_sta_keep S_COMMIT_6 c58_0 all0)
      have f67 := (E_7.keep c58_0)
      have f68 := (own_sta_keep S_EARLY_STOP_8 c58_0 all0)
      have f69 := (E_9.keep c58_0)
      have f70 := (own_sta_keep S_DISCARD_10 c58_0 all0)
      have f71 := (E_11.keep c58_0)
      have f72 := (F_code_12.keep c58_0 nin0)
      have f73 := (F_code_13.keep c58_0 nin0)
      have f74 := (F_code_14.keep c58_0 nin0)
      have f75 := (F_code_15.keep c58_0 nin0)
      have f76 := (F_code_16.keep c58_0 nin0)
      have f77 := (AvV.keep c58_0 nin0)
      have K78 : Keep h0 T58.heap [] := Keep.trans (Keep.refl h0 []) c58_0 all0
      have pre79 : ∀ t, Steps p.tables e below (T58.setTop (mkF m 26 #[.val (.int p0), .val (.int p1), .val (.int (3 : Int32)), .val (.ref w_COMMIT_7), .unset] [r59])) t → Steps p.tables e below (s₁.setTop (entryFrame m #[(.int p0), (.int p1)] maxLocals)) t := fun t kt => pre9 t (by
          show Steps p.tables e below (T7.setTop (mkF m 21 #[.val (.int p0), .val (.int p1), .val (.int (3 : Int32)), .unset, .unset] [(.ref w_COMMIT_7)])) _
          refine XS.astoreN X7.here hx rfl (hb hby at_21) rfl rfl (l' := #[.val (.int p0), .val (.int p1), .val (.int (3 : Int32)), .val (.ref w_COMMIT_7), .unset]) rfl ?_
          show Steps p.tables e below (T7.setTop (mkF m 22 #[.val (.int p0), .val (.int p1), .val (.int (3 : Int32)), .val (.ref w_COMMIT_7), .unset] [])) _
          refine XS.iloadN X7.here hx rfl (hb hby at_22) rfl ?_
          show Steps p.tables e below (T7.setTop (mkF m 23 #[.val (.int p0), .val (.int p1), .val (.int (3 : Int32)), .val (.ref w_COMMIT_7), .unset] [(.int (3 : Int32))])) _
          refine st58 _ ?_
          exact kt)
      obtain rfl : (Value.ref w_COMMIT_7) = r59 := Pr59.2.2.1 rfl
      obtain ⟨cq80, kq80, q80a, q80b, q80c⟩ := isOf hZ rfl f67
      obtain ⟨_, _, ⟨T80, L80, k80, n80⟩, -, X80, ⟨Lc80, hQ80, l80, y80, z80⟩, st80⟩ := X58.virtualBack hx (y := (⟨"com/example/token_handoff/tokenhandoff/Kind", "code", "()I"⟩ : MethodName)) (z := (⟨"com/example/token_handoff/tokenhandoff/Kind", "code", "()I"⟩ : MethodName)) hown (mvT hZ (hw _ (List.mem_of_getElem? (i := 31) rfl))) (mvT hZ (hw _ (List.mem_of_getElem? (i := 32) rfl))) (notFace_of_selects (args := #[]) (mvT hZ (hw _ (List.mem_of_getElem? (i := 34) rfl)))) (mvT hZ (hw _ (List.mem_of_getElem? (i := 34) rfl))) (mvT hZ (hw _ (List.mem_of_getElem? (i := 33) rfl))) (by decide) (backOf (W := 0) (rm4 l Z aw hw [] w_COMMIT_7 (3 : Int32) T58.heap n0 (Nat.le_trans Z0 c58_0.1) f74) hZ (hw _ (List.mem_of_getElem? (i := 35) rfl)) (hw _ (List.mem_of_getElem? (i := 6) rfl)) (by decide) (by decide)) q80a q80c (g := (mkF m 41 #[.val (.int p0), .val (.int p1), .val (.int (3 : Int32)), .val (.ref w_COMMIT_7), .val (.ref w_COMMIT_7)] [(.ref w_COMMIT_7)])) rfl (by rw [hml]; rfl) (Steps.refl _) (argsL := []) (rest := []) (lenOf pd_2 rfl) rfl (by show 2 * 0 + _ ≤ _; exact Nat.le_of_eq rfl) (hb hby at_41) (fun _ _ => ⟨rfl, rfl, (by decide : 1 + 0 ≤ _), (by decide : 5 + 0 ≤ _)⟩)
      dsimp only [Pt.U, Pt.locs, Pt.cells, Pt.slots] at X80 l80 y80 z80 st80 hQ80
      subst l80 y80 z80
      obtain ⟨rfl, Nq80, e80⟩ := hQ80
      have N80 := Fr.app N58 Nq80
      have pre81 : ∀ t, Steps p.tables e below (T80.setTop (mkF m 51 #[.val (.int p0), .val (.int p1), .val (.int (3 : Int32)), .val (.ref w_COMMIT_7), .val (.ref w_COMMIT_7)] [(.int (1 : Int32))])) t → Steps p.tables e below (s₁.setTop (entryFrame m #[(.int p0), (.int p1)] maxLocals)) t := fun t kt => pre79 t (by
          show Steps p.tables e below (T58.setTop (mkF m 26 #[.val (.int p0), .val (.int p1), .val (.int (3 : Int32)), .val (.ref w_COMMIT_7), .unset] [(.ref w_COMMIT_7)])) _
          refine XS.astore X58.here hx rfl (hb hby at_26) rfl rfl (l' := #[.val (.int p0), .val (.int p1), .val (.int (3 : Int32)), .val (.ref w_COMMIT_7), .val (.ref w_COMMIT_7)]) rfl ?_
          show Steps p.tables e below (T58.setTop (mkF m 28 #[.val (.int p0), .val (.int p1), .val (.int (3 : Int32)), .val (.ref w_COMMIT_7), .val (.ref w_COMMIT_7)] [])) _
          refine XS.aload X58.here hx rfl (hb hby at_28) rfl rfl ?_
          show Steps p.tables e below (T58.setTop (mkF m 30 #[.val (.int p0), .val (.int p1), .val (.int (3 : Int32)), .val (.ref w_COMMIT_7), .val (.ref w_COMMIT_7)] [(.ref w_COMMIT_7)])) _
          refine XS.aloadN X58.here hx rfl (hb hby at_30) rfl rfl ?_
          show Steps p.tables e below (T58.setTop (mkF m 31 #[.val (.int p0), .val (.int p1), .val (.int (3 : Int32)), .val (.ref w_COMMIT_7), .val (.ref w_COMMIT_7)] [(.ref w_COMMIT_7), (.ref w_COMMIT_7)])) _
          refine Jvm.RoadKit.acmp (g := (mkF m 31 #[.val (.int p0), .val (.int p1), .val (.int (3 : Int32)), .val (.ref w_COMMIT_7), .val (.ref w_COMMIT_7)] [(.ref w_COMMIT_7), (.ref w_COMMIT_7)])) X58 hx rfl rfl rfl (pc0 := 31) (pc' := 36) (same := true) rfl (hb hby at_31) rfl (decide_eq_true rfl) (by decide) (by decide) ?_
          show Steps p.tables e below (T58.setTop (mkF m 36 #[.val (.int p0), .val (.int p1), .val (.int (3 : Int32)), .val (.ref w_COMMIT_7), .val (.ref w_COMMIT_7)] [])) _
          refine XS.aloadN X58.here hx rfl (hb hby at_36) rfl rfl ?_
          show Steps p.tables e below (T58.setTop (mkF m 37 #[.val (.int p0), .val (.int p1), .val (.int (3 : Int32)), .val (.ref w_COMMIT_7), .val (.ref w_COMMIT_7)] [(.ref w_COMMIT_7)])) _
          refine XS.ifnullNo X58.here hx rfl (hb hby at_37) rfl ?_
          show Steps p.tables e below (T58.setTop (mkF m 40 #[.val (.int p0), .val (.int p1), .val (.int (3 : Int32)), .val (.ref w_COMMIT_7), .val (.ref w_COMMIT_7)] [])) _
          refine XS.aloadN X58.here hx rfl (hb hby at_40) rfl rfl ?_
          show Steps p.tables e below (T58.setTop (mkF m 41 #[.val (.int p0), .val (.int p1), .val (.int (3 : Int32)), .val (.ref w_COMMIT_7), .val (.ref w_COMMIT_7)] [(.ref w_COMMIT_7)])) _
          refine st80.trans ?_
          show Steps p.tables e below (T80.setTop (mkF m 44 #[.val (.int p0), .val (.int p1), .val (.int (3 : Int32)), .val (.ref w_COMMIT_7), .val (.ref w_COMMIT_7)] [(.int (3 : Int32))])) _
          refine XS.iloadN X80.here hx rfl (hb hby at_44) rfl ?_
          show Steps p.tables e below (T80.setTop (mkF m 45 #[.val (.int p0), .val (.int p1), .val (.int (3 : Int32)), .val (.ref w_COMMIT_7), .val (.ref w_COMMIT_7)] [(.int (3 : Int32)), (.int (3 : Int32))])) _
          refine XS.icmpYes X80.here hx rfl (pc0 := 45) (pc' := 50) rfl (hb hby at_45) rfl (teq (rfl : (3 : Int32) = (3 : Int32))).1 (by decide) (by decide) ?_
          show Steps p.tables e below (T80.setTop (mkF m 50 #[.val (.int p0), .val (.int p1), .val (.int (3 : Int32)), .val (.ref w_COMMIT_7), .val (.ref w_COMMIT_7)] [])) _
          refine XS.iconst X80.here hx rfl (hb hby at_50) ?_
          exact kt)
      obtain ⟨fs, hr, hrun, hended, hW, hsame⟩ := X80.leave (v := some (.int (1 : Int32))) (fun h => by rw [Bd.returns] at h; cases h)
      refine ⟨_, _, pre81 _ ?_, hrun, hended, _, _, rfl, ?_, ⟨_, rfl⟩, hW, hsame.mono (by decide) (by decide)⟩
      · show Steps p.tables e below (T80.setTop (mkF m 51 #[.val (.int p0), .val (.int p1), .val (.int (3 : Int32)), .val (.ref w_COMMIT_7), .val (.ref w_COMMIT_7)] [(.int (1 : Int32))])) _
        exact retN X80 hx (t := .boolean) Bd.returns (by simp) (hb hby at_51) hr
      · show Q0 Z _ _ _ _ _ _ _ _ _ h0 n0 _ T80.heap _
        rw [e80]
        exact ⟨rfl, N80, trivial⟩
    · skip
      obtain ⟨_, _, ⟨T82, L82, k82, n82⟩, -, X82, ⟨Lc82, hQ82, l82, y82, z82⟩, st82⟩ := Jvm.LawKit.callS X7 hx (y := (⟨"com/example/token_handoff/tokenhandoff/Kind", "ofCode", "(I)Lcom/example/token_handoff/tokenhandoff/Kind;"⟩ : MethodName)) hown (mvT hZ (hw _ (List.mem_of_getElem? (i := 4) rfl))) (mvT hZ (hw _ (List.mem_of_getElem? (i := 5) rfl))) (mvT hZ (hw _ (List.mem_of_getElem? (i := 6) rfl))) (mvT hZ (hw _ (List.mem_of_getElem? (i := 7) rfl))) (by decide) (backOf (W := 0) (rm2 l Z aw hw [] (4 : Int32) kA u__VALUES_1 w_MOVE_3 w_ACK_5 w_COMMIT_7 w_EARLY_STOP_9 w_DISCARD_11 h0 n0 Z0 AvV E_1 F_code_12 F_code_13 F_code_14 F_code_15 F_code_16 S__VALUES_0) hZ (hw _ (List.mem_of_getElem? (i := 7) rfl)) (hw _ (List.mem_of_getElem? (i := 6) rfl)) (by decide) (by decide)) (g := (mkF m 23 #[.val (.int p0), .val (.int p1), .val (.int (4 : Int32)), .val (.ref w_EARLY_STOP_9), .unset] [(.int (4 : Int32))])) rfl (by rw [hml]; rfl) (argsL := [(.int (4 : Int32))]) (rest := []) (lenOf pd_1 rfl) rfl (by show 2 * 0 + _ ≤ _; exact Nat.le_of_eq rfl) (hb hby at_23) (fun _ _ => ⟨rfl, e7, (by decide : 0 + 1 ≤ _), (by decide : 0 + 5 ≤ _)⟩)
      dsimp only [Pt.U, Pt.locs, Pt.cells, Pt.slots] at X82 l82 y82 z82 st82 hQ82
      subst l82 y82 z82
      obtain ⟨⟨r83, rfl, Pr83⟩, Nq82, c82_0⟩ := hQ82
      have N82 := Fr.app N7 Nq82
      have f84 := (own_sta_keep S__VALUES_0 c82_0 all0)
      have f85 := (E_1.keep c82_0)
      have f86 := (own_sta_keep S_MOVE_2 c82_0 all0)
      have f87 := (E_3.keep c82_0)
      have f88 := (own_sta_keep S_ACK_4 c82_0 all0)
      have f89 := (E_5.keep c82_0)
      have f90 := (own_sta_keep S_COMMIT_6 c82_0 all0)
      have f91 := (E_7.keep c82_0)
      have f92 := (own_sta_keep S_EARLY_STOP_8 c82_0 all0)
      have f93 := (E_9.keep c82_0)
      have f94 := (own_sta_keep S_DISCARD_10 c82_0 all0)
      have f95 := (E_11.keep c82_0)
      have f96 := (F_code_12.keep c82_0 nin0)
      have f97 := (F_code_13.keep c82_0 nin0)
      have f98 := (F_code_14.keep c82_0 nin0)
      have f99 := (F_code_15.keep c82_0 nin0)
      have f100 := (F_code_16.keep c82_0 nin0)
      have f101 := (AvV.keep c82_0 nin0)
      have K102 : Keep h0 T82.heap [] := Keep.trans (Keep.refl h0 []) c82_0 all0
      have pre103 : ∀ t, Steps p.tables e below (T82.setTop (mkF m 26 #[.val (.int p0), .val (.int p1), .val (.int (4 : Int32)), .val (.ref w_EARLY_STOP_9), .unset] [r83])) t → Steps p.tables e below (s₁.setTop (entryFrame m #[(.int p0), (.int p1)] maxLocals)) t := fun t kt => pre9 t (by
          show Steps p.tables e below (T7.setTop (mkF m 21 #[.val (.int p0), .val (.int p1), .val (.int (4 : Int32)), .unset, .unset] [(.ref w_EARLY_STOP_9)])) _
          refine XS.astoreN X7.here hx rfl (hb hby at_21) rfl rfl (l' := #[.val (.int p0), .val (.int p1), .val (.int (4 : Int32)), .val (.ref w_EARLY_STOP_9), .unset]) rfl ?_
          show Steps p.tables e below (T7.setTop (mkF m 22 #[.val (.int p0), .val (.int p1), .val (.int (4 : Int32)), .val (.ref w_EARLY_STOP_9), .unset] [])) _
          refine XS.iloadN X7.here hx rfl (hb hby at_22) rfl ?_
          show Steps p.tables e below (T7.setTop (mkF m 23 #[.val (.int p0), .val (.int p1), .val (.int (4 : Int32)), .val (.ref w_EARLY_STOP_9), .unset] [(.int (4 : Int32))])) _
          refine st82 _ ?_
          exact kt)
      obtain rfl : (Value.ref w_EARLY_STOP_9) = r83 := Pr83.2.2.2.1 rfl
      obtain ⟨cq104, kq104, q104a, q104b, q104c⟩ := isOf hZ rfl f93
      obtain ⟨_, _, ⟨T104, L104, k104, n104⟩, -, X104, ⟨Lc104, hQ104, l104, y104, z104⟩, st104⟩ := X82.virtualBack hx (y := (⟨"com/example/token_handoff/tokenhandoff/Kind", "code", "()I"⟩ : MethodName)) (z := (⟨"com/example/token_handoff/tokenhandoff/Kind", "code", "()I"⟩ : MethodName)) hown (mvT hZ (hw _ (List.mem_of_getElem? (i := 31) rfl))) (mvT hZ (hw _ (List.mem_of_getElem? (i := 32) rfl))) (notFace_of_selects (args := #[]) (mvT hZ (hw _ (List.mem_of_getElem? (i := 34) rfl)))) (mvT hZ (hw _ (List.mem_of_getElem? (i := 34) rfl))) (mvT hZ (hw _ (List.mem_of_getElem? (i := 33) rfl))) (by decide) (backOf (W := 0) (rm4 l Z aw hw [] w_EARLY_STOP_9 (4 : Int32) T82.heap n0 (Nat.le_trans Z0 c82_0.1) f99) hZ (hw _ (List.mem_of_getElem? (i := 35) rfl)) (hw _ (List.mem_of_getElem? (i := 6) rfl)) (by decide) (by decide)) q104a q104c (g := (mkF m 41 #[.val (.int p0), .val (.int p1), .val (.int (4 : Int32)), .val (.ref w_EARLY_STOP_9), .val (.ref w_EARLY_STOP_9)] [(.ref w_EARLY_STOP_9)])) rfl (by rw [hml]; rfl) (Steps.refl _) (argsL := []) (rest := []) (lenOf pd_2 rfl) rfl (by show 2 * 0 + _ ≤ _; exact Nat.le_of_eq rfl) (hb hby at_41) (fun _ _ => ⟨rfl, rfl, (by decide : 1 + 0 ≤ _), (by decide : 5 + 0 ≤ _)⟩)
      dsimp only [Pt.U, Pt.locs, Pt.cells, Pt.slots] at X104 l104 y104 z104 st104 hQ104
      subst l104 y104 z104
      obtain ⟨rfl, Nq104, e104⟩ := hQ104
      have N104 := Fr.app N82 Nq104
      have pre105 : ∀ t, Steps p.tables e below (T104.setTop (mkF m 51 #[.val (.int p0), .val (.int p1), .val (.int (4 : Int32)), .val (.ref w_EARLY_STOP_9), .val (.ref w_EARLY_STOP_9)] [(.int (1 : Int32))])) t → Steps p.tables e below (s₁.setTop (entryFrame m #[(.int p0), (.int p1)] maxLocals)) t := fun t kt => pre103 t (by
          show Steps p.tables e below (T82.setTop (mkF m 26 #[.val (.int p0), .val (.int p1), .val (.int (4 : Int32)), .val (.ref w_EARLY_STOP_9), .unset] [(.ref w_EARLY_STOP_9)])) _
          refine XS.astore X82.here hx rfl (hb hby at_26) rfl rfl (l' := #[.val (.int p0), .val (.int p1), .val (.int (4 : Int32)), .val (.ref w_EARLY_STOP_9), .val (.ref w_EARLY_STOP_9)]) rfl ?_
          show Steps p.tables e below (T82.setTop (mkF m 28 #[.val (.int p0), .val (.int p1), .val (.int (4 : Int32)), .val (.ref w_EARLY_STOP_9), .val (.ref w_EARLY_STOP_9)] [])) _
          refine XS.aload X82.here hx rfl (hb hby at_28) rfl rfl ?_
          show Steps p.tables e below (T82.setTop (mkF m 30 #[.val (.int p0), .val (.int p1), .val (.int (4 : Int32)), .val (.ref w_EARLY_STOP_9), .val (.ref w_EARLY_STOP_9)] [(.ref w_EARLY_STOP_9)])) _
          refine XS.aloadN X82.here hx rfl (hb hby at_30) rfl rfl ?_
          show Steps p.tables e below (T82.setTop (mkF m 31 #[.val (.int p0), .val (.int p1), .val (.int (4 : Int32)), .val (.ref w_EARLY_STOP_9), .val (.ref w_EARLY_STOP_9)] [(.ref w_EARLY_STOP_9), (.ref w_EARLY_STOP_9)])) _
          refine Jvm.RoadKit.acmp (g := (mkF m 31 #[.val (.int p0), .val (.int p1), .val (.int (4 : Int32)), .val (.ref w_EARLY_STOP_9), .val (.ref w_EARLY_STOP_9)] [(.ref w_EARLY_STOP_9), (.ref w_EARLY_STOP_9)])) X82 hx rfl rfl rfl (pc0 := 31) (pc' := 36) (same := true) rfl (hb hby at_31) rfl (decide_eq_true rfl) (by decide) (by decide) ?_
          show Steps p.tables e below (T82.setTop (mkF m 36 #[.val (.int p0), .val (.int p1), .val (.int (4 : Int32)), .val (.ref w_EARLY_STOP_9), .val (.ref w_EARLY_STOP_9)] [])) _
          refine XS.aloadN X82.here hx rfl (hb hby at_36) rfl rfl ?_
          show Steps p.tables e below (T82.setTop (mkF m 37 #[.val (.int p0), .val (.int p1), .val (.int (4 : Int32)), .val (.ref w_EARLY_STOP_9), .val (.ref w_EARLY_STOP_9)] [(.ref w_EARLY_STOP_9)])) _
          refine XS.ifnullNo X82.here hx rfl (hb hby at_37) rfl ?_
          show Steps p.tables e below (T82.setTop (mkF m 40 #[.val (.int p0), .val (.int p1), .val (.int (4 : Int32)), .val (.ref w_EARLY_STOP_9), .val (.ref w_EARLY_STOP_9)] [])) _
          refine XS.aloadN X82.here hx rfl (hb hby at_40) rfl rfl ?_
          show Steps p.tables e below (T82.setTop (mkF m 41 #[.val (.int p0), .val (.int p1), .val (.int (4 : Int32)), .val (.ref w_EARLY_STOP_9), .val (.ref w_EARLY_STOP_9)] [(.ref w_EARLY_STOP_9)])) _
          refine st104.trans ?_
          show Steps p.tables e below (T104.setTop (mkF m 44 #[.val (.int p0), .val (.int p1), .val (.int (4 : Int32)), .val (.ref w_EARLY_STOP_9), .val (.ref w_EARLY_STOP_9)] [(.int (4 : Int32))])) _
          refine XS.iloadN X104.here hx rfl (hb hby at_44) rfl ?_
          show Steps p.tables e below (T104.setTop (mkF m 45 #[.val (.int p0), .val (.int p1), .val (.int (4 : Int32)), .val (.ref w_EARLY_STOP_9), .val (.ref w_EARLY_STOP_9)] [(.int (4 : Int32)), (.int (4 : Int32))])) _
          refine XS.icmpYes X104.here hx rfl (pc0 := 45) (pc' := 50) rfl (hb hby at_45) rfl (teq (rfl : (4 : Int32) = (4 : Int32))).1 (by decide) (by decide) ?_
          show Steps p.tables e below (T104.setTop (mkF m 50 #[.val (.int p0), .val (.int p1), .val (.int (4 : Int32)), .val (.ref w_EARLY_STOP_9), .val (.ref w_EARLY_STOP_9)] [])) _
          refine XS.iconst X104.here hx rfl (hb hby at_50) ?_
          exact kt)
      obtain ⟨fs, hr, hrun, hended, hW, hsame⟩ := X104.leave (v := some (.int (1 : Int32))) (fun h => by rw [Bd.returns] at h; cases h)
      refine ⟨_, _, pre105 _ ?_, hrun, hended, _, _, rfl, ?_, ⟨_, rfl⟩, hW, hsame.mono (by decide) (by decide)⟩
      · show Steps p.tables e below (T104.setTop (mkF m 51 #[.val (.int p0), .val (.int p1), .val (.int (4 : Int32)), .val (.ref w_EARLY_STOP_9), .val (.ref w_EARLY_STOP_9)] [(.int (1 : Int32))])) _
        exact retN X104 hx (t := .boolean) Bd.returns (by simp) (hb hby at_51) hr
      · show Q0 Z _ _ _ _ _ _ _ _ _ h0 n0 _ T104.heap _
        rw [e104]
        exact ⟨rfl, N104, trivial⟩
    · skip
      obtain ⟨_, _, ⟨T106, L106, k106, n106⟩, -, X106, ⟨Lc106, hQ106, l106, y106, z106⟩, st106⟩ := Jvm.LawKit.callS X7 hx (y := (⟨"com/example/token_handoff/tokenhandoff/Kind", "ofCode", "(I)Lcom/example/token_handoff/tokenhandoff/Kind;"⟩ : MethodName)) hown (mvT hZ (hw _ (List.mem_of_getElem? (i := 4) rfl))) (mvT hZ (hw _ (List.mem_of_getElem? (i := 5) rfl))) (mvT hZ (hw _ (List.mem_of_getElem? (i := 6) rfl))) (mvT hZ (hw _ (List.mem_of_getElem? (i := 7) rfl))) (by decide) (backOf (W := 0) (rm2 l Z aw hw [] (5 : Int32) kA u__VALUES_1 w_MOVE_3 w_ACK_5 w_COMMIT_7 w_EARLY_STOP_9 w_DISCARD_11 h0 n0 Z0 AvV E_1 F_code_12 F_code_13 F_code_14 F_code_15 F_code_16 S__VALUES_0) hZ (hw _ (List.mem_of_getElem? (i := 7) rfl)) (hw _ (List.mem_of_getElem? (i := 6) rfl)) (by decide) (by decide)) (g := (mkF m 23 #[.val (.int p0), .val (.int p1), .val (.int (5 : Int32)), .val (.ref w_DISCARD_11), .unset] [(.int (5 : Int32))])) rfl (by rw [hml]; rfl) (argsL := [(.int (5 : Int32))]) (rest := []) (lenOf pd_1 rfl) rfl (by show 2 * 0 + _ ≤ _; exact Nat.le_of_eq rfl) (hb hby at_23) (fun _ _ => ⟨rfl, e7, (by decide : 0 + 1 ≤ _), (by decide : 0 + 5 ≤ _)⟩)
      dsimp only [Pt.U, Pt.locs, Pt.cells, Pt.slots] at X106 l106 y106 z106 st106 hQ106
      subst l106 y106 z106
      obtain ⟨⟨r107, rfl, Pr107⟩, Nq106, c106_0⟩ := hQ106
      have N106 := Fr.app N7 Nq106
      have f108 := (own_sta_keep S__VALUES_0 c106_0 all0)
      have f109 := (E_1.keep c106_0)
      have f110 := (own_sta_keep S_MOVE_2 c106_0 all0)
      have f111 := (E_3.keep c106_0)
      have f112 := (own_sta_keep S_ACK_4 c106_0 all0)
      have f113 := (E_5.keep c106_0)
      have f114 := (own_sta_keep S_COMMIT_6 c106_0 all0)
      have f115 := (E_7.keep c106_0)
      have f116 := (own_sta_keep S_EARLY_STOP_8 c106_0 all0)
      have f117 := (E_9.keep c106_0)
      have f118 := (own_sta_keep S_DISCARD_10 c106_0 all0)
      have f119 := (E_11.keep c106_0)
      have f120 := (F_code_12.keep c106_0 nin0)
      have f121 := (F_code_13.keep c106_0 nin0)
      have f122 := (F_code_14.keep c106_0 nin0)
      have f123 := (F_code_15.keep c106_0 nin0)
      have f124 := (F_code_16.keep c106_0 nin0)
      have f125 := (AvV.keep c106_0 nin0)
      have K126 : Keep h0 T106.heap [] := Keep.trans (Keep.refl h0 []) c106_0 all0
      have pre127 : ∀ t, Steps p.tables e below (T106.setTop (mkF m 26 #[.val (.int p0), .val (.int p1), .val (.int (5 : Int32)), .val (.ref w_DISCARD_11), .unset] [r107])) t → Steps p.tables e below (s₁.setTop (entryFrame m #[(.int p0), (.int p1)] maxLocals)) t := fun t kt => pre9 t (by
          show Steps p.tables e below (T7.setTop (mkF m 21 #[.val (.int p0), .val (.int p1), .val (.int (5 : Int32)), .unset, .unset] [(.ref w_DISCARD_11)])) _
          refine XS.astoreN X7.here hx rfl (hb hby at_21) rfl rfl (l' := #[.val (.int p0), .val (.int p1), .val (.int (5 : Int32)), .val (.ref w_DISCARD_11), .unset]) rfl ?_
          show Steps p.tables e below (T7.setTop (mkF m 22 #[.val (.int p0), .val (.int p1), .val (.int (5 : Int32)), .val (.ref w_DISCARD_11), .unset] [])) _
          refine XS.iloadN X7.here hx rfl (hb hby at_22) rfl ?_
          show Steps p.tables e below (T7.setTop (mkF m 23 #[.val (.int p0), .val (.int p1), .val (.int (5 : Int32)), .val (.ref w_DISCARD_11), .unset] [(.int (5 : Int32))])) _
          refine st106 _ ?_
          exact kt)
      obtain rfl : (Value.ref w_DISCARD_11) = r107 := Pr107.2.2.2.2.1 rfl
      obtain ⟨cq128, kq128, q128a, q128b, q128c⟩ := isOf hZ rfl f119
      obtain ⟨_, _, ⟨T128, L128, k128, n128⟩, -, X128, ⟨Lc128, hQ128, l128, y128, z128⟩, st128⟩ := X106.virtualBack hx (y := (⟨"com/example/token_handoff/tokenhandoff/Kind", "code", "()I"⟩ : MethodName)) (z := (⟨"com/example/token_handoff/tokenhandoff/Kind", "code", "()I"⟩ : MethodName)) hown (mvT hZ (hw _ (List.mem_of_getElem? (i := 31) rfl))) (mvT hZ (hw _ (List.mem_of_getElem? (i := 32) rfl))) (notFace_of_selects (args := #[]) (mvT hZ (hw _ (List.mem_of_getElem? (i := 34) rfl)))) (mvT hZ (hw _ (List.mem_of_getElem? (i := 34) rfl))) (mvT hZ (hw _ (List.mem_of_getElem? (i := 33) rfl))) (by decide) (backOf (W := 0) (rm4 l Z aw hw [] w_DISCARD_11 (5 : Int32) T106.heap n0 (Nat.le_trans Z0 c106_0.1) f124) hZ (hw _ (List.mem_of_getElem? (i := 35) rfl)) (hw _ (List.mem_of_getElem? (i := 6) rfl)) (by decide) (by decide)) q128a q128c (g := (mkF m 41 #[.val (.int p0), .val (.int p1), .val (.int (5 : Int32)), .val (.ref w_DISCARD_11), .val (.ref w_DISCARD_11)] [(.ref w_DISCARD_11)])) rfl (by rw [hml]; rfl) (Steps.refl _) (argsL := []) (rest := []) (lenOf pd_2 rfl) rfl (by show 2 * 0 + _ ≤ _; exact Nat.le_of_eq rfl) (hb hby at_41) (fun _ _ => ⟨rfl, rfl, (by decide : 1 + 0 ≤ _), (by decide : 5 + 0 ≤ _)⟩)
      dsimp only [Pt.U, Pt.locs, Pt.cells, Pt.slots] at X128 l128 y128 z128 st128 hQ128
      subst l128 y128 z128
      obtain ⟨rfl, Nq128, e128⟩ := hQ128
      have N128 := Fr.app N106 Nq128
      have pre129 : ∀ t, Steps p.tables e below (T128.setTop (mkF m 51 #[.val (.int p0), .val (.int p1), .val (.int (5 : Int32)), .val (.ref w_DISCARD_11), .val (.ref w_DISCARD_11)] [(.int (1 : Int32))])) t → Steps p.tables e below (s₁.setTop (entryFrame m #[(.int p0), (.int p1)] maxLocals)) t := fun t kt => pre127 t (by
          show Steps p.tables e below (T106.setTop (mkF m 26 #[.val (.int p0), .val (.int p1), .val (.int (5 : Int32)), .val (.ref w_DISCARD_11), .unset] [(.ref w_DISCARD_11)])) _
          refine XS.astore X106.here hx rfl (hb hby at_26) rfl rfl (l' := #[.val (.int p0), .val (.int p1), .val (.int (5 : Int32)), .val (.ref w_DISCARD_11), .val (.ref w_DISCARD_11)]) rfl ?_
          show Steps p.tables e below (T106.setTop (mkF m 28 #[.val (.int p0), .val (.int p1), .val (.int (5 : Int32)), .val (.ref w_DISCARD_11), .val (.ref w_DISCARD_11)] [])) _
          refine XS.aload X106.here hx rfl (hb hby at_28) rfl rfl ?_
          show Steps p.tables e below (T106.setTop (mkF m 30 #[.val (.int p0), .val (.int p1), .val (.int (5 : Int32)), .val (.ref w_DISCARD_11), .val (.ref w_DISCARD_11)] [(.ref w_DISCARD_11)])) _
          refine XS.aloadN X106.here hx rfl (hb hby at_30) rfl rfl ?_
          show Steps p.tables e below (T106.setTop (mkF m 31 #[.val (.int p0), .val (.int p1), .val (.int (5 : Int32)), .val (.ref w_DISCARD_11), .val (.ref w_DISCARD_11)] [(.ref w_DISCARD_11), (.ref w_DISCARD_11)])) _
          refine Jvm.RoadKit.acmp (g := (mkF m 31 #[.val (.int p0), .val (.int p1), .val (.int (5 : Int32)), .val (.ref w_DISCARD_11), .val (.ref w_DISCARD_11)] [(.ref w_DISCARD_11), (.ref w_DISCARD_11)])) X106 hx rfl rfl rfl (pc0 := 31) (pc' := 36) (same := true) rfl (hb hby at_31) rfl (decide_eq_true rfl) (by decide) (by decide) ?_
          show Steps p.tables e below (T106.setTop (mkF m 36 #[.val (.int p0), .val (.int p1), .val (.int (5 : Int32)), .val (.ref w_DISCARD_11), .val (.ref w_DISCARD_11)] [])) _
          refine XS.aloadN X106.here hx rfl (hb hby at_36) rfl rfl ?_
          show Steps p.tables e below (T106.setTop (mkF m 37 #[.val (.int p0), .val (.int p1), .val (.int (5 : Int32)), .val (.ref w_DISCARD_11), .val (.ref w_DISCARD_11)] [(.ref w_DISCARD_11)])) _
          refine XS.ifnullNo X106.here hx rfl (hb hby at_37) rfl ?_
          show Steps p.tables e below (T106.setTop (mkF m 40 #[.val (.int p0), .val (.int p1), .val (.int (5 : Int32)), .val (.ref w_DISCARD_11), .val (.ref w_DISCARD_11)] [])) _
          refine XS.aloadN X106.here hx rfl (hb hby at_40) rfl rfl ?_
          show Steps p.tables e below (T106.setTop (mkF m 41 #[.val (.int p0), .val (.int p1), .val (.int (5 : Int32)), .val (.ref w_DISCARD_11), .val (.ref w_DISCARD_11)] [(.ref w_DISCARD_11)])) _
          refine st128.trans ?_
          show Steps p.tables e below (T128.setTop (mkF m 44 #[.val (.int p0), .val (.int p1), .val (.int (5 : Int32)), .val (.ref w_DISCARD_11), .val (.ref w_DISCARD_11)] [(.int (5 : Int32))])) _
          refine XS.iloadN X128.here hx rfl (hb hby at_44) rfl ?_
          show Steps p.tables e below (T128.setTop (mkF m 45 #[.val (.int p0), .val (.int p1), .val (.int (5 : Int32)), .val (.ref w_DISCARD_11), .val (.ref w_DISCARD_11)] [(.int (5 : Int32)), (.int (5 : Int32))])) _
          refine XS.icmpYes X128.here hx rfl (pc0 := 45) (pc' := 50) rfl (hb hby at_45) rfl (teq (rfl : (5 : Int32) = (5 : Int32))).1 (by decide) (by decide) ?_
          show Steps p.tables e below (T128.setTop (mkF m 50 #[.val (.int p0), .val (.int p1), .val (.int (5 : Int32)), .val (.ref w_DISCARD_11), .val (.ref w_DISCARD_11)] [])) _
          refine XS.iconst X128.here hx rfl (hb hby at_50) ?_
          exact kt)
      obtain ⟨fs, hr, hrun, hended, hW, hsame⟩ := X128.leave (v := some (.int (1 : Int32))) (fun h => by rw [Bd.returns] at h; cases h)
      refine ⟨_, _, pre129 _ ?_, hrun, hended, _, _, rfl, ?_, ⟨_, rfl⟩, hW, hsame.mono (by decide) (by decide)⟩
      · show Steps p.tables e below (T128.setTop (mkF m 51 #[.val (.int p0), .val (.int p1), .val (.int (5 : Int32)), .val (.ref w_DISCARD_11), .val (.ref w_DISCARD_11)] [(.int (1 : Int32))])) _
        exact retN X128 hx (t := .boolean) Bd.returns (by simp) (hb hby at_51) hr
      · show Q0 Z _ _ _ _ _ _ _ _ _ h0 n0 _ T128.heap _
        rw [e128]
        exact ⟨rfl, N128, trivial⟩
    · skip
      obtain ⟨_, _, ⟨T130, L130, k130, n130⟩, -, X130, ⟨Lc130, hQ130, l130, y130, z130⟩, st130⟩ := Jvm.LawKit.callS X7 hx (y := (⟨"com/example/token_handoff/tokenhandoff/Kind", "ofCode", "(I)Lcom/example/token_handoff/tokenhandoff/Kind;"⟩ : MethodName)) hown (mvT hZ (hw _ (List.mem_of_getElem? (i := 4) rfl))) (mvT hZ (hw _ (List.mem_of_getElem? (i := 5) rfl))) (mvT hZ (hw _ (List.mem_of_getElem? (i := 6) rfl))) (mvT hZ (hw _ (List.mem_of_getElem? (i := 7) rfl))) (by decide) (backOf (W := 0) (rm2 l Z aw hw [] cc kA u__VALUES_1 w_MOVE_3 w_ACK_5 w_COMMIT_7 w_EARLY_STOP_9 w_DISCARD_11 h0 n0 Z0 AvV E_1 F_code_12 F_code_13 F_code_14 F_code_15 F_code_16 S__VALUES_0) hZ (hw _ (List.mem_of_getElem? (i := 7) rfl)) (hw _ (List.mem_of_getElem? (i := 6) rfl)) (by decide) (by decide)) (g := (mkF m 23 #[.val (.int p0), .val (.int p1), .val (.int cc), .val .null, .unset] [(.int cc)])) rfl (by rw [hml]; rfl) (argsL := [(.int cc)]) (rest := []) (lenOf pd_1 rfl) rfl (by show 2 * 0 + _ ≤ _; exact Nat.le_of_eq rfl) (hb hby at_23) (fun _ _ => ⟨rfl, e7, (by decide : 0 + 1 ≤ _), (by decide : 0 + 5 ≤ _)⟩)
      dsimp only [Pt.U, Pt.locs, Pt.cells, Pt.slots] at X130 l130 y130 z130 st130 hQ130
      subst l130 y130 z130
      obtain ⟨⟨r131, rfl, Pr131⟩, Nq130, c130_0⟩ := hQ130
      have N130 := Fr.app N7 Nq130
      have f132 := (own_sta_keep S__VALUES_0 c130_0 all0)
      have f133 := (E_1.keep c130_0)
      have f134 := (own_sta_keep S_MOVE_2 c130_0 all0)
      have f135 := (E_3.keep c130_0)
      have f136 := (own_sta_keep S_ACK_4 c130_0 all0)
      have f137 := (E_5.keep c130_0)
      have f138 := (own_sta_keep S_COMMIT_6 c130_0 all0)
      have f139 := (E_7.keep c130_0)
      have f140 := (own_sta_keep S_EARLY_STOP_8 c130_0 all0)
      have f141 := (E_9.keep c130_0)
      have f142 := (own_sta_keep S_DISCARD_10 c130_0 all0)
      have f143 := (E_11.keep c130_0)
      have f144 := (F_code_12.keep c130_0 nin0)
      have f145 := (F_code_13.keep c130_0 nin0)
      have f146 := (F_code_14.keep c130_0 nin0)
      have f147 := (F_code_15.keep c130_0 nin0)
      have f148 := (F_code_16.keep c130_0 nin0)
      have f149 := (AvV.keep c130_0 nin0)
      have K150 : Keep h0 T130.heap [] := Keep.trans (Keep.refl h0 []) c130_0 all0
      have pre151 : ∀ t, Steps p.tables e below (T130.setTop (mkF m 26 #[.val (.int p0), .val (.int p1), .val (.int cc), .val .null, .unset] [r131])) t → Steps p.tables e below (s₁.setTop (entryFrame m #[(.int p0), (.int p1)] maxLocals)) t := fun t kt => pre9 t (by
          show Steps p.tables e below (T7.setTop (mkF m 21 #[.val (.int p0), .val (.int p1), .val (.int cc), .unset, .unset] [.null])) _
          refine XS.astoreN X7.here hx rfl (hb hby at_21) rfl rfl (l' := #[.val (.int p0), .val (.int p1), .val (.int cc), .val .null, .unset]) rfl ?_
          show Steps p.tables e below (T7.setTop (mkF m 22 #[.val (.int p0), .val (.int p1), .val (.int cc), .val .null, .unset] [])) _
          refine XS.iloadN X7.here hx rfl (hb hby at_22) rfl ?_
          show Steps p.tables e below (T7.setTop (mkF m 23 #[.val (.int p0), .val (.int p1), .val (.int cc), .val .null, .unset] [(.int cc)])) _
          refine st130 _ ?_
          exact kt)
      obtain rfl : Value.null = r131 := Pr131.2.2.2.2.2 (Ne.symm n1) (Ne.symm n2) (Ne.symm n3) (Ne.symm n4) (Ne.symm n5)
      have pre152 : ∀ t, Steps p.tables e below (T130.setTop (mkF m 51 #[.val (.int p0), .val (.int p1), .val (.int cc), .val .null, .val .null] [(.int (1 : Int32))])) t → Steps p.tables e below (s₁.setTop (entryFrame m #[(.int p0), (.int p1)] maxLocals)) t := fun t kt => pre151 t (by
          show Steps p.tables e below (T130.setTop (mkF m 26 #[.val (.int p0), .val (.int p1), .val (.int cc), .val .null, .unset] [.null])) _
          refine XS.astore X130.here hx rfl (hb hby at_26) rfl rfl (l' := #[.val (.int p0), .val (.int p1), .val (.int cc), .val .null, .val .null]) rfl ?_
          show Steps p.tables e below (T130.setTop (mkF m 28 #[.val (.int p0), .val (.int p1), .val (.int cc), .val .null, .val .null] [])) _
          refine XS.aload X130.here hx rfl (hb hby at_28) rfl rfl ?_
          show Steps p.tables e below (T130.setTop (mkF m 30 #[.val (.int p0), .val (.int p1), .val (.int cc), .val .null, .val .null] [.null])) _
          refine XS.aloadN X130.here hx rfl (hb hby at_30) rfl rfl ?_
          show Steps p.tables e below (T130.setTop (mkF m 31 #[.val (.int p0), .val (.int p1), .val (.int cc), .val .null, .val .null] [.null, .null])) _
          refine Jvm.RoadKit.acmp (g := (mkF m 31 #[.val (.int p0), .val (.int p1), .val (.int cc), .val .null, .val .null] [.null, .null])) X130 hx rfl rfl rfl (pc0 := 31) (pc' := 36) (same := true) rfl (hb hby at_31) rfl (decide_eq_true rfl) (by decide) (by decide) ?_
          show Steps p.tables e below (T130.setTop (mkF m 36 #[.val (.int p0), .val (.int p1), .val (.int cc), .val .null, .val .null] [])) _
          refine XS.aloadN X130.here hx rfl (hb hby at_36) rfl rfl ?_
          show Steps p.tables e below (T130.setTop (mkF m 37 #[.val (.int p0), .val (.int p1), .val (.int cc), .val .null, .val .null] [.null])) _
          refine XS.ifnullYes X130.here hx rfl (pc0 := 37) (pc' := 50) rfl (hb hby at_37) rfl (by decide) (by decide) ?_
          show Steps p.tables e below (T130.setTop (mkF m 50 #[.val (.int p0), .val (.int p1), .val (.int cc), .val .null, .val .null] [])) _
          refine XS.iconst X130.here hx rfl (hb hby at_50) ?_
          exact kt)
      obtain ⟨fs, hr, hrun, hended, hW, hsame⟩ := X130.leave (v := some (.int (1 : Int32))) (fun h => by rw [Bd.returns] at h; cases h)
      refine ⟨_, _, pre152 _ ?_, hrun, hended, _, _, rfl, ?_, ⟨_, rfl⟩, hW, hsame.mono (by decide) (by decide)⟩
      · show Steps p.tables e below (T130.setTop (mkF m 51 #[.val (.int p0), .val (.int p1), .val (.int cc), .val .null, .val .null] [(.int (1 : Int32))])) _
        exact retN X130 hx (t := .boolean) Bd.returns (by simp) (hb hby at_51) hr
      · show Q0 Z _ _ _ _ _ _ _ _ _ h0 n0 _ T130.heap _
        exact ⟨rfl, N130, trivial⟩
set_option maxRecDepth 65536 in
set_option maxHeartbeats 40000000 in
theorem comes_1 {Post : Tables → Env → Array Value → State → Outcome → State → Prop} (hpost : ∀ tb e args s v u, (limb_1_1.after args s (.returned v) u = true ∧ limb_1_2.after args s (.returned v) u = true ∧ True) → FrameEnd s (.returned v) u (Jvm.fieldLocs frame_1_writes args s ++ Jvm.arrayLocs frame_1_arrays args s ++ Jvm.staticLocs frame_1_statics s) 16 128 → Post tb e args s (.returned v) u) :
    ArmFor flags0 classFile x code maxLocals ret World_1 tables_1 room_1 Calls_1 rest_1 Pre_1 Post := by
  intro l hfl _ _ p e ha hc hk s m args below hf hA hF happ hP
  obtain ⟨hcalls, hrest, hpre⟩ := hP
  obtain ⟨-, -, -, hnamed, -, -, -, hat⟩ := (Spec.applies_iff hf).mp happ
  obtain ⟨hg, hn⟩ := and_e (Cond.before_iff.mp (show (Jvm.Cond.and given_1 narrow_1).before args s = true from hpre))
  obtain ⟨hg0, hgr0⟩ := and_e hg
  obtain ⟨hg1, hgr1⟩ := and_e hgr0
  obtain ⟨w0, w1, rfl⟩ : ∃ w0 w1 : Value, args = #[w0, w1] := by
    have hs : args.size = 2 := by simpa [Cond.value, given_1] using hg0
    obtain ⟨L⟩ := args
    match L, hs with
    | [w0, w1], _ => exact ⟨w0, w1, rfl⟩
  have hw := fun d (hd : d ∈ tables_1) => atoms_spec (ws := Jvm.Cond.code x code maxLocals ret :: tables_1) hat d (List.mem_cons_of_mem _ hd)
  have hfit : Fit s := fun {y c} hc i hi => by
    obtain ⟨ha, rfl⟩ := Array.getElem?_eq_some_iff.mp hc
    have q := List.all_eq_true.mp ((Array.all_eq_true_iff_forall_mem.mp hF) _ (Array.getElem_mem ha)) i (List.mem_range.mpr hi)
    simpa [Array.getElem?_eq_getElem hi] using q
  obtain ⟨i0, ei0⟩ := is_v hg1
  obtain rfl : w0 = (.int i0) := Option.some.inj ei0
  obtain ⟨i1, ei1⟩ := is_v hgr1
  obtain rfl : w1 = (.int i1) := Option.some.inj ei1
  obtain ⟨hn0, hr0⟩ := and_e hn
  obtain ⟨hn1, hr1⟩ := and_e hr0
  obtain ⟨hn2, hr2⟩ := and_e hr1
  obtain ⟨hn3, hr3⟩ := and_e hr2
  obtain ⟨hn4, hr4⟩ := and_e hr3
  obtain ⟨hn5, hr5⟩ := and_e hr4
  obtain ⟨hn6, hr6⟩ := and_e hr5
  obtain ⟨hn7, hr7⟩ := and_e hr6
  obtain ⟨hn8, hr8⟩ := and_e hr7
  obtain ⟨hn9, hr9⟩ := and_e hr8
  obtain ⟨hn10, hr10⟩ := and_e hr9
  obtain ⟨hn11, hr11⟩ := and_e hr10
  obtain ⟨hn12, hr12⟩ := and_e hr11
  obtain ⟨hn13, hr13⟩ := and_e hr12
  obtain ⟨hn14, hr14⟩ := and_e hr13
  obtain ⟨hn15, hr15⟩ := and_e hr14
  obtain ⟨hn16, hr16⟩ := and_e hr15
  obtain ⟨u__VALUES_1, ev2⟩ := arr_v hn0
  have S__VALUES_0 : Sta s s.heap "com/example/token_handoff/tokenhandoff/Kind" "$VALUES" "[Lcom/example/token_handoff/tokenhandoff/Kind;" (.ref u__VALUES_1) := Sta.start ev2 (Or.inl (hw _ (List.mem_of_getElem? (i := 25) rfl)))
  have E_1 : Exa s s.heap u__VALUES_1 "[Lcom/example/token_handoff/tokenhandoff/Kind;" := Exa.start ev2 hn1
  obtain ⟨w_MOVE_3, ev4⟩ := exa_v hn3
  have S_MOVE_2 : Sta s s.heap "com/example/token_handoff/tokenhandoff/Kind" "MOVE" "Lcom/example/token_handoff/tokenhandoff/Kind;" (.ref w_MOVE_3) := Sta.start ev4 (Or.inr ⟨(hw _ (List.mem_of_getElem? (i := 6) rfl)), (hw _ (List.mem_of_getElem? (i := 20) rfl))⟩)
  have E_3 : Exa s s.heap w_MOVE_3 "com/example/token_handoff/tokenhandoff/Kind" := Exa.start ev4 hn3
  obtain ⟨w_ACK_5, ev6⟩ := exa_v hn5
  have S_ACK_4 : Sta s s.heap "com/example/token_handoff/tokenhandoff/Kind" "ACK" "Lcom/example/token_handoff/tokenhandoff/Kind;" (.ref w_ACK_5) := Sta.start ev6 (Or.inr ⟨(hw _ (List.mem_of_getElem? (i := 6) rfl)), (hw _ (List.mem_of_getElem? (i := 21) rfl))⟩)
  have E_5 : Exa s s.heap w_ACK_5 "com/example/token_handoff/tokenhandoff/Kind" := Exa.start ev6 hn5
  obtain ⟨w_COMMIT_7, ev8⟩ := exa_v hn7
  have S_COMMIT_6 : Sta s s.heap "com/example/token_handoff/tokenhandoff/Kind" "COMMIT" "Lcom/example/token_handoff/tokenhandoff/Kind;" (.ref w_COMMIT_7) := Sta.start ev8 (Or.inr ⟨(hw _ (List.mem_of_getElem? (i := 6) rfl)), (hw _ (List.mem_of_getElem? (i := 22) rfl))⟩)
  have E_7 : Exa s s.heap w_COMMIT_7 "com/example/token_handoff/tokenhandoff/Kind" := Exa.start ev8 hn7
  obtain ⟨w_EARLY_STOP_9, ev10⟩ := exa_v hn9
  have S_EARLY_STOP_8 : Sta s s.heap "com/example/token_handoff/tokenhandoff/Kind" "EARLY_STOP" "Lcom/example/token_handoff/tokenhandoff/Kind;" (.ref w_EARLY_STOP_9) := Sta.start ev10 (Or.inr ⟨(hw _ (List.mem_of_getElem? (i := 6) rfl)), (hw _ (List.mem_of_getElem? (i := 23) rfl))⟩)
  have E_9 : Exa s s.heap w_EARLY_STOP_9 "com/example/token_handoff/tokenhandoff/Kind" := Exa.start ev10 hn9
  obtain ⟨w_DISCARD_11, ev12⟩ := exa_v hn11
  have S_DISCARD_10 : Sta s s.heap "com/example/token_handoff/tokenhandoff/Kind" "DISCARD" "Lcom/example/token_handoff/tokenhandoff/Kind;" (.ref w_DISCARD_11) := Sta.start ev12 (Or.inr ⟨(hw _ (List.mem_of_getElem? (i := 6) rfl)), (hw _ (List.mem_of_getElem? (i := 24) rfl))⟩)
  have E_11 : Exa s s.heap w_DISCARD_11 "com/example/token_handoff/tokenhandoff/Kind" := Exa.start ev12 hn11
  have F_code_12 : Fld s s.heap w_MOVE_3 "com/example/token_handoff/tokenhandoff/Kind" "code" "I" (.int (1 : Int32)) := Fld.start ((fld_at ev4).symm.trans (own_eqI hn13))
  have F_code_13 : Fld s s.heap w_ACK_5 "com/example/token_handoff/tokenhandoff/Kind" "code" "I" (.int (2 : Int32)) := Fld.start ((fld_at ev6).symm.trans (own_eqI hn14))
  have F_code_14 : Fld s s.heap w_COMMIT_7 "com/example/token_handoff/tokenhandoff/Kind" "code" "I" (.int (3 : Int32)) := Fld.start ((fld_at ev8).symm.trans (own_eqI hn15))
  have F_code_15 : Fld s s.heap w_EARLY_STOP_9 "com/example/token_handoff/tokenhandoff/Kind" "code" "I" (.int (4 : Int32)) := Fld.start ((fld_at ev10).symm.trans (own_eqI hn16))
  have F_code_16 : Fld s s.heap w_DISCARD_11 "com/example/token_handoff/tokenhandoff/Kind" "code" "I" (.int (5 : Int32)) := Fld.start ((fld_at ev12).symm.trans (own_eqI hr16))
  obtain ⟨cV, AV⟩ := Arr.start ev2 hn0
  obtain ⟨q3V, q4V⟩ := own_len hn2 ev2 AV
  have el0 := (elem_in (own_eqR hn4 ev4) ev2 (Term.int_eval _) AV.1).2
  have el1 := (elem_in (own_eqR hn6 ev6) ev2 (Term.int_eval _) AV.1).2
  have el2 := (elem_in (own_eqR hn8 ev8) ev2 (Term.int_eval _) AV.1).2
  have el3 := (elem_in (own_eqR hn10 ev10) ev2 (Term.int_eval _) AV.1).2
  have el4 := (elem_in (own_eqR hn12 ev12) ev2 (Term.int_eval _) AV.1).2
  have AvV : Arv s s.heap u__VALUES_1 cV.cls (.object "com/example/token_handoff/tokenhandoff/Kind") (5 : Int32) [(.ref w_MOVE_3), (.ref w_ACK_5), (.ref w_COMMIT_7), (.ref w_EARLY_STOP_9), (.ref w_DISCARD_11)] .null := Arv.start hfit AV q3V q4V (by decide) rfl ⟨el0, el1, el2, el3, el4, trivial⟩
  obtain ⟨n, o, h1, h2, h3, _, L, rfl, ⟨rfl, N, -⟩, hq⟩ := rm0 l s _ hw tables_1 i0 i1 u__VALUES_1 w_MOVE_3 w_ACK_5 w_COMMIT_7 w_EARLY_STOP_9 w_DISCARD_11 cV.cls s.heap s.heap.size (Nat.le_refl _) S__VALUES_0 E_1 S_MOVE_2 E_3 S_ACK_4 E_5 S_COMMIT_6 E_7 S_EARLY_STOP_8 E_9 S_DISCARD_10 E_11 F_code_12 F_code_13 F_code_14 F_code_15 F_code_16 AvV p e ha hc hk s m _ below hf ((Spec.applies_iff_loose hf).mp happ).1 ⟨rfl, State.Warmed39.refl s, rfl⟩ trivial
  refine ⟨n, _, h1, h2, h3, hpost _ _ _ _ _ _ ⟨Cond.after_iff.mpr rfl, Cond.after_iff.mpr (eq_i res_at (Term.int_eval (1)) rfl), trivial⟩ ⟨hq.1, hq.2.1, (hq.2.2.sift fun y hy => Or.inr (N y hy)).mono (by decide) (by decide)⟩⟩
theorem main_1_1 : Claimed_1_1 := comes_1 fun _ _ _ _ _ _ h hF => ⟨h.1, hF⟩
theorem main_1_2 : Claimed_1_2 := comes_1 fun _ _ _ _ _ _ h hF => ⟨h.2.1, hF⟩
end Jvm.Pilot.@@N@@
namespace Jvm.Pilot.@@N@@
open Jvm Jvm.ClassFile Sem Op Lib Jvm.Free Jvm.Stand Jvm.Pilot.@@N@@.Jvm.D
/-! MADE BY PROGRAM (witnessworld.py) out of the Statement's table words and the real class files: 13 classes; the members and pool entries that the words name. The judged class is class 1, her method 1. -/
namespace start1
open Jvm.ClassFile
def u (s : String) : CpInfo := .utf8 (stringToUtf16 s)
/-- a pool by its gaps: so many unusable entries, then the entry; so many at the end -/
def gap : Nat → List CpInfo → List CpInfo
  | 0, r => r
  | n + 1, r => .unusable :: gap n r
def poolList (es : List (Nat × CpInfo)) (last : Nat) : List CpInfo := es.foldr (fun e r => gap e.1 (e.2 :: r)) (gap last [])
def pool (es : List (Nat × CpInfo)) (last : Nat) : Array CpInfo := ⟨poolList es last⟩
def fileOf (pool : Array CpInfo) (this : Nat) (attrs : Array Attribute := #[]) (ms : Array MethodInfo := #[]) (fl : Nat := 33) (sup : Nat := 0) (ifs : Array Nat := #[]) (fds : Array FieldInfo := #[]) : ClassFile where
  minorVersion := 0
  majorVersion := 65
  constantPool := pool
  accessFlags := fl
  thisClass := this
  superClass := sup
  interfaces := ifs
  fields := fds
  methods := ms
  attributes := attrs
def plain (name : String) (sup : Option ClassId) : Class where
  name := name
  kind := .ordinary
  loader := none
  accessFlags := 33
  super := sup
  interfaces := #[]
  cf := none
  fields := #[]
  methods := #[]
  instanceTypes := #[]
  staticTypes := #[]
  resolved := #[]
  callSites := []
  init := .initialized
  statics := none
  mirror := none

def pool0 : Array CpInfo := pool [(5, u "<init>"), (0, u "()V"), (1, .class_ 10), (1, u "java/lang/Object"), (85, u "clone"), (0, u "()Ljava/lang/Object;")] 26

def k0m0 : Method := { name := "<init>", desc := "()V", sig := { parameters := [], returnType := none }, accessFlags := 1, code := none }
def k0m1 : Method := { name := "clone", desc := "()Ljava/lang/Object;", sig := { parameters := [], returnType := some (.object "java/lang/Object") }, accessFlags := 260, code := none }
/-- java/lang/Object -/
def k0 : Class := { plain "java/lang/Object" none with
  accessFlags := 33
  interfaces := #[]
  cf := some (fileOf pool0 8 #[] #[{ accessFlags := 1, nameIndex := 5, descriptorIndex := 6, attributes := #[] }, { accessFlags := 260, nameIndex := 96, descriptorIndex := 97, attributes := #[] }] 33 0 #[] #[])
  fields := #[]
  methods := #[k0m0, k0m1]
  instanceTypes := #[]
  staticTypes := #[]
  resolved := Array.replicate 124 none
  statics := none }

def pool1 : Array CpInfo := pool [(2, .class_ 4), (1, u "java/lang/Object"), (0, u "<init>"), (0, u "()V"), (0, .methodref 8 9), (0, .class_ 10), (0, .nameAndType 11 12), (0, u "com/example/token_handoff/tokenhandoff/KindOfCodePinLaw"), (0, u "expectedKind"), (0, u "(I)Lcom/example/token_handoff/tokenhandoff/Kind;"), (0, .methodref 14 15), (0, .class_ 16), (0, .nameAndType 17 12), (0, u "com/example/token_handoff/tokenhandoff/Kind"), (0, u "ofCode"), (0, .methodref 14 19), (0, .nameAndType 20 21), (0, u "code"), (0, u "()I"), (0, .fieldref 14 23), (0, .nameAndType 24 25), (0, u "MOVE"), (0, u "Lcom/example/token_handoff/tokenhandoff/Kind;"), (0, .fieldref 14 27), (0, .nameAndType 28 25), (0, u "ACK"), (0, .fieldref 14 30), (0, .nameAndType 31 25), (0, u "COMMIT"), (0, .fieldref 14 33), (0, .nameAndType 34 25), (0, u "EARLY_STOP"), (0, .fieldref 14 36), (0, .nameAndType 37 25), (0, u "DISCARD"), (2, u "law"), (0, u "(II)Z")] 3

def k1m0 : Method := { name := "<init>", desc := "()V", sig := { parameters := [], returnType := none }, accessFlags := 1, code := none }
def k1c1 : Code := { maxStack := 2, maxLocals := 5, code := code, exceptionTable := #[], attributes := #[] }
def k1m1 : Method := { name := "law", desc := "(II)Z", sig := { parameters := [.int, .int], returnType := some .boolean }, accessFlags := 9, code := some k1c1 }
def k1c2 : Code := { maxStack := 2, maxLocals := 1, code := method_3_code, exceptionTable := #[], attributes := #[] }
def k1m2 : Method := { name := "expectedKind", desc := "(I)Lcom/example/token_handoff/tokenhandoff/Kind;", sig := { parameters := [.int], returnType := some (.object "com/example/token_handoff/tokenhandoff/Kind") }, accessFlags := 10, code := some k1c2 }
/-- com/example/token_handoff/tokenhandoff/KindOfCodePinLaw -/
def k1 : Class := { plain "com/example/token_handoff/tokenhandoff/KindOfCodePinLaw" (some 0) with
  accessFlags := 49
  interfaces := #[]
  cf := some (fileOf pool1 8 #[] #[{ accessFlags := 1, nameIndex := 5, descriptorIndex := 6, attributes := #[] }, { accessFlags := 9, nameIndex := 40, descriptorIndex := 41, attributes := #[] }, { accessFlags := 10, nameIndex := 11, descriptorIndex := 12, attributes := #[] }] 49 2 #[] #[])
  fields := #[]
  methods := #[k1m0, k1m1, k1m2]
  instanceTypes := #[]
  staticTypes := #[]
  resolved := Array.replicate 45 none
  statics := none }

def pool2 : Array CpInfo := pool [(1, .class_ 2), (0, u "java/lang/constant/Constable"), (0, .class_ 4), (0, u "java/lang/Object")] 6

/-- java/lang/constant/Constable -/
def k2 : Class := { plain "java/lang/constant/Constable" (some 0) with
  accessFlags := 1537
  interfaces := #[]
  cf := some (fileOf pool2 1 #[] #[] 1537 3 #[] #[])
  fields := #[]
  methods := #[]
  instanceTypes := #[]
  staticTypes := #[]
  resolved := Array.replicate 11 none
  statics := none }

def pool3 : Array CpInfo := pool [(1, .class_ 2), (0, u "java/lang/Comparable"), (0, .class_ 4), (0, u "java/lang/Object")] 7

/-- java/lang/Comparable -/
def k3 : Class := { plain "java/lang/Comparable" (some 0) with
  accessFlags := 1537
  interfaces := #[]
  cf := some (fileOf pool3 1 #[] #[] 1537 3 #[] #[])
  fields := #[]
  methods := #[]
  instanceTypes := #[]
  staticTypes := #[]
  resolved := Array.replicate 12 none
  statics := none }

def pool4 : Array CpInfo := pool [(1, .class_ 2), (0, u "java/io/Serializable"), (0, .class_ 4), (0, u "java/lang/Object")] 2

/-- java/io/Serializable -/
def k4 : Class := { plain "java/io/Serializable" (some 0) with
  accessFlags := 1537
  interfaces := #[]
  cf := some (fileOf pool4 1 #[] #[] 1537 3 #[] #[])
  fields := #[]
  methods := #[]
  instanceTypes := #[]
  staticTypes := #[]
  resolved := Array.replicate 7 none
  statics := none }

def pool5 : Array CpInfo := pool [(2, .class_ 4), (1, u "java/lang/Enum"), (0, u "name"), (0, u "Ljava/lang/String;"), (2, u "ordinal"), (0, u "I"), (1, .class_ 14), (1, u "java/lang/Object"), (4, u "hash"), (86, .class_ 108), (1, u "java/lang/Enum$EnumDesc"), (2, .class_ 112), (0, u "java/lang/constant/Constable"), (0, .class_ 114), (0, u "java/lang/Comparable"), (0, .class_ 116), (0, u "java/io/Serializable")] 87

/-- java/lang/Enum -/
def k5 : Class := { plain "java/lang/Enum" (some 0) with
  accessFlags := 1057
  interfaces := #[2, 3, 4]
  cf := some (fileOf pool5 2 #[.nestMembers #[106]] #[] 1057 12 #[111, 113, 115] #[{ accessFlags := 18, nameIndex := 5, descriptorIndex := 6, attributes := #[] }, { accessFlags := 18, nameIndex := 9, descriptorIndex := 10, attributes := #[] }, { accessFlags := 2, nameIndex := 19, descriptorIndex := 10, attributes := #[] }])
  fields := #[{ name := "name", type := (.object "java/lang/String"), accessFlags := 18, slot := 0, constantValue := 0 }, { name := "ordinal", type := .int, accessFlags := 18, slot := 1, constantValue := 0 }, { name := "hash", type := .int, accessFlags := 2, slot := 2, constantValue := 0 }]
  methods := #[]
  instanceTypes := #[(.object "java/lang/String"), .int, .int]
  staticTypes := #[]
  resolved := Array.replicate 204 none
  statics := none }

def pool6 : Array CpInfo := pool [(1, .class_ 2), (0, u "com/example/token_handoff/tokenhandoff/Kind"), (2, u "MOVE"), (0, u "Lcom/example/token_handoff/tokenhandoff/Kind;"), (2, u "ACK"), (2, u "COMMIT"), (2, u "EARLY_STOP"), (2, u "DISCARD"), (0, .fieldref 1 20), (0, .nameAndType 21 22), (0, u "$VALUES"), (0, u "[Lcom/example/token_handoff/tokenhandoff/Kind;"), (0, .methodref 24 25), (0, .class_ 22), (0, .nameAndType 26 27), (0, u "clone"), (0, u "()Ljava/lang/Object;"), (1, .class_ 31), (1, u "java/lang/Enum"), (6, .fieldref 1 39), (0, .nameAndType 40 41), (0, u "code"), (0, u "I"), (0, .methodref 1 43), (0, .nameAndType 44 45), (0, u "values"), (0, u "()[Lcom/example/token_handoff/tokenhandoff/Kind;"), (17, u "()I"), (0, u "ofCode"), (0, u "(I)Lcom/example/token_handoff/tokenhandoff/Kind;")] 6

def k6c0 : Code := { maxStack := 1, maxLocals := 0, code := prog_12_method_1_code, exceptionTable := #[], attributes := #[] }
def k6m0 : Method := { name := "values", desc := "()[Lcom/example/token_handoff/tokenhandoff/Kind;", sig := { parameters := [], returnType := some (.array (.object "com/example/token_handoff/tokenhandoff/Kind")) }, accessFlags := 9, code := some k6c0 }
def k6c1 : Code := { maxStack := 1, maxLocals := 1, code := prog_12_method_4_code, exceptionTable := #[], attributes := #[] }
def k6m1 : Method := { name := "code", desc := "()I", sig := { parameters := [], returnType := some .int }, accessFlags := 1, code := some k6c1 }
def k6c2 : Code := { maxStack := 2, maxLocals := 5, code := prog_12_method_5_code, exceptionTable := #[], attributes := #[] }
def k6m2 : Method := { name := "ofCode", desc := "(I)Lcom/example/token_handoff/tokenhandoff/Kind;", sig := { parameters := [.int], returnType := some (.object "com/example/token_handoff/tokenhandoff/Kind") }, accessFlags := 9, code := some k6c2 }
/-- com/example/token_handoff/tokenhandoff/Kind -/
def k6 : Class := { plain "com/example/token_handoff/tokenhandoff/Kind" (some 5) with
  accessFlags := 16433
  interfaces := #[]
  cf := some (fileOf pool6 1 #[] #[{ accessFlags := 9, nameIndex := 44, descriptorIndex := 45, attributes := #[] }, { accessFlags := 1, nameIndex := 40, descriptorIndex := 63, attributes := #[] }, { accessFlags := 9, nameIndex := 64, descriptorIndex := 65, attributes := #[] }] 16433 29 #[] #[{ accessFlags := 16409, nameIndex := 5, descriptorIndex := 6, attributes := #[] }, { accessFlags := 16409, nameIndex := 9, descriptorIndex := 6, attributes := #[] }, { accessFlags := 16409, nameIndex := 12, descriptorIndex := 6, attributes := #[] }, { accessFlags := 16409, nameIndex := 15, descriptorIndex := 6, attributes := #[] }, { accessFlags := 16409, nameIndex := 18, descriptorIndex := 6, attributes := #[] }, { accessFlags := 18, nameIndex := 40, descriptorIndex := 41, attributes := #[] }, { accessFlags := 4122, nameIndex := 21, descriptorIndex := 22, attributes := #[] }])
  fields := #[{ name := "MOVE", type := (.object "com/example/token_handoff/tokenhandoff/Kind"), accessFlags := 16409, slot := 0, constantValue := 0 }, { name := "ACK", type := (.object "com/example/token_handoff/tokenhandoff/Kind"), accessFlags := 16409, slot := 1, constantValue := 0 }, { name := "COMMIT", type := (.object "com/example/token_handoff/tokenhandoff/Kind"), accessFlags := 16409, slot := 2, constantValue := 0 }, { name := "EARLY_STOP", type := (.object "com/example/token_handoff/tokenhandoff/Kind"), accessFlags := 16409, slot := 3, constantValue := 0 }, { name := "DISCARD", type := (.object "com/example/token_handoff/tokenhandoff/Kind"), accessFlags := 16409, slot := 4, constantValue := 0 }, { name := "code", type := .int, accessFlags := 18, slot := 3, constantValue := 0 }, { name := "$VALUES", type := (.array (.object "com/example/token_handoff/tokenhandoff/Kind")), accessFlags := 4122, slot := 5, constantValue := 0 }]
  methods := #[k6m0, k6m1, k6m2]
  instanceTypes := #[(.object "java/lang/String"), .int, .int, .int]
  staticTypes := #[(.object "com/example/token_handoff/tokenhandoff/Kind"), (.object "com/example/token_handoff/tokenhandoff/Kind"), (.object "com/example/token_handoff/tokenhandoff/Kind"), (.object "com/example/token_handoff/tokenhandoff/Kind"), (.object "com/example/token_handoff/tokenhandoff/Kind"), (.array (.object "com/example/token_handoff/tokenhandoff/Kind"))]
  resolved := Array.replicate 72 none
  statics := some 0 }

def pool7 : Array CpInfo := pool [(1, .class_ 2), (0, u "java/lang/Cloneable"), (0, .class_ 4), (0, u "java/lang/Object")] 2

/-- java/lang/Cloneable -/
def k7 : Class := { plain "java/lang/Cloneable" (some 0) with
  accessFlags := 1537
  interfaces := #[]
  cf := some (fileOf pool7 1 #[] #[] 1537 3 #[] #[])
  fields := #[]
  methods := #[]
  instanceTypes := #[]
  staticTypes := #[]
  resolved := Array.replicate 7 none
  statics := none }

/-- the primitive byte -/
def k8 : Class := { plain "byte" none with kind := .primitive 'B', accessFlags := 0x411 }
/-- [B -/
def k9 : Class := { plain "[B" (some 0) with kind := .array 8 .byte, interfaces := #[7, 4], accessFlags := 1041 }

/-- the primitive int -/
def k10 : Class := { plain "int" none with kind := .primitive 'I', accessFlags := 0x411 }
/-- [I -/
def k11 : Class := { plain "[I" (some 0) with kind := .array 10 .int, interfaces := #[7, 4], accessFlags := 1041 }

/-- [Lcom/example/token_handoff/tokenhandoff/Kind; -/
def k12 : Class := { plain "[Lcom/example/token_handoff/tokenhandoff/Kind;" (some 0) with kind := .array 6 (.object "com/example/token_handoff/tokenhandoff/Kind"), interfaces := #[7, 4], accessFlags := 1041 }

def heap : Heap := #[{ cls := 6, slots := #[.ref 1, .ref 2, .ref 3, .ref 4, .ref 5, .ref 6], vm := .statics 6 },
  { cls := 6, slots := #[.null, .int 0, .int 0, .int 1], vm := .none },
  { cls := 6, slots := #[.null, .int 0, .int 0, .int 2], vm := .none },
  { cls := 6, slots := #[.null, .int 0, .int 0, .int 3], vm := .none },
  { cls := 6, slots := #[.null, .int 0, .int 0, .int 4], vm := .none },
  { cls := 6, slots := #[.null, .int 0, .int 0, .int 5], vm := .none },
  { cls := 12, slots := #[.ref 1, .ref 2, .ref 3, .ref 4, .ref 5], vm := .none }]
def classes : Array Class := #[k0, k1, k2, k3, k4, k5, k6, k7, k8, k9, k10, k11, k12]
def interned : List (Array UInt16 × Addr) := []
def slotsUsed : Nat := 31
def theMethod : MethodId := ⟨1, 1⟩
def args0 : Array Value := #[.int 3, .int 4]
def aboutOver (below : List Frame) : State where
  vm := { classes := classes, interned := interned.toArray }
  heap := heap
  slotsUsed := slotsUsed
  threads := #[{ frames := .invoking theMethod args0 :: below }]
def below0 : List Frame := [.native { method := ⟨0, 0⟩, args := #[] }]
def about1 : State := aboutOver below0
def p0 : Program := .bare "" "" ""
def e0 : Env := launch0.env 0 0 0
theorem w_frames : about1.frames = Frame.invoking theMethod args0 :: below0 := rfl
set_option maxRecDepth 65536 in
theorem w_args : argsFit about1.vm theMethod args0 = true := by decide +kernel
set_option maxRecDepth 65536 in
theorem w_heap : heapFits about1 = true := by decide +kernel
set_option maxRecDepth 65536 in
theorem w_runnable : about1.curStatus? = some .runnable := by decide +kernel
set_option maxRecDepth 65536 in
theorem w_alone : about1.alone = true := by decide +kernel
set_option maxRecDepth 65536 in
theorem w_named : about1.methodNamed? x = some theMethod := by decide +kernel
set_option maxRecDepth 65536 in
theorem w_hears : about1.hears theMethod below0 = true := by decide +kernel
set_option maxRecDepth 65536 in
theorem w_ripe : about1.ripe theMethod args0 below0 = true := by decide +kernel
theorem w_running : about1.status = .running := rfl
set_option maxRecDepth 65536 in
theorem w_room : about1.hasRoom e0.platform room_1 = true :=
  launch0.hasRoom_least _ room_1 (by decide +kernel) (by decide +kernel) (by decide +kernel) (by decide +kernel) (by decide +kernel) (by decide +kernel)
theorem allAtoms_all (ts : List Jvm.Cond) (a : Array Jvm.Value) (st : Jvm.State) : (allAtoms ts).before a st = ts.all (fun c => c.before a st) := by
  induction ts with
  | nil => rfl
  | cons c t ih =>
    show (Jvm.Cond.and c (allAtoms t)).before a st = _
    rw [Jvm.Cond.before_and, ih, List.all_cons]
def words1 : List Jvm.Cond := Jvm.Cond.code x code maxLocals ret :: tables_1
/-- a 'code' word, met by the world's own term for the bytes: nothing is compared byte by byte -/
theorem code_word {y : MethodName} {bytes : ByteArray} {mx : Nat} {rt : Option FieldType} {a : Array Value} {s : State} {m : MethodId} {meth : Method} {c : Code} (h1 : s.methodNamed? y = some m) (h2 : s.vm.method? m = some meth) (h3 : meth.code = some c) (h4 : c.code = bytes)
    (h5 : (c.maxLocals == mx && c.exceptionTable.isEmpty && decide (c.maxStack ≤ mostOperands) && decide (meth.sig.returnType = rt) && !meth.locks && decide (parseMethodDescriptor y.desc = some meth.sig)) = true) : (Jvm.Cond.code y bytes mx rt).before a s = true := by
  simp only [Bool.and_eq_true, beq_iff_eq, Bool.not_eq_true', decide_eq_true_eq] at h5
  obtain ⟨⟨⟨⟨⟨g1, g2⟩, g3⟩, g4⟩, g5⟩, g6⟩ := h5
  simp [Cond.before, Cond.holds, Cond.value, h1, h2, h3, h4, g1, g2, g3, g4, g5, g6]
def isCode : Jvm.Cond → Bool
  | .code _ _ _ _ => true
  | _ => false
theorem all_split {L : List Jvm.Cond} {P : Jvm.Cond → Bool} (h1 : L.all (fun c => isCode c || P c) = true) (h2 : ∀ c ∈ L.filter isCode, P c = true) : L.all P = true := by
  refine List.all_eq_true.mpr fun c hc => ?_
  have h := List.all_eq_true.mp h1 c hc
  rcases Bool.eq_false_or_eq_true (isCode c) with hi | hi
  · exact h2 c (List.mem_filter.mpr ⟨hc, hi⟩)
  · simpa [hi] using h
set_option maxRecDepth 65536 in
theorem w_c0 : (Jvm.Cond.code x code maxLocals ret).before args0 about1 = true := code_word (m := ⟨1, 1⟩) (meth := k1m1) (c := k1c1) (by decide +kernel) rfl rfl rfl (by decide +kernel)
set_option maxRecDepth 65536 in
theorem w_c1 : (Jvm.Cond.code ({ cls := "com/example/token_handoff/tokenhandoff/KindOfCodePinLaw", name := "expectedKind", desc := "(I)Lcom/example/token_handoff/tokenhandoff/Kind;" } : Jvm.MethodName) method_3_code (1 : Nat) (Option.some (Jvm.ClassFile.FieldType.object "com/example/token_handoff/tokenhandoff/Kind"))).before args0 about1 = true := code_word (m := ⟨1, 2⟩) (meth := k1m2) (c := k1c2) (by decide +kernel) rfl rfl rfl (by decide +kernel)
set_option maxRecDepth 65536 in
theorem w_c2 : (Jvm.Cond.code ({ cls := "com/example/token_handoff/tokenhandoff/Kind", name := "ofCode", desc := "(I)Lcom/example/token_handoff/tokenhandoff/Kind;" } : Jvm.MethodName) prog_12_method_5_code (5 : Nat) (Option.some (Jvm.ClassFile.FieldType.object "com/example/token_handoff/tokenhandoff/Kind"))).before args0 about1 = true := code_word (m := ⟨6, 2⟩) (meth := k6m2) (c := k6c2) (by decide +kernel) rfl rfl rfl (by decide +kernel)
set_option maxRecDepth 65536 in
theorem w_c3 : (Jvm.Cond.code ({ cls := "com/example/token_handoff/tokenhandoff/Kind", name := "values", desc := "()[Lcom/example/token_handoff/tokenhandoff/Kind;" } : Jvm.MethodName) prog_12_method_1_code (0 : Nat) (Option.some (Jvm.ClassFile.FieldType.array (Jvm.ClassFile.FieldType.object "com/example/token_handoff/tokenhandoff/Kind")))).before args0 about1 = true := code_word (m := ⟨6, 0⟩) (meth := k6m0) (c := k6c0) (by decide +kernel) rfl rfl rfl (by decide +kernel)
set_option maxRecDepth 65536 in
theorem w_c4 : (Jvm.Cond.code ({ cls := "com/example/token_handoff/tokenhandoff/Kind", name := "code", desc := "()I" } : Jvm.MethodName) prog_12_method_4_code (1 : Nat) (Option.some Jvm.ClassFile.FieldType.int)).before args0 about1 = true := code_word (m := ⟨6, 1⟩) (meth := k6m1) (c := k6c1) (by decide +kernel) rfl rfl rfl (by decide +kernel)
def codes1 : List Jvm.Cond := [Jvm.Cond.code x code maxLocals ret, Jvm.Cond.code ({ cls := "com/example/token_handoff/tokenhandoff/KindOfCodePinLaw", name := "expectedKind", desc := "(I)Lcom/example/token_handoff/tokenhandoff/Kind;" } : Jvm.MethodName) method_3_code (1 : Nat) (Option.some (Jvm.ClassFile.FieldType.object "com/example/token_handoff/tokenhandoff/Kind")), Jvm.Cond.code ({ cls := "com/example/token_handoff/tokenhandoff/Kind", name := "ofCode", desc := "(I)Lcom/example/token_handoff/tokenhandoff/Kind;" } : Jvm.MethodName) prog_12_method_5_code (5 : Nat) (Option.some (Jvm.ClassFile.FieldType.object "com/example/token_handoff/tokenhandoff/Kind")), Jvm.Cond.code ({ cls := "com/example/token_handoff/tokenhandoff/Kind", name := "values", desc := "()[Lcom/example/token_handoff/tokenhandoff/Kind;" } : Jvm.MethodName) prog_12_method_1_code (0 : Nat) (Option.some (Jvm.ClassFile.FieldType.array (Jvm.ClassFile.FieldType.object "com/example/token_handoff/tokenhandoff/Kind"))), Jvm.Cond.code ({ cls := "com/example/token_handoff/tokenhandoff/Kind", name := "code", desc := "()I" } : Jvm.MethodName) prog_12_method_4_code (1 : Nat) (Option.some Jvm.ClassFile.FieldType.int)]
set_option maxRecDepth 65536 in
theorem codes_eq : words1.filter isCode = codes1 := rfl
theorem w_codes : ∀ c ∈ words1.filter isCode, c.before args0 about1 = true := by
  rw [codes_eq]
  intro c hc
  simp only [codes1, List.mem_cons, List.not_mem_nil, or_false] at hc
  rcases hc with rfl | rfl | rfl | rfl | rfl
  · exact w_c0
  · exact w_c1
  · exact w_c2
  · exact w_c3
  · exact w_c4
set_option maxRecDepth 65536 in
theorem w_t1 : (words1.take 24).all (fun c => isCode c || c.before args0 about1) = true := by decide +kernel
set_option maxRecDepth 65536 in
theorem w_t2 : (words1.drop 24).all (fun c => isCode c || c.before args0 about1) = true := by decide +kernel
theorem w_tables : (allAtoms (Jvm.Cond.code x code maxLocals ret :: tables_1)).before args0 about1 = true := by
  rw [allAtoms_all]
  show words1.all (fun c => c.before args0 about1) = true
  refine all_split ?_ w_codes
  rw [← List.take_append_drop 24 words1, List.all_append, w_t1, w_t2]
  rfl
set_option maxRecDepth 65536 in
theorem w_case : (Jvm.Cond.and given_1 narrow_1).before args0 about1 = true := by decide +kernel
theorem w_applies : (headSpec (Jvm.Cond.code x code maxLocals ret :: tables_1) room_1).applies x e0.platform about1 = true :=
  (Spec.applies_iff w_frames).mpr ⟨w_running, w_runnable, w_alone, w_named, w_hears, w_ripe, w_room, w_tables⟩
theorem atStart : AtStart classFile x code maxLocals ret World_1 tables_1 room_1 Calls_1 rest_1 Pre_1 launch0 p0 e0 about1 theMethod args0 below0 :=
  ⟨lists_1, trivial, launch0.admits_env _ _ _, launch0.least_env, fairChoices_fair.cas, fairChoices_fair.clock, w_frames, w_args, w_heap, w_applies, trivial, trivial, w_case⟩
end start1
theorem witness_1 : WitnessClaimed_1 := ⟨start1.p0, start1.e0, start1.about1, start1.theMethod, start1.args0, start1.below0, start1.atStart⟩
end Jvm.Pilot.@@N@@
