import JvmDerived
import JvmDerived.Pilot.@@N@@Statement
import JvmDerived.Pilot.@@N@@Code
set_option linter.unusedVariables false
set_option linter.unusedSimpArgs false
namespace Jvm.RoadKit
open Sem ClassFile Op Lib Jvm.Stand Jvm.Free Jvm.LawKit
section New
variable {p : Program} {l : Launch} {e : Env} {R : Room} {s : State} {m : MethodId} {args : Array Value} {below : List Frame} {meth : Method} {c : Code} {T : State} {locs : List Loc} {cells slots : Nat}
theorem retI (X : Stand p l e R s m args below meth c T locs cells slots) (hx : p.tables.exec = Jvm.exec) {pc : Nat} {Ls : Array Slot} {z : Int32} {rest : List Value} (hret : meth.sig.returnType = some .int) (hd : decode c.code pc = .ok (.ireturn, 1)) {fs : List Frame}
    (hl : ∀ (f : JFrame) (acts : List Action), f.method = m → f.locked = none → f.entered = [] → (doReturn e (T.setTop f) acts (some (.int z))).1 = T.setFrames fs) : Steps p.tables e below (T.setTop (mkF m pc Ls (.int z :: rest))) (T.setFrames fs) := by
  have hm' : T.vm.method? m = some meth := X.method'
  have hn : narrow .int (.int z) = .int z := rfl
  show Steps p.tables e below (T.setTop { method := m, pc := pc, locals := Ls, stack := _ :: rest, locked := none }) _
  jvm_step X.here [X.here.top, hx, hd, hm', hret, hn]
  first | (intro acts; rw [hl _ acts rfl rfl rfl]) | rw [hl _ _ rfl rfl rfl]
  exact Steps.refl _
end New
end Jvm.RoadKit
namespace Jvm.Pilot.@@N@@
open Jvm Jvm.ClassFile Sem Op Lib Jvm.Free Jvm.Stand Jvm.LawKit Jvm.RoadKit Bundle Jvm.Pilot.@@N@@.Jvm.D
theorem own_eqI {t : Term} {args : Array Value} {first s : State} {o : Option Outcome} {idx : List Nat} {k : Int32} (h : (Jvm.Cond.eq t (.int k)).value args first o s idx = some true) : t.eval args first o idx s = some (.int k) := by
  cases ht : t.eval args first o idx s with
  | none => simp [Cond.value, ht] at h
  | some x => cases x <;> simp [Cond.value, ht, Term.eval] at h ⊢ <;> exact h
theorem own_eqJ {t : Term} {args : Array Value} {first s : State} {o : Option Outcome} {idx : List Nat} {k : Int64} (h : (Jvm.Cond.eq t (.long k)).value args first o s idx = some true) : t.eval args first o idx s = some (.long k) := by
  cases ht : t.eval args first o idx s with
  | none => simp [Cond.value, ht] at h
  | some x => cases x <;> simp [Cond.value, ht, Term.eval] at h ⊢ <;> exact h
theorem own_eqR {t u : Term} {args : Array Value} {first s : State} {o : Option Outcome} {idx : List Nat} {x : Addr} (h : (Jvm.Cond.eq t u).value args first o s idx = some true) (hu : u.eval args first o idx s = some (.ref x)) : t.eval args first o idx s = some (.ref x) := by
  cases ht : t.eval args first o idx s with
  | none => simp [Cond.value, ht] at h
  | some z => cases z <;> simp [Cond.value, ht, hu] at h ⊢ <;> exact h
theorem cat_of {v : Value} (h : v.isRef = true) : v.category = 1 := by rcases ref_cases h with rfl | ⟨a, rfl⟩ <;> rfl
theorem own_fits {n : String} {v : Value} (h : v.isRef = true) : fits (.object n) v = true := by rcases ref_cases h with rfl | ⟨a, rfl⟩ <;> rfl
theorem own_exa_ns {Z : State} {h : Heap} {a : Addr} {C : String} (E : Exa Z h a C) : ∀ c : Cell, h[a]? = some c → c.vm.isStatics = false := fun c hc => by
  obtain ⟨cell, k, h1, -, -, h4, -⟩ := E
  cases h1.symm.trans hc; exact h4
theorem own_sta_keep {Z : State} {h h' : Heap} {ws : List Addr} {C n d : String} {v : Value} (F : Sta Z h C n d v) (K : Keep h h' ws) (q : ∀ x ∈ ws, ∀ c : Cell, h[x]? = some c → c.vm.isStatics = false) : Sta Z h' C n d v := by
  obtain ⟨cf, i, k, f, st, cell, h1, h2, h3, h4, h5, h6, r⟩ := F
  refine ⟨cf, i, k, f, st, cell, h1, h2, h3, h4, K.2.1 st cell h5 (fun hm => ?_), h6, r⟩
  have := q st hm cell h5
  rw [h6] at this; cases this
theorem own_last7 {i : Int32} (hr : 0 ≤ i.toInt ∧ i.toInt < 7) (h0 : ¬ i = 0) (h1 : ¬ i = 1) (h2 : ¬ i = 2) (h3 : ¬ i = 3) (h4 : ¬ i = 4) (h5 : ¬ i = 5) : 6 = i := by
  apply Int32.toInt_inj.mp
  have g : ∀ k : Int32, ¬ i = k → i.toInt ≠ k.toInt := fun k h e => h (Int32.toInt_inj.mp e)
  have := g 0 h0; have := g 1 h1; have := g 2 h2; have := g 3 h3; have := g 4 h4; have := g 5 h5
  have q : (0 : Int32).toInt = 0 ∧ (1 : Int32).toInt = 1 ∧ (2 : Int32).toInt = 2 ∧ (3 : Int32).toInt = 3 ∧ (4 : Int32).toInt = 4 ∧ (5 : Int32).toInt = 5 ∧ (6 : Int32).toInt = 6 := by decide
  omega
theorem own_rng (x y : Int32) (d : Int) (hy : y.toInt = d) (hd : 0 < d) : 0 ≤ ((x &&& 2147483647) % y).toInt ∧ ((x &&& 2147483647) % y).toInt < d := by
  have h := c_and x 2147483647 (by decide)
  have g := (c_irem (x &&& 2147483647) y d hy).1 h.1
  rw [g]; exact ⟨Int.emod_nonneg _ (by omega), Int.emod_lt_of_pos _ hd⟩
theorem pn_0 : plainName "cartouche/oai/CodeRepeatsArgumentsPinLaw" = true := by first | (simp [plainName, overriddenIn]; done) | decide +kernel
theorem d1_0 : decode method_3_code 0 = .ok (.iload_n 0, 1) := by decide +kernel
theorem d1_1 : decode method_3_code 1 = .ok (.ifCond .ne 7, 3) := by decide +kernel
theorem d1_4 : decode method_3_code 4 = .ok (.getstatic 20, 3) := by decide +kernel
theorem d1_7 : decode method_3_code 7 = .ok (.areturn, 1) := by decide +kernel
theorem d1_8 : decode method_3_code 8 = .ok (.iload_n 0, 1) := by decide +kernel
theorem d1_9 : decode method_3_code 9 = .ok (.iconst 1, 1) := by decide +kernel
theorem d1_10 : decode method_3_code 10 = .ok (.if_icmp .ne 7, 3) := by decide +kernel
theorem d1_13 : decode method_3_code 13 = .ok (.getstatic 24, 3) := by decide +kernel
theorem d1_16 : decode method_3_code 16 = .ok (.areturn, 1) := by decide +kernel
theorem d1_17 : decode method_3_code 17 = .ok (.iload_n 0, 1) := by decide +kernel
theorem d1_18 : decode method_3_code 18 = .ok (.iconst 2, 1) := by decide +kernel
theorem d1_19 : decode method_3_code 19 = .ok (.if_icmp .ne 7, 3) := by decide +kernel
theorem d1_22 : decode method_3_code 22 = .ok (.getstatic 27, 3) := by decide +kernel
theorem d1_25 : decode method_3_code 25 = .ok (.areturn, 1) := by decide +kernel
theorem d1_26 : decode method_3_code 26 = .ok (.iload_n 0, 1) := by decide +kernel
theorem d1_27 : decode method_3_code 27 = .ok (.iconst 3, 1) := by decide +kernel
theorem d1_28 : decode method_3_code 28 = .ok (.if_icmp .ne 7, 3) := by decide +kernel
theorem d1_31 : decode method_3_code 31 = .ok (.getstatic 30, 3) := by decide +kernel
theorem d1_34 : decode method_3_code 34 = .ok (.areturn, 1) := by decide +kernel
theorem d1_35 : decode method_3_code 35 = .ok (.iload_n 0, 1) := by decide +kernel
theorem d1_36 : decode method_3_code 36 = .ok (.iconst 4, 1) := by decide +kernel
theorem d1_37 : decode method_3_code 37 = .ok (.if_icmp .ne 7, 3) := by decide +kernel
theorem d1_40 : decode method_3_code 40 = .ok (.getstatic 33, 3) := by decide +kernel
theorem d1_43 : decode method_3_code 43 = .ok (.areturn, 1) := by decide +kernel
theorem d1_44 : decode method_3_code 44 = .ok (.iload_n 0, 1) := by decide +kernel
theorem d1_45 : decode method_3_code 45 = .ok (.iconst 5, 1) := by decide +kernel
theorem d1_46 : decode method_3_code 46 = .ok (.if_icmp .ne 7, 3) := by decide +kernel
theorem d1_49 : decode method_3_code 49 = .ok (.getstatic 36, 3) := by decide +kernel
theorem d1_52 : decode method_3_code 52 = .ok (.areturn, 1) := by decide +kernel
theorem d1_53 : decode method_3_code 53 = .ok (.getstatic 39, 3) := by decide +kernel
theorem d1_56 : decode method_3_code 56 = .ok (.areturn, 1) := by decide +kernel
theorem ef_1 (m : MethodId) (x0 : Int32)  : entryFrame m #[(.int x0)] 1 = mkF m 0 #[.val (.int x0)] [] := by first | (simp [entryFrame, mkF, argsToLocals, Value.category]; done) | rfl
def Q1 (Z : State) (p0 : Int32) (w_BAD_ARGUMENT_0 : Addr) (w_BAD_RESUMPTION_TOKEN_1 : Addr) (w_BAD_VERB_2 : Addr) (w_CANNOT_DISSEMINATE_FORMAT_3 : Addr) (w_ID_DOES_NOT_EXIST_4 : Addr) (w_NO_RECORDS_MATCH_5 : Addr) (w_NO_SET_HIERARCHY_6 : Addr) (h0 : Heap) (n0 : Nat) (v : Option Value) (h : Heap) (L : List Loc) : Prop := (∃ r : Addr, v = some (.ref r) ∧ (((0 : Int32) = p0 ∧ w_BAD_ARGUMENT_0 = r) ∨ ((1 : Int32) = p0 ∧ w_BAD_RESUMPTION_TOKEN_1 = r) ∨ ((2 : Int32) = p0 ∧ w_BAD_VERB_2 = r) ∨ ((3 : Int32) = p0 ∧ w_CANNOT_DISSEMINATE_FORMAT_3 = r) ∨ ((4 : Int32) = p0 ∧ w_ID_DOES_NOT_EXIST_4 = r) ∨ ((5 : Int32) = p0 ∧ w_NO_RECORDS_MATCH_5 = r) ∨ ((6 : Int32) = p0 ∧ w_NO_SET_HIERARCHY_6 = r))) ∧ Fr n0 L ∧ h = h0
set_option maxRecDepth 65536 in
set_option maxHeartbeats 40000000 in
theorem rm1 (l : Launch) (Z : State) (aw : Array Value) (hw : ∀ d ∈ tables_1, d.before aw Z = true) (ws : List Jvm.Cond) (p0 : Int32) (w_BAD_ARGUMENT_0 : Addr) (w_BAD_RESUMPTION_TOKEN_1 : Addr) (w_BAD_VERB_2 : Addr) (w_CANNOT_DISSEMINATE_FORMAT_3 : Addr) (w_ID_DOES_NOT_EXIST_4 : Addr) (w_NO_RECORDS_MATCH_5 : Addr) (w_NO_SET_HIERARCHY_6 : Addr) (h0 : Heap) (n0 : Nat) (Z0 : n0 ≤ h0.size) (hrg : 0 ≤ p0.toInt ∧ p0.toInt < 7) (Sf_BAD_ARGUMENT_1 : Sta Z h0 "cartouche/oai/OaiException$Code" "BAD_ARGUMENT" "Lcartouche/oai/OaiException$Code;" (.ref w_BAD_ARGUMENT_0)) (Sf_BAD_RESUMPTION_TOKEN_2 : Sta Z h0 "cartouche/oai/OaiException$Code" "BAD_RESUMPTION_TOKEN" "Lcartouche/oai/OaiException$Code;" (.ref w_BAD_RESUMPTION_TOKEN_1)) (Sf_BAD_VERB_3 : Sta Z h0 "cartouche/oai/OaiException$Code" "BAD_VERB" "Lcartouche/oai/OaiException$Code;" (.ref w_BAD_VERB_2)) (Sf_CANNOT_DISSEMINATE_FORMAT_4 : Sta Z h0 "cartouche/oai/OaiException$Code" "CANNOT_DISSEMINATE_FORMAT" "Lcartouche/oai/OaiException$Code;" (.ref w_CANNOT_DISSEMINATE_FORMAT_3)) (Sf_ID_DOES_NOT_EXIST_5 : Sta Z h0 "cartouche/oai/OaiException$Code" "ID_DOES_NOT_EXIST" "Lcartouche/oai/OaiException$Code;" (.ref w_ID_DOES_NOT_EXIST_4)) (Sf_NO_RECORDS_MATCH_6 : Sta Z h0 "cartouche/oai/OaiException$Code" "NO_RECORDS_MATCH" "Lcartouche/oai/OaiException$Code;" (.ref w_NO_RECORDS_MATCH_5)) (Sf_NO_SET_HIERARCHY_7 : Sta Z h0 "cartouche/oai/OaiException$Code" "NO_SET_HIERARCHY" "Lcartouche/oai/OaiException$Code;" (.ref w_NO_SET_HIERARCHY_6)) :
    MetFree l (⟨"cartouche/oai/CodeRepeatsArgumentsPinLaw", "pick", "(I)Lcartouche/oai/OaiException$Code;"⟩ : MethodName) (head1 (Jvm.Cond.code (⟨"cartouche/oai/CodeRepeatsArgumentsPinLaw", "pick", "(I)Lcartouche/oai/OaiException$Code;"⟩ : MethodName) method_3_code 1 (some (.object "cartouche/oai/OaiException$Code")) :: ws) ({ frames := 0, cells := 0, slots := 0, locals := 0 } : Room)) (fun a U => a = #[(.int p0)] ∧ Z.Warmed39 U.vm ∧ U.heap = h0) (fun _ _ _ _ _ => True) (fun _ U o U' => ∃ v L, o = .returned v ∧ Q1 Z p0 w_BAD_ARGUMENT_0 w_BAD_RESUMPTION_TOKEN_1 w_BAD_VERB_2 w_CANNOT_DISSEMINATE_FORMAT_3 w_ID_DOES_NOT_EXIST_4 w_NO_RECORDS_MATCH_5 w_NO_SET_HIERARCHY_6 h0 n0 v U'.heap L ∧ FrameEnd U o U' L ({ frames := 0, cells := 0, slots := 0, locals := 0 } : Room).cells ({ frames := 0, cells := 0, slots := 0, locals := 0 } : Room).slots) := by
  refine MetFree.of_bodySF (plainFor_of_name pn_0) hisR ?_
  intro p e s m args below meth c s₁ Bd hml0 hP hK
  obtain ⟨rfl, hZ, hh⟩ := hP
  have hx := Bd.exec
  have hby := Bd.bytes
  have hml : c.maxLocals = 1 := hml0
  have hown : s.vm.findClass "cartouche/oai/CodeRepeatsArgumentsPinLaw" = some m.cls := findClass_of_methodNamed Bd.named
  have hnm := (name_of_methodNamed Bd.named Bd.method).1
  have X0 : Stand p l e ({ frames := 0, cells := 0, slots := 0, locals := 0 } : Room) s m #[(.int p0)] below meth c s₁ [] 0 0 := Stand.of_body Bd
  have e0 : s₁.heap = h0 := by rw [← hh, Bd.state]; rfl
  have N0 := Fr.nil n0
  have pre0 : ∀ t, Steps p.tables e below (s₁.setTop (mkF m 0 #[.val (.int p0)] [])) t → Steps p.tables e below (s₁.setTop (entryFrame m #[(.int p0)] 1)) t := fun t k => castTop (ef_1 m p0 ) k
  have pre1 : ∀ t, Steps p.tables e below (s₁.setTop (mkF m 1 #[.val (.int p0)] [(.int p0)])) t → Steps p.tables e below (s₁.setTop (entryFrame m #[(.int p0)] 1)) t := fun t kt => pre0 t (by
      show Steps p.tables e below (s₁.setTop (mkF m 0 #[.val (.int p0)] [])) _
      refine XS.iloadN X0.here hx rfl (hb hby d1_0) rfl ?_
      exact kt)
  by_cases hc2 : p0 = (0 : Int32)
  · skip
    obtain ⟨T3, X3, e3, st3⟩ := getS2 X0 hx hZ hown (host := "") (Or.inl (hw _ (List.mem_of_getElem? (i := 5) rfl))) Via.refl e0 Sf_BAD_ARGUMENT_1 (g := (mkF m 4 #[.val (.int p0)] [])) rfl (hb hby d1_4)
    have pre4 : ∀ t, Steps p.tables e below (T3.setTop (mkF m 7 #[.val (.int p0)] [(.ref w_BAD_ARGUMENT_0)])) t → Steps p.tables e below (s₁.setTop (entryFrame m #[(.int p0)] 1)) t := fun t kt => pre1 t (by
        show Steps p.tables e below (s₁.setTop (mkF m 1 #[.val (.int p0)] [(.int p0)])) _
        refine XS.ifNo X0.here hx rfl (hb hby d1_1) rfl ((if0 _ _).trans (teq hc2).2) ?_
        show Steps p.tables e below (s₁.setTop (mkF m 4 #[.val (.int p0)] [])) _
        refine st3 _ ?_
        exact kt)
    obtain ⟨fs, hr, hrun, hended, hW, hsame⟩ := X3.leave (v := some (.ref w_BAD_ARGUMENT_0)) (fun h => by rw [Bd.returns] at h; cases h)
    refine ⟨_, _, pre4 _ ?_, hrun, hended, _, _, rfl, ?_, ⟨_, rfl⟩, hW, hsame.mono (by decide) (by decide)⟩
    · show Steps p.tables e below (T3.setTop (mkF m 7 #[.val (.int p0)] [(.ref w_BAD_ARGUMENT_0)])) _
      jvm_step X3.here [X3.here.top, hx, (hb hby d1_7), X3.method', Bd.returns, Value.isRef, FieldType.isReference]
      first | (intro acts; rw [hr _ acts rfl rfl rfl]) | rw [hr _ _ rfl rfl rfl]
      exact Steps.refl _
    · show Q1 Z _ _ _ _ _ _ _ _ h0 n0 _ T3.heap _
      rw [e3]
      exact ⟨⟨_, rfl, Or.inl ⟨hc2.symm, rfl⟩⟩, N0, rfl⟩
  · skip
    have pre5 : ∀ t, Steps p.tables e below (s₁.setTop (mkF m 10 #[.val (.int p0)] [(.int (1 : Int32)), (.int p0)])) t → Steps p.tables e below (s₁.setTop (entryFrame m #[(.int p0)] 1)) t := fun t kt => pre1 t (by
        show Steps p.tables e below (s₁.setTop (mkF m 1 #[.val (.int p0)] [(.int p0)])) _
        refine XS.ifYes X0.here hx rfl (pc0 := 1) (pc' := 8) rfl (hb hby d1_1) rfl ((if0 _ _).trans (feq hc2).2) (by decide) (by decide) ?_
        show Steps p.tables e below (s₁.setTop (mkF m 8 #[.val (.int p0)] [])) _
        refine XS.iloadN X0.here hx rfl (hb hby d1_8) rfl ?_
        show Steps p.tables e below (s₁.setTop (mkF m 9 #[.val (.int p0)] [(.int p0)])) _
        refine XS.iconst X0.here hx rfl (hb hby d1_9) ?_
        exact kt)
    by_cases hc6 : p0 = (1 : Int32)
    · skip
      obtain ⟨T7, X7, e7, st7⟩ := getS2 X0 hx hZ hown (host := "") (Or.inl (hw _ (List.mem_of_getElem? (i := 25) rfl))) Via.refl e0 Sf_BAD_RESUMPTION_TOKEN_2 (g := (mkF m 13 #[.val (.int p0)] [])) rfl (hb hby d1_13)
      have pre8 : ∀ t, Steps p.tables e below (T7.setTop (mkF m 16 #[.val (.int p0)] [(.ref w_BAD_RESUMPTION_TOKEN_1)])) t → Steps p.tables e below (s₁.setTop (entryFrame m #[(.int p0)] 1)) t := fun t kt => pre5 t (by
          show Steps p.tables e below (s₁.setTop (mkF m 10 #[.val (.int p0)] [(.int (1 : Int32)), (.int p0)])) _
          refine XS.icmpNo X0.here hx rfl (hb hby d1_10) rfl (teq hc6).2 ?_
          show Steps p.tables e below (s₁.setTop (mkF m 13 #[.val (.int p0)] [])) _
          refine st7 _ ?_
          exact kt)
      obtain ⟨fs, hr, hrun, hended, hW, hsame⟩ := X7.leave (v := some (.ref w_BAD_RESUMPTION_TOKEN_1)) (fun h => by rw [Bd.returns] at h; cases h)
      refine ⟨_, _, pre8 _ ?_, hrun, hended, _, _, rfl, ?_, ⟨_, rfl⟩, hW, hsame.mono (by decide) (by decide)⟩
      · show Steps p.tables e below (T7.setTop (mkF m 16 #[.val (.int p0)] [(.ref w_BAD_RESUMPTION_TOKEN_1)])) _
        jvm_step X7.here [X7.here.top, hx, (hb hby d1_16), X7.method', Bd.returns, Value.isRef, FieldType.isReference]
        first | (intro acts; rw [hr _ acts rfl rfl rfl]) | rw [hr _ _ rfl rfl rfl]
        exact Steps.refl _
      · show Q1 Z _ _ _ _ _ _ _ _ h0 n0 _ T7.heap _
        rw [e7]
        exact ⟨⟨_, rfl, Or.inr (Or.inl ⟨hc6.symm, rfl⟩)⟩, N0, rfl⟩
    · skip
      have pre9 : ∀ t, Steps p.tables e below (s₁.setTop (mkF m 19 #[.val (.int p0)] [(.int (2 : Int32)), (.int p0)])) t → Steps p.tables e below (s₁.setTop (entryFrame m #[(.int p0)] 1)) t := fun t kt => pre5 t (by
          show Steps p.tables e below (s₁.setTop (mkF m 10 #[.val (.int p0)] [(.int (1 : Int32)), (.int p0)])) _
          refine XS.icmpYes X0.here hx rfl (pc0 := 10) (pc' := 17) rfl (hb hby d1_10) rfl (feq hc6).2 (by decide) (by decide) ?_
          show Steps p.tables e below (s₁.setTop (mkF m 17 #[.val (.int p0)] [])) _
          refine XS.iloadN X0.here hx rfl (hb hby d1_17) rfl ?_
          show Steps p.tables e below (s₁.setTop (mkF m 18 #[.val (.int p0)] [(.int p0)])) _
          refine XS.iconst X0.here hx rfl (hb hby d1_18) ?_
          exact kt)
      by_cases hc10 : p0 = (2 : Int32)
      · skip
        obtain ⟨T11, X11, e11, st11⟩ := getS2 X0 hx hZ hown (host := "") (Or.inl (hw _ (List.mem_of_getElem? (i := 24) rfl))) Via.refl e0 Sf_BAD_VERB_3 (g := (mkF m 22 #[.val (.int p0)] [])) rfl (hb hby d1_22)
        have pre12 : ∀ t, Steps p.tables e below (T11.setTop (mkF m 25 #[.val (.int p0)] [(.ref w_BAD_VERB_2)])) t → Steps p.tables e below (s₁.setTop (entryFrame m #[(.int p0)] 1)) t := fun t kt => pre9 t (by
            show Steps p.tables e below (s₁.setTop (mkF m 19 #[.val (.int p0)] [(.int (2 : Int32)), (.int p0)])) _
            refine XS.icmpNo X0.here hx rfl (hb hby d1_19) rfl (teq hc10).2 ?_
            show Steps p.tables e below (s₁.setTop (mkF m 22 #[.val (.int p0)] [])) _
            refine st11 _ ?_
            exact kt)
        obtain ⟨fs, hr, hrun, hended, hW, hsame⟩ := X11.leave (v := some (.ref w_BAD_VERB_2)) (fun h => by rw [Bd.returns] at h; cases h)
        refine ⟨_, _, pre12 _ ?_, hrun, hended, _, _, rfl, ?_, ⟨_, rfl⟩, hW, hsame.mono (by decide) (by decide)⟩
        · show Steps p.tables e below (T11.setTop (mkF m 25 #[.val (.int p0)] [(.ref w_BAD_VERB_2)])) _
          jvm_step X11.here [X11.here.top, hx, (hb hby d1_25), X11.method', Bd.returns, Value.isRef, FieldType.isReference]
          first | (intro acts; rw [hr _ acts rfl rfl rfl]) | rw [hr _ _ rfl rfl rfl]
          exact Steps.refl _
        · show Q1 Z _ _ _ _ _ _ _ _ h0 n0 _ T11.heap _
          rw [e11]
          exact ⟨⟨_, rfl, Or.inr (Or.inr (Or.inl ⟨hc10.symm, rfl⟩))⟩, N0, rfl⟩
      · skip
        have pre13 : ∀ t, Steps p.tables e below (s₁.setTop (mkF m 28 #[.val (.int p0)] [(.int (3 : Int32)), (.int p0)])) t → Steps p.tables e below (s₁.setTop (entryFrame m #[(.int p0)] 1)) t := fun t kt => pre9 t (by
            show Steps p.tables e below (s₁.setTop (mkF m 19 #[.val (.int p0)] [(.int (2 : Int32)), (.int p0)])) _
            refine XS.icmpYes X0.here hx rfl (pc0 := 19) (pc' := 26) rfl (hb hby d1_19) rfl (feq hc10).2 (by decide) (by decide) ?_
            show Steps p.tables e below (s₁.setTop (mkF m 26 #[.val (.int p0)] [])) _
            refine XS.iloadN X0.here hx rfl (hb hby d1_26) rfl ?_
            show Steps p.tables e below (s₁.setTop (mkF m 27 #[.val (.int p0)] [(.int p0)])) _
            refine XS.iconst X0.here hx rfl (hb hby d1_27) ?_
            exact kt)
        by_cases hc14 : p0 = (3 : Int32)
        · skip
          obtain ⟨T15, X15, e15, st15⟩ := getS2 X0 hx hZ hown (host := "") (Or.inl (hw _ (List.mem_of_getElem? (i := 16) rfl))) Via.refl e0 Sf_CANNOT_DISSEMINATE_FORMAT_4 (g := (mkF m 31 #[.val (.int p0)] [])) rfl (hb hby d1_31)
          have pre16 : ∀ t, Steps p.tables e below (T15.setTop (mkF m 34 #[.val (.int p0)] [(.ref w_CANNOT_DISSEMINATE_FORMAT_3)])) t → Steps p.tables e below (s₁.setTop (entryFrame m #[(.int p0)] 1)) t := fun t kt => pre13 t (by
              show Steps p.tables e below (s₁.setTop (mkF m 28 #[.val (.int p0)] [(.int (3 : Int32)), (.int p0)])) _
              refine XS.icmpNo X0.here hx rfl (hb hby d1_28) rfl (teq hc14).2 ?_
              show Steps p.tables e below (s₁.setTop (mkF m 31 #[.val (.int p0)] [])) _
              refine st15 _ ?_
              exact kt)
          obtain ⟨fs, hr, hrun, hended, hW, hsame⟩ := X15.leave (v := some (.ref w_CANNOT_DISSEMINATE_FORMAT_3)) (fun h => by rw [Bd.returns] at h; cases h)
          refine ⟨_, _, pre16 _ ?_, hrun, hended, _, _, rfl, ?_, ⟨_, rfl⟩, hW, hsame.mono (by decide) (by decide)⟩
          · show Steps p.tables e below (T15.setTop (mkF m 34 #[.val (.int p0)] [(.ref w_CANNOT_DISSEMINATE_FORMAT_3)])) _
            jvm_step X15.here [X15.here.top, hx, (hb hby d1_34), X15.method', Bd.returns, Value.isRef, FieldType.isReference]
            first | (intro acts; rw [hr _ acts rfl rfl rfl]) | rw [hr _ _ rfl rfl rfl]
            exact Steps.refl _
          · show Q1 Z _ _ _ _ _ _ _ _ h0 n0 _ T15.heap _
            rw [e15]
            exact ⟨⟨_, rfl, Or.inr (Or.inr (Or.inr (Or.inl ⟨hc14.symm, rfl⟩)))⟩, N0, rfl⟩
        · skip
          have pre17 : ∀ t, Steps p.tables e below (s₁.setTop (mkF m 37 #[.val (.int p0)] [(.int (4 : Int32)), (.int p0)])) t → Steps p.tables e below (s₁.setTop (entryFrame m #[(.int p0)] 1)) t := fun t kt => pre13 t (by
              show Steps p.tables e below (s₁.setTop (mkF m 28 #[.val (.int p0)] [(.int (3 : Int32)), (.int p0)])) _
              refine XS.icmpYes X0.here hx rfl (pc0 := 28) (pc' := 35) rfl (hb hby d1_28) rfl (feq hc14).2 (by decide) (by decide) ?_
              show Steps p.tables e below (s₁.setTop (mkF m 35 #[.val (.int p0)] [])) _
              refine XS.iloadN X0.here hx rfl (hb hby d1_35) rfl ?_
              show Steps p.tables e below (s₁.setTop (mkF m 36 #[.val (.int p0)] [(.int p0)])) _
              refine XS.iconst X0.here hx rfl (hb hby d1_36) ?_
              exact kt)
          by_cases hc18 : p0 = (4 : Int32)
          · skip
            obtain ⟨T19, X19, e19, st19⟩ := getS2 X0 hx hZ hown (host := "") (Or.inl (hw _ (List.mem_of_getElem? (i := 22) rfl))) Via.refl e0 Sf_ID_DOES_NOT_EXIST_5 (g := (mkF m 40 #[.val (.int p0)] [])) rfl (hb hby d1_40)
            have pre20 : ∀ t, Steps p.tables e below (T19.setTop (mkF m 43 #[.val (.int p0)] [(.ref w_ID_DOES_NOT_EXIST_4)])) t → Steps p.tables e below (s₁.setTop (entryFrame m #[(.int p0)] 1)) t := fun t kt => pre17 t (by
                show Steps p.tables e below (s₁.setTop (mkF m 37 #[.val (.int p0)] [(.int (4 : Int32)), (.int p0)])) _
                refine XS.icmpNo X0.here hx rfl (hb hby d1_37) rfl (teq hc18).2 ?_
                show Steps p.tables e below (s₁.setTop (mkF m 40 #[.val (.int p0)] [])) _
                refine st19 _ ?_
                exact kt)
            obtain ⟨fs, hr, hrun, hended, hW, hsame⟩ := X19.leave (v := some (.ref w_ID_DOES_NOT_EXIST_4)) (fun h => by rw [Bd.returns] at h; cases h)
            refine ⟨_, _, pre20 _ ?_, hrun, hended, _, _, rfl, ?_, ⟨_, rfl⟩, hW, hsame.mono (by decide) (by decide)⟩
            · show Steps p.tables e below (T19.setTop (mkF m 43 #[.val (.int p0)] [(.ref w_ID_DOES_NOT_EXIST_4)])) _
              jvm_step X19.here [X19.here.top, hx, (hb hby d1_43), X19.method', Bd.returns, Value.isRef, FieldType.isReference]
              first | (intro acts; rw [hr _ acts rfl rfl rfl]) | rw [hr _ _ rfl rfl rfl]
              exact Steps.refl _
            · show Q1 Z _ _ _ _ _ _ _ _ h0 n0 _ T19.heap _
              rw [e19]
              exact ⟨⟨_, rfl, Or.inr (Or.inr (Or.inr (Or.inr (Or.inl ⟨hc18.symm, rfl⟩))))⟩, N0, rfl⟩
          · skip
            have pre21 : ∀ t, Steps p.tables e below (s₁.setTop (mkF m 46 #[.val (.int p0)] [(.int (5 : Int32)), (.int p0)])) t → Steps p.tables e below (s₁.setTop (entryFrame m #[(.int p0)] 1)) t := fun t kt => pre17 t (by
                show Steps p.tables e below (s₁.setTop (mkF m 37 #[.val (.int p0)] [(.int (4 : Int32)), (.int p0)])) _
                refine XS.icmpYes X0.here hx rfl (pc0 := 37) (pc' := 44) rfl (hb hby d1_37) rfl (feq hc18).2 (by decide) (by decide) ?_
                show Steps p.tables e below (s₁.setTop (mkF m 44 #[.val (.int p0)] [])) _
                refine XS.iloadN X0.here hx rfl (hb hby d1_44) rfl ?_
                show Steps p.tables e below (s₁.setTop (mkF m 45 #[.val (.int p0)] [(.int p0)])) _
                refine XS.iconst X0.here hx rfl (hb hby d1_45) ?_
                exact kt)
            by_cases hc22 : p0 = (5 : Int32)
            · skip
              obtain ⟨T23, X23, e23, st23⟩ := getS2 X0 hx hZ hown (host := "") (Or.inl (hw _ (List.mem_of_getElem? (i := 18) rfl))) Via.refl e0 Sf_NO_RECORDS_MATCH_6 (g := (mkF m 49 #[.val (.int p0)] [])) rfl (hb hby d1_49)
              have pre24 : ∀ t, Steps p.tables e below (T23.setTop (mkF m 52 #[.val (.int p0)] [(.ref w_NO_RECORDS_MATCH_5)])) t → Steps p.tables e below (s₁.setTop (entryFrame m #[(.int p0)] 1)) t := fun t kt => pre21 t (by
                  show Steps p.tables e below (s₁.setTop (mkF m 46 #[.val (.int p0)] [(.int (5 : Int32)), (.int p0)])) _
                  refine XS.icmpNo X0.here hx rfl (hb hby d1_46) rfl (teq hc22).2 ?_
                  show Steps p.tables e below (s₁.setTop (mkF m 49 #[.val (.int p0)] [])) _
                  refine st23 _ ?_
                  exact kt)
              obtain ⟨fs, hr, hrun, hended, hW, hsame⟩ := X23.leave (v := some (.ref w_NO_RECORDS_MATCH_5)) (fun h => by rw [Bd.returns] at h; cases h)
              refine ⟨_, _, pre24 _ ?_, hrun, hended, _, _, rfl, ?_, ⟨_, rfl⟩, hW, hsame.mono (by decide) (by decide)⟩
              · show Steps p.tables e below (T23.setTop (mkF m 52 #[.val (.int p0)] [(.ref w_NO_RECORDS_MATCH_5)])) _
                jvm_step X23.here [X23.here.top, hx, (hb hby d1_52), X23.method', Bd.returns, Value.isRef, FieldType.isReference]
                first | (intro acts; rw [hr _ acts rfl rfl rfl]) | rw [hr _ _ rfl rfl rfl]
                exact Steps.refl _
              · show Q1 Z _ _ _ _ _ _ _ _ h0 n0 _ T23.heap _
                rw [e23]
                exact ⟨⟨_, rfl, Or.inr (Or.inr (Or.inr (Or.inr (Or.inr (Or.inl ⟨hc22.symm, rfl⟩)))))⟩, N0, rfl⟩
            · skip
              obtain ⟨T25, X25, e25, st25⟩ := getS2 X0 hx hZ hown (host := "") (Or.inl (hw _ (List.mem_of_getElem? (i := 20) rfl))) Via.refl e0 Sf_NO_SET_HIERARCHY_7 (g := (mkF m 53 #[.val (.int p0)] [])) rfl (hb hby d1_53)
              have pre26 : ∀ t, Steps p.tables e below (T25.setTop (mkF m 56 #[.val (.int p0)] [(.ref w_NO_SET_HIERARCHY_6)])) t → Steps p.tables e below (s₁.setTop (entryFrame m #[(.int p0)] 1)) t := fun t kt => pre21 t (by
                  show Steps p.tables e below (s₁.setTop (mkF m 46 #[.val (.int p0)] [(.int (5 : Int32)), (.int p0)])) _
                  refine XS.icmpYes X0.here hx rfl (pc0 := 46) (pc' := 53) rfl (hb hby d1_46) rfl (feq hc22).2 (by decide) (by decide) ?_
                  show Steps p.tables e below (s₁.setTop (mkF m 53 #[.val (.int p0)] [])) _
                  refine st25 _ ?_
                  exact kt)
              obtain ⟨fs, hr, hrun, hended, hW, hsame⟩ := X25.leave (v := some (.ref w_NO_SET_HIERARCHY_6)) (fun h => by rw [Bd.returns] at h; cases h)
              refine ⟨_, _, pre26 _ ?_, hrun, hended, _, _, rfl, ?_, ⟨_, rfl⟩, hW, hsame.mono (by decide) (by decide)⟩
              · show Steps p.tables e below (T25.setTop (mkF m 56 #[.val (.int p0)] [(.ref w_NO_SET_HIERARCHY_6)])) _
                jvm_step X25.here [X25.here.top, hx, (hb hby d1_56), X25.method', Bd.returns, Value.isRef, FieldType.isReference]
                first | (intro acts; rw [hr _ acts rfl rfl rfl]) | rw [hr _ _ rfl rfl rfl]
                exact Steps.refl _
              · show Q1 Z _ _ _ _ _ _ _ _ h0 n0 _ T25.heap _
                rw [e25]
                exact ⟨⟨_, rfl, Or.inr (Or.inr (Or.inr (Or.inr (Or.inr (Or.inr (⟨(own_last7 hrg hc2 hc6 hc10 hc14 hc18 hc22), rfl⟩))))))⟩, N0, rfl⟩
theorem pn_1 : plainName "cartouche/oai/OaiException$Code" = true := by first | (simp [plainName, overriddenIn]; done) | decide +kernel
theorem d2_0 : decode prog_126_method_5_code 0 = .ok (.aload_n 0, 1) := by decide +kernel
theorem d2_1 : decode prog_126_method_5_code 1 = .ok (.getstatic 10, 3) := by decide +kernel
theorem d2_4 : decode prog_126_method_5_code 4 = .ok (.if_acmp .eq 14, 3) := by decide +kernel
theorem d2_7 : decode prog_126_method_5_code 7 = .ok (.aload_n 0, 1) := by decide +kernel
theorem d2_8 : decode prog_126_method_5_code 8 = .ok (.getstatic 3, 3) := by decide +kernel
theorem d2_11 : decode prog_126_method_5_code 11 = .ok (.if_acmp .eq 7, 3) := by decide +kernel
theorem d2_14 : decode prog_126_method_5_code 14 = .ok (.iconst 1, 1) := by decide +kernel
theorem d2_15 : decode prog_126_method_5_code 15 = .ok (.goto 4, 3) := by decide +kernel
theorem d2_18 : decode prog_126_method_5_code 18 = .ok (.iconst 0, 1) := by decide +kernel
theorem d2_19 : decode prog_126_method_5_code 19 = .ok (.ireturn, 1) := by decide +kernel
theorem ef_2 (m : MethodId) (x0 : Addr)  : entryFrame m #[(.ref x0)] 1 = mkF m 0 #[.val (.ref x0)] [] := by first | (simp [entryFrame, mkF, argsToLocals, Value.category]; done) | rfl
def Q2 (Z : State) (a0 : Addr) (w_BAD_VERB_0 : Addr) (w_BAD_ARGUMENT_1 : Addr) (h0 : Heap) (n0 : Nat) (v : Option Value) (h : Heap) (L : List Loc) : Prop := (∃ r : Int32, v = some (.int r) ∧ (((a0 = w_BAD_VERB_0 ∨ a0 = w_BAD_ARGUMENT_1) → (0 : Int32) = r) ∧ (¬ a0 = w_BAD_VERB_0 → ¬ a0 = w_BAD_ARGUMENT_1 → (1 : Int32) = r))) ∧ Fr n0 L ∧ h = h0
set_option maxRecDepth 65536 in
set_option maxHeartbeats 40000000 in
theorem rm2 (l : Launch) (Z : State) (aw : Array Value) (hw : ∀ d ∈ tables_1, d.before aw Z = true) (ws : List Jvm.Cond) (a0 : Addr) (w_BAD_VERB_0 : Addr) (w_BAD_ARGUMENT_1 : Addr) (h0 : Heap) (n0 : Nat) (Z0 : n0 ≤ h0.size) (Sf_BAD_VERB_0 : Sta Z h0 "cartouche/oai/OaiException$Code" "BAD_VERB" "Lcartouche/oai/OaiException$Code;" (.ref w_BAD_VERB_0)) (Sf_BAD_ARGUMENT_1 : Sta Z h0 "cartouche/oai/OaiException$Code" "BAD_ARGUMENT" "Lcartouche/oai/OaiException$Code;" (.ref w_BAD_ARGUMENT_1)) :
    MetFree l (⟨"cartouche/oai/OaiException$Code", "repeatsArguments", "()Z"⟩ : MethodName) (head1 (Jvm.Cond.code (⟨"cartouche/oai/OaiException$Code", "repeatsArguments", "()Z"⟩ : MethodName) prog_126_method_5_code 1 (some .boolean) :: ws) ({ frames := 0, cells := 0, slots := 0, locals := 0 } : Room)) (fun a U => a = #[(.ref a0)] ∧ Z.Warmed39 U.vm ∧ U.heap = h0) (fun _ _ _ _ _ => True) (fun _ U o U' => ∃ v L, o = .returned v ∧ Q2 Z a0 w_BAD_VERB_0 w_BAD_ARGUMENT_1 h0 n0 v U'.heap L ∧ FrameEnd U o U' L ({ frames := 0, cells := 0, slots := 0, locals := 0 } : Room).cells ({ frames := 0, cells := 0, slots := 0, locals := 0 } : Room).slots) := by
  refine MetFree.of_bodySF (plainFor_of_name pn_1) hisR ?_
  intro p e s m args below meth c s₁ Bd hml0 hP hK
  obtain ⟨rfl, hZ, hh⟩ := hP
  have hx := Bd.exec
  have hby := Bd.bytes
  have hml : c.maxLocals = 1 := hml0
  have hown : s.vm.findClass "cartouche/oai/OaiException$Code" = some m.cls := findClass_of_methodNamed Bd.named
  have hnm := (name_of_methodNamed Bd.named Bd.method).1
  have X0 : Stand p l e ({ frames := 0, cells := 0, slots := 0, locals := 0 } : Room) s m #[(.ref a0)] below meth c s₁ [] 0 0 := Stand.of_body Bd
  have e0 : s₁.heap = h0 := by rw [← hh, Bd.state]; rfl
  have N0 := Fr.nil n0
  have pre0 : ∀ t, Steps p.tables e below (s₁.setTop (mkF m 0 #[.val (.ref a0)] [])) t → Steps p.tables e below (s₁.setTop (entryFrame m #[(.ref a0)] 1)) t := fun t k => castTop (ef_2 m a0 ) k
  obtain ⟨T1, X1, e1, st1⟩ := getS2 X0 hx hZ hown (host := "") (Or.inl (hw _ (List.mem_of_getElem? (i := 13) rfl))) Via.refl e0 Sf_BAD_VERB_0 (g := (mkF m 1 #[.val (.ref a0)] [(.ref a0)])) rfl (hb hby d2_1)
  have pre2 : ∀ t, Steps p.tables e below (T1.setTop (mkF m 4 #[.val (.ref a0)] [(.ref w_BAD_VERB_0), (.ref a0)])) t → Steps p.tables e below (s₁.setTop (entryFrame m #[(.ref a0)] 1)) t := fun t kt => pre0 t (by
      show Steps p.tables e below (s₁.setTop (mkF m 0 #[.val (.ref a0)] [])) _
      refine XS.aloadN X0.here hx rfl (hb hby d2_0) rfl rfl ?_
      show Steps p.tables e below (s₁.setTop (mkF m 1 #[.val (.ref a0)] [(.ref a0)])) _
      refine st1 _ ?_
      exact kt)
  by_cases hc3 : a0 = w_BAD_VERB_0
  · skip
    have pre4 : ∀ t, Steps p.tables e below (T1.setTop (mkF m 19 #[.val (.ref a0)] [(.int (0 : Int32))])) t → Steps p.tables e below (s₁.setTop (entryFrame m #[(.ref a0)] 1)) t := fun t kt => pre2 t (by
        show Steps p.tables e below (T1.setTop (mkF m 4 #[.val (.ref a0)] [(.ref w_BAD_VERB_0), (.ref a0)])) _
        refine Jvm.RoadKit.acmp (g := (mkF m 4 #[.val (.ref a0)] [(.ref w_BAD_VERB_0), (.ref a0)])) X1 hx rfl rfl rfl (pc0 := 4) (pc' := 18) (same := true) rfl (hb hby d2_4) rfl (decide_eq_true (congrArg Value.ref hc3)) (by decide) (by decide) ?_
        show Steps p.tables e below (T1.setTop (mkF m 18 #[.val (.ref a0)] [])) _
        refine XS.iconst X1.here hx rfl (hb hby d2_18) ?_
        exact kt)
    obtain ⟨fs, hr, hrun, hended, hW, hsame⟩ := X1.leave (v := some (.int (0 : Int32))) (fun h => by rw [Bd.returns] at h; cases h)
    refine ⟨_, _, pre4 _ ?_, hrun, hended, _, _, rfl, ?_, ⟨_, rfl⟩, hW, hsame.mono (by decide) (by decide)⟩
    · show Steps p.tables e below (T1.setTop (mkF m 19 #[.val (.ref a0)] [(.int (0 : Int32))])) _
      exact retN X1 hx (t := .boolean) Bd.returns (by simp) (hb hby d2_19) hr
    · show Q2 Z _ _ _ h0 n0 _ T1.heap _
      rw [e1]
      exact ⟨⟨_, rfl, by simp [hc3]⟩, N0, rfl⟩
  · skip
    obtain ⟨T5, X5, e5, st5⟩ := getS2 X1 hx hZ hown (host := "") (Or.inl (hw _ (List.mem_of_getElem? (i := 15) rfl))) Via.refl e1 Sf_BAD_ARGUMENT_1 (g := (mkF m 8 #[.val (.ref a0)] [(.ref a0)])) rfl (hb hby d2_8)
    have pre6 : ∀ t, Steps p.tables e below (T5.setTop (mkF m 11 #[.val (.ref a0)] [(.ref w_BAD_ARGUMENT_1), (.ref a0)])) t → Steps p.tables e below (s₁.setTop (entryFrame m #[(.ref a0)] 1)) t := fun t kt => pre2 t (by
        show Steps p.tables e below (T1.setTop (mkF m 4 #[.val (.ref a0)] [(.ref w_BAD_VERB_0), (.ref a0)])) _
        refine Jvm.RoadKit.acmp (g := (mkF m 4 #[.val (.ref a0)] [(.ref w_BAD_VERB_0), (.ref a0)])) X1 hx rfl rfl rfl (pc0 := 4) (pc' := 7) (same := false) rfl (hb hby d2_4) rfl (decide_eq_false fun q => hc3 (Value.ref.inj q)) (by decide) (by decide) ?_
        show Steps p.tables e below (T1.setTop (mkF m 7 #[.val (.ref a0)] [])) _
        refine XS.aloadN X1.here hx rfl (hb hby d2_7) rfl rfl ?_
        show Steps p.tables e below (T1.setTop (mkF m 8 #[.val (.ref a0)] [(.ref a0)])) _
        refine st5 _ ?_
        exact kt)
    by_cases hc7 : a0 = w_BAD_ARGUMENT_1
    · skip
      have pre8 : ∀ t, Steps p.tables e below (T5.setTop (mkF m 19 #[.val (.ref a0)] [(.int (0 : Int32))])) t → Steps p.tables e below (s₁.setTop (entryFrame m #[(.ref a0)] 1)) t := fun t kt => pre6 t (by
          show Steps p.tables e below (T5.setTop (mkF m 11 #[.val (.ref a0)] [(.ref w_BAD_ARGUMENT_1), (.ref a0)])) _
          refine Jvm.RoadKit.acmp (g := (mkF m 11 #[.val (.ref a0)] [(.ref w_BAD_ARGUMENT_1), (.ref a0)])) X5 hx rfl rfl rfl (pc0 := 11) (pc' := 18) (same := true) rfl (hb hby d2_11) rfl (decide_eq_true (congrArg Value.ref hc7)) (by decide) (by decide) ?_
          show Steps p.tables e below (T5.setTop (mkF m 18 #[.val (.ref a0)] [])) _
          refine XS.iconst X5.here hx rfl (hb hby d2_18) ?_
          exact kt)
      obtain ⟨fs, hr, hrun, hended, hW, hsame⟩ := X5.leave (v := some (.int (0 : Int32))) (fun h => by rw [Bd.returns] at h; cases h)
      refine ⟨_, _, pre8 _ ?_, hrun, hended, _, _, rfl, ?_, ⟨_, rfl⟩, hW, hsame.mono (by decide) (by decide)⟩
      · show Steps p.tables e below (T5.setTop (mkF m 19 #[.val (.ref a0)] [(.int (0 : Int32))])) _
        exact retN X5 hx (t := .boolean) Bd.returns (by simp) (hb hby d2_19) hr
      · show Q2 Z _ _ _ h0 n0 _ T5.heap _
        rw [e5]
        exact ⟨⟨_, rfl, by simp [hc3, hc7]⟩, N0, rfl⟩
    · skip
      have pre9 : ∀ t, Steps p.tables e below (T5.setTop (mkF m 19 #[.val (.ref a0)] [(.int (1 : Int32))])) t → Steps p.tables e below (s₁.setTop (entryFrame m #[(.ref a0)] 1)) t := fun t kt => pre6 t (by
          show Steps p.tables e below (T5.setTop (mkF m 11 #[.val (.ref a0)] [(.ref w_BAD_ARGUMENT_1), (.ref a0)])) _
          refine Jvm.RoadKit.acmp (g := (mkF m 11 #[.val (.ref a0)] [(.ref w_BAD_ARGUMENT_1), (.ref a0)])) X5 hx rfl rfl rfl (pc0 := 11) (pc' := 14) (same := false) rfl (hb hby d2_11) rfl (decide_eq_false fun q => hc7 (Value.ref.inj q)) (by decide) (by decide) ?_
          show Steps p.tables e below (T5.setTop (mkF m 14 #[.val (.ref a0)] [])) _
          refine XS.iconst X5.here hx rfl (hb hby d2_14) ?_
          show Steps p.tables e below (T5.setTop (mkF m 15 #[.val (.ref a0)] [(.int (1 : Int32))])) _
          refine XS.goto X5.here hx rfl (pc0 := 15) (pc' := 19) rfl (hb hby d2_15) (by decide) (by decide) ?_
          exact kt)
      obtain ⟨fs, hr, hrun, hended, hW, hsame⟩ := X5.leave (v := some (.int (1 : Int32))) (fun h => by rw [Bd.returns] at h; cases h)
      refine ⟨_, _, pre9 _ ?_, hrun, hended, _, _, rfl, ?_, ⟨_, rfl⟩, hW, hsame.mono (by decide) (by decide)⟩
      · show Steps p.tables e below (T5.setTop (mkF m 19 #[.val (.ref a0)] [(.int (1 : Int32))])) _
        exact retN X5 hx (t := .boolean) Bd.returns (by simp) (hb hby d2_19) hr
      · show Q2 Z _ _ _ h0 n0 _ T5.heap _
        rw [e5]
        exact ⟨⟨_, rfl, by simp [hc3, hc7]⟩, N0, rfl⟩
theorem pd_0 : parseMethodDescriptor "(I)Lcartouche/oai/OaiException$Code;" = some ⟨[.int], some (.object "cartouche/oai/OaiException$Code")⟩ := by decide +kernel
theorem pd_1 : parseMethodDescriptor "()Z" = some ⟨[], some .boolean⟩ := by decide +kernel
theorem ef_0 (m : MethodId) (x0 : Int32)  : entryFrame m #[(.int x0)] maxLocals = mkF m 0 #[.val (.int x0), .unset, .unset, .unset] [] := by first | (simp [entryFrame, mkF, argsToLocals, Value.category, maxLocals]; done) | rfl
def Q0 (Z : State) (p0 : Int32) (w_BAD_ARGUMENT_1 : Addr) (w_BAD_VERB_3 : Addr) (w_CANNOT_DISSEMINATE_FORMAT_5 : Addr) (w_NO_RECORDS_MATCH_7 : Addr) (w_NO_SET_HIERARCHY_9 : Addr) (w_ID_DOES_NOT_EXIST_11 : Addr) (w_BAD_RESUMPTION_TOKEN_13 : Addr) (h0 : Heap) (n0 : Nat) (v : Option Value) (h : Heap) (L : List Loc) : Prop := v = some (.int (1 : Int32)) ∧ Fr n0 L ∧ h = h0
set_option maxRecDepth 65536 in
set_option maxHeartbeats 40000000 in
theorem rm0 (l : Launch) (Z : State) (aw : Array Value) (hw : ∀ d ∈ tables_1, d.before aw Z = true) (ws : List Jvm.Cond) (p0 : Int32) (w_BAD_ARGUMENT_1 : Addr) (w_BAD_VERB_3 : Addr) (w_CANNOT_DISSEMINATE_FORMAT_5 : Addr) (w_NO_RECORDS_MATCH_7 : Addr) (w_NO_SET_HIERARCHY_9 : Addr) (w_ID_DOES_NOT_EXIST_11 : Addr) (w_BAD_RESUMPTION_TOKEN_13 : Addr) (h0 : Heap) (n0 : Nat) (Z0 : n0 ≤ h0.size) (S_BAD_ARGUMENT_0 : Sta Z h0 "cartouche/oai/OaiException$Code" "BAD_ARGUMENT" "Lcartouche/oai/OaiException$Code;" (.ref w_BAD_ARGUMENT_1)) (E_1 : Exa Z h0 w_BAD_ARGUMENT_1 "cartouche/oai/OaiException$Code") (S_BAD_VERB_2 : Sta Z h0 "cartouche/oai/OaiException$Code" "BAD_VERB" "Lcartouche/oai/OaiException$Code;" (.ref w_BAD_VERB_3)) (E_3 : Exa Z h0 w_BAD_VERB_3 "cartouche/oai/OaiException$Code") (F_ordinal_4 : Fld Z h0 w_BAD_ARGUMENT_1 "java/lang/Enum" "ordinal" "I" (.int (0 : Int32))) (F_ordinal_5 : Fld Z h0 w_BAD_VERB_3 "java/lang/Enum" "ordinal" "I" (.int (2 : Int32))) (S_CANNOT_DISSEMINATE_FORMAT_6 : Sta Z h0 "cartouche/oai/OaiException$Code" "CANNOT_DISSEMINATE_FORMAT" "Lcartouche/oai/OaiException$Code;" (.ref w_CANNOT_DISSEMINATE_FORMAT_5)) (E_7 : Exa Z h0 w_CANNOT_DISSEMINATE_FORMAT_5 "cartouche/oai/OaiException$Code") (F_ordinal_8 : Fld Z h0 w_CANNOT_DISSEMINATE_FORMAT_5 "java/lang/Enum" "ordinal" "I" (.int (3 : Int32))) (S_NO_RECORDS_MATCH_9 : Sta Z h0 "cartouche/oai/OaiException$Code" "NO_RECORDS_MATCH" "Lcartouche/oai/OaiException$Code;" (.ref w_NO_RECORDS_MATCH_7)) (E_10 : Exa Z h0 w_NO_RECORDS_MATCH_7 "cartouche/oai/OaiException$Code") (F_ordinal_11 : Fld Z h0 w_NO_RECORDS_MATCH_7 "java/lang/Enum" "ordinal" "I" (.int (5 : Int32))) (S_NO_SET_HIERARCHY_12 : Sta Z h0 "cartouche/oai/OaiException$Code" "NO_SET_HIERARCHY" "Lcartouche/oai/OaiException$Code;" (.ref w_NO_SET_HIERARCHY_9)) (E_13 : Exa Z h0 w_NO_SET_HIERARCHY_9 "cartouche/oai/OaiException$Code") (F_ordinal_14 : Fld Z h0 w_NO_SET_HIERARCHY_9 "java/lang/Enum" "ordinal" "I" (.int (6 : Int32))) (S_ID_DOES_NOT_EXIST_15 : Sta Z h0 "cartouche/oai/OaiException$Code" "ID_DOES_NOT_EXIST" "Lcartouche/oai/OaiException$Code;" (.ref w_ID_DOES_NOT_EXIST_11)) (E_16 : Exa Z h0 w_ID_DOES_NOT_EXIST_11 "cartouche/oai/OaiException$Code") (F_ordinal_17 : Fld Z h0 w_ID_DOES_NOT_EXIST_11 "java/lang/Enum" "ordinal" "I" (.int (4 : Int32))) (S_BAD_RESUMPTION_TOKEN_18 : Sta Z h0 "cartouche/oai/OaiException$Code" "BAD_RESUMPTION_TOKEN" "Lcartouche/oai/OaiException$Code;" (.ref w_BAD_RESUMPTION_TOKEN_13)) (E_19 : Exa Z h0 w_BAD_RESUMPTION_TOKEN_13 "cartouche/oai/OaiException$Code") (F_ordinal_20 : Fld Z h0 w_BAD_RESUMPTION_TOKEN_13 "java/lang/Enum" "ordinal" "I" (.int (1 : Int32))) :
    MetFree l x (head1 (Jvm.Cond.code x code maxLocals ret :: ws) room_1) (fun a U => a = #[(.int p0)] ∧ Z.Warmed39 U.vm ∧ U.heap = h0) (fun _ _ _ _ _ => True) (fun _ U o U' => ∃ v L, o = .returned v ∧ Q0 Z p0 w_BAD_ARGUMENT_1 w_BAD_VERB_3 w_CANNOT_DISSEMINATE_FORMAT_5 w_NO_RECORDS_MATCH_7 w_NO_SET_HIERARCHY_9 w_ID_DOES_NOT_EXIST_11 w_BAD_RESUMPTION_TOKEN_13 h0 n0 v U'.heap L ∧ FrameEnd U o U' L room_1.cells room_1.slots) := by
  refine MetFree.of_bodySF (plainFor_of_name pn_0) hisR ?_
  intro p e s m args below meth c s₁ Bd hml0 hP hK
  obtain ⟨rfl, hZ, hh⟩ := hP
  have hx := Bd.exec
  have hby := Bd.bytes
  have hml : c.maxLocals = 4 := hml0
  have hown : s.vm.findClass "cartouche/oai/CodeRepeatsArgumentsPinLaw" = some m.cls := findClass_of_methodNamed Bd.named
  have hnm := (name_of_methodNamed Bd.named Bd.method).1
  have X0 : Stand p l e room_1 s m #[(.int p0)] below meth c s₁ [] 0 0 := Stand.of_body Bd
  have e0 : s₁.heap = h0 := by rw [← hh, Bd.state]; rfl
  have N0 := Fr.nil n0
  have pre0 : ∀ t, Steps p.tables e below (s₁.setTop (mkF m 0 #[.val (.int p0), .unset, .unset, .unset] [])) t → Steps p.tables e below (s₁.setTop (entryFrame m #[(.int p0)] maxLocals)) t := fun t k => castTop (ef_0 m p0 ) k
  obtain ⟨_, _, ⟨T1, L1, k1, n1⟩, -, X1, ⟨Lc1, hQ1, l1, y1, z1⟩, st1⟩ := Jvm.LawKit.callS X0 hx (y := (⟨"cartouche/oai/CodeRepeatsArgumentsPinLaw", "pick", "(I)Lcartouche/oai/OaiException$Code;"⟩ : MethodName)) hown (mvT hZ (hw _ (List.mem_of_getElem? (i := 1) rfl))) (mvT hZ (hw _ (List.mem_of_getElem? (i := 2) rfl))) (mvT hZ (hw _ (List.mem_of_getElem? (i := 3) rfl))) (mvT hZ (hw _ (List.mem_of_getElem? (i := 4) rfl))) (by decide) (backOf (W := 0) (rm1 l Z aw hw [] ((p0 &&& (2147483647 : Int32)) % (7 : Int32)) w_BAD_ARGUMENT_1 w_BAD_RESUMPTION_TOKEN_13 w_BAD_VERB_3 w_CANNOT_DISSEMINATE_FORMAT_5 w_ID_DOES_NOT_EXIST_11 w_NO_RECORDS_MATCH_7 w_NO_SET_HIERARCHY_9 h0 n0 Z0 (own_rng _ _ 7 rfl (by decide)) S_BAD_ARGUMENT_0 S_BAD_RESUMPTION_TOKEN_18 S_BAD_VERB_2 S_CANNOT_DISSEMINATE_FORMAT_6 S_ID_DOES_NOT_EXIST_15 S_NO_RECORDS_MATCH_9 S_NO_SET_HIERARCHY_12) hZ (hw _ (List.mem_of_getElem? (i := 4) rfl)) (hw _ (List.mem_of_getElem? (i := 3) rfl)) (by decide) (by decide)) (g := (mkF m 9 #[.val (.int p0), .val (.int ((p0 &&& (2147483647 : Int32)) % (7 : Int32))), .unset, .unset] [(.int ((p0 &&& (2147483647 : Int32)) % (7 : Int32)))])) rfl (by rw [hml]; rfl) (argsL := [(.int ((p0 &&& (2147483647 : Int32)) % (7 : Int32)))]) (rest := []) (lenOf pd_0 rfl) rfl (by show 2 * 0 + _ ≤ _; exact Nat.le_of_eq rfl) (hb hby at_9) (fun _ _ => ⟨rfl, e0, (by decide : 0 + 0 ≤ _), (by decide : 0 + 0 ≤ _)⟩)
  dsimp only [Pt.U, Pt.locs, Pt.cells, Pt.slots] at X1 l1 y1 z1 st1 hQ1
  subst l1 y1 z1
  obtain ⟨⟨r2, rfl, Pr2⟩, Nq1, e1⟩ := hQ1
  have N1 := Fr.app N0 Nq1
  have pre3 : ∀ t, Steps p.tables e below (T1.setTop (mkF m 12 #[.val (.int p0), .val (.int ((p0 &&& (2147483647 : Int32)) % (7 : Int32))), .unset, .unset] [(.ref r2)])) t → Steps p.tables e below (s₁.setTop (entryFrame m #[(.int p0)] maxLocals)) t := fun t kt => pre0 t (by
      show Steps p.tables e below (s₁.setTop (mkF m 0 #[.val (.int p0), .unset, .unset, .unset] [])) _
      refine XS.iloadN X0.here hx rfl (hb hby at_0) rfl ?_
      show Steps p.tables e below (s₁.setTop (mkF m 1 #[.val (.int p0), .unset, .unset, .unset] [(.int p0)])) _
      refine X0.ldcInt hx hown (mvT hZ (hw _ (List.mem_of_getElem? (i := 0) rfl))) (g := (mkF m 1 #[.val (.int p0), .unset, .unset, .unset] [(.int p0)])) rfl (hb hby at_1) _ ?_
      show Steps p.tables e below (s₁.setTop (mkF m 3 #[.val (.int p0), .unset, .unset, .unset] [(.int (2147483647 : Int32)), (.int p0)])) _
      refine XS.iand X0.here hx rfl (hb hby at_3) rfl ?_
      show Steps p.tables e below (s₁.setTop (mkF m 4 #[.val (.int p0), .unset, .unset, .unset] [(.int (p0 &&& (2147483647 : Int32)))])) _
      refine XS.bipush X0.here hx rfl (hb hby at_4) ?_
      show Steps p.tables e below (s₁.setTop (mkF m 6 #[.val (.int p0), .unset, .unset, .unset] [(.int (7 : Int32)), (.int (p0 &&& (2147483647 : Int32)))])) _
      refine iremM X0 hx rfl (hb hby at_6) rfl (by decide) ?_
      show Steps p.tables e below (s₁.setTop (mkF m 7 #[.val (.int p0), .unset, .unset, .unset] [(.int ((p0 &&& (2147483647 : Int32)) % (7 : Int32)))])) _
      refine XS.istoreN X0.here hx rfl (hb hby at_7) rfl (l' := #[.val (.int p0), .val (.int ((p0 &&& (2147483647 : Int32)) % (7 : Int32))), .unset, .unset]) rfl ?_
      show Steps p.tables e below (s₁.setTop (mkF m 8 #[.val (.int p0), .val (.int ((p0 &&& (2147483647 : Int32)) % (7 : Int32))), .unset, .unset] [])) _
      refine XS.iloadN X0.here hx rfl (hb hby at_8) rfl ?_
      show Steps p.tables e below (s₁.setTop (mkF m 9 #[.val (.int p0), .val (.int ((p0 &&& (2147483647 : Int32)) % (7 : Int32))), .unset, .unset] [(.int ((p0 &&& (2147483647 : Int32)) % (7 : Int32)))])) _
      refine st1 _ ?_
      exact kt)
  obtain ⟨i, hi⟩ : ∃ z, z = ((p0 &&& (2147483647 : Int32)) % (7 : Int32)) := ⟨_, rfl⟩
  rw [← hi] at pre3 Pr2
  rcases Pr2 with ⟨rfl, rfl⟩ | ⟨rfl, rfl⟩ | ⟨rfl, rfl⟩ | ⟨rfl, rfl⟩ | ⟨rfl, rfl⟩ | ⟨rfl, rfl⟩ | ⟨rfl, rfl⟩
  · skip
    obtain ⟨cq4, kq4, q4a, q4b, q4c⟩ := isOf hZ e1 E_1
    obtain ⟨_, _, ⟨T4, L4, k4, n4⟩, -, X4, ⟨Lc4, hQ4, l4, y4, z4⟩, st4⟩ := X1.virtualBack hx (y := (⟨"cartouche/oai/OaiException$Code", "repeatsArguments", "()Z"⟩ : MethodName)) (z := (⟨"cartouche/oai/OaiException$Code", "repeatsArguments", "()Z"⟩ : MethodName)) hown (mvT hZ (hw _ (List.mem_of_getElem? (i := 8) rfl))) (mvT hZ (hw _ (List.mem_of_getElem? (i := 9) rfl))) (notFace_of_selects (args := #[]) (mvT hZ (hw _ (List.mem_of_getElem? (i := 11) rfl)))) (mvT hZ (hw _ (List.mem_of_getElem? (i := 11) rfl))) (mvT hZ (hw _ (List.mem_of_getElem? (i := 10) rfl))) (by decide) (backOf (W := 0) (rm2 l Z aw hw [] w_BAD_ARGUMENT_1 w_BAD_VERB_3 w_BAD_ARGUMENT_1 h0 n0 Z0 S_BAD_VERB_2 S_BAD_ARGUMENT_0) hZ (hw _ (List.mem_of_getElem? (i := 12) rfl)) (hw _ (List.mem_of_getElem? (i := 6) rfl)) (by decide) (by decide)) q4a q4c (g := (mkF m 29 #[.val (.int p0), .val (.int (0 : Int32)), .val (.ref w_BAD_ARGUMENT_1), .val (.int (0 : Int32))] [(.ref w_BAD_ARGUMENT_1)])) rfl (by rw [hml]; rfl) (Steps.refl _) (argsL := []) (rest := []) (lenOf pd_1 rfl) rfl (by show 2 * 0 + _ ≤ _; exact Nat.le_of_eq rfl) (hb hby at_29) (fun _ _ => ⟨rfl, e1, (by decide : 0 + 0 ≤ _), (by decide : 0 + 0 ≤ _)⟩)
    dsimp only [Pt.U, Pt.locs, Pt.cells, Pt.slots] at X4 l4 y4 z4 st4 hQ4
    subst l4 y4 z4
    obtain ⟨⟨r5, rfl, Pr5⟩, Nq4, e4⟩ := hQ4
    have N4 := Fr.app N1 Nq4
    have pre6 : ∀ t, Steps p.tables e below (T4.setTop (mkF m 32 #[.val (.int p0), .val (.int (0 : Int32)), .val (.ref w_BAD_ARGUMENT_1), .val (.int (0 : Int32))] [(.int r5)])) t → Steps p.tables e below (s₁.setTop (entryFrame m #[(.int p0)] maxLocals)) t := fun t kt => pre3 t (by
        show Steps p.tables e below (T1.setTop (mkF m 12 #[.val (.int p0), .val (.int (0 : Int32)), .unset, .unset] [(.ref w_BAD_ARGUMENT_1)])) _
        refine XS.astoreN X1.here hx rfl (hb hby at_12) rfl rfl (l' := #[.val (.int p0), .val (.int (0 : Int32)), .val (.ref w_BAD_ARGUMENT_1), .unset]) rfl ?_
        show Steps p.tables e below (T1.setTop (mkF m 13 #[.val (.int p0), .val (.int (0 : Int32)), .val (.ref w_BAD_ARGUMENT_1), .unset] [])) _
        refine XS.iloadN X1.here hx rfl (hb hby at_13) rfl ?_
        show Steps p.tables e below (T1.setTop (mkF m 14 #[.val (.int p0), .val (.int (0 : Int32)), .val (.ref w_BAD_ARGUMENT_1), .unset] [(.int (0 : Int32))])) _
        refine XS.ifYes X1.here hx rfl (pc0 := 14) (pc' := 26) rfl (hb hby at_14) rfl ((if0 _ _).trans (teq (rfl : (0 : Int32) = (0 : Int32))).1) (by decide) (by decide) ?_
        show Steps p.tables e below (T1.setTop (mkF m 26 #[.val (.int p0), .val (.int (0 : Int32)), .val (.ref w_BAD_ARGUMENT_1), .unset] [])) _
        refine XS.iconst X1.here hx rfl (hb hby at_26) ?_
        show Steps p.tables e below (T1.setTop (mkF m 27 #[.val (.int p0), .val (.int (0 : Int32)), .val (.ref w_BAD_ARGUMENT_1), .unset] [(.int (0 : Int32))])) _
        refine XS.istoreN X1.here hx rfl (hb hby at_27) rfl (l' := #[.val (.int p0), .val (.int (0 : Int32)), .val (.ref w_BAD_ARGUMENT_1), .val (.int (0 : Int32))]) rfl ?_
        show Steps p.tables e below (T1.setTop (mkF m 28 #[.val (.int p0), .val (.int (0 : Int32)), .val (.ref w_BAD_ARGUMENT_1), .val (.int (0 : Int32))] [])) _
        refine XS.aloadN X1.here hx rfl (hb hby at_28) rfl rfl ?_
        show Steps p.tables e below (T1.setTop (mkF m 29 #[.val (.int p0), .val (.int (0 : Int32)), .val (.ref w_BAD_ARGUMENT_1), .val (.int (0 : Int32))] [(.ref w_BAD_ARGUMENT_1)])) _
        refine st4.trans ?_
        exact kt)
    obtain rfl : (0 : Int32) = r5 := Pr5.1 (Or.inr rfl)
    have pre7 : ∀ t, Steps p.tables e below (T4.setTop (mkF m 41 #[.val (.int p0), .val (.int (0 : Int32)), .val (.ref w_BAD_ARGUMENT_1), .val (.int (0 : Int32))] [(.int (1 : Int32))])) t → Steps p.tables e below (s₁.setTop (entryFrame m #[(.int p0)] maxLocals)) t := fun t kt => pre6 t (by
        show Steps p.tables e below (T4.setTop (mkF m 32 #[.val (.int p0), .val (.int (0 : Int32)), .val (.ref w_BAD_ARGUMENT_1), .val (.int (0 : Int32))] [(.int (0 : Int32))])) _
        refine XS.iloadN X4.here hx rfl (hb hby at_32) rfl ?_
        show Steps p.tables e below (T4.setTop (mkF m 33 #[.val (.int p0), .val (.int (0 : Int32)), .val (.ref w_BAD_ARGUMENT_1), .val (.int (0 : Int32))] [(.int (0 : Int32)), (.int (0 : Int32))])) _
        refine XS.icmpNo X4.here hx rfl (hb hby at_33) rfl (teq (rfl : (0 : Int32) = (0 : Int32))).2 ?_
        show Steps p.tables e below (T4.setTop (mkF m 36 #[.val (.int p0), .val (.int (0 : Int32)), .val (.ref w_BAD_ARGUMENT_1), .val (.int (0 : Int32))] [])) _
        refine XS.iconst X4.here hx rfl (hb hby at_36) ?_
        show Steps p.tables e below (T4.setTop (mkF m 37 #[.val (.int p0), .val (.int (0 : Int32)), .val (.ref w_BAD_ARGUMENT_1), .val (.int (0 : Int32))] [(.int (1 : Int32))])) _
        refine XS.goto X4.here hx rfl (pc0 := 37) (pc' := 41) rfl (hb hby at_37) (by decide) (by decide) ?_
        exact kt)
    obtain ⟨fs, hr, hrun, hended, hW, hsame⟩ := X4.leave (v := some (.int (1 : Int32))) (fun h => by rw [Bd.returns] at h; cases h)
    refine ⟨_, _, pre7 _ ?_, hrun, hended, _, _, rfl, ?_, ⟨_, rfl⟩, hW, hsame.mono (by decide) (by decide)⟩
    · show Steps p.tables e below (T4.setTop (mkF m 41 #[.val (.int p0), .val (.int (0 : Int32)), .val (.ref w_BAD_ARGUMENT_1), .val (.int (0 : Int32))] [(.int (1 : Int32))])) _
      exact retN X4 hx (t := .boolean) Bd.returns (by simp) (hb hby at_41) hr
    · show Q0 Z _ _ _ _ _ _ _ _ h0 n0 _ T4.heap _
      rw [e4]
      exact ⟨rfl, N4, rfl⟩
  · skip
    obtain ⟨cq8, kq8, q8a, q8b, q8c⟩ := isOf hZ e1 E_19
    obtain ⟨_, _, ⟨T8, L8, k8, n8⟩, -, X8, ⟨Lc8, hQ8, l8, y8, z8⟩, st8⟩ := X1.virtualBack hx (y := (⟨"cartouche/oai/OaiException$Code", "repeatsArguments", "()Z"⟩ : MethodName)) (z := (⟨"cartouche/oai/OaiException$Code", "repeatsArguments", "()Z"⟩ : MethodName)) hown (mvT hZ (hw _ (List.mem_of_getElem? (i := 8) rfl))) (mvT hZ (hw _ (List.mem_of_getElem? (i := 9) rfl))) (notFace_of_selects (args := #[]) (mvT hZ (hw _ (List.mem_of_getElem? (i := 11) rfl)))) (mvT hZ (hw _ (List.mem_of_getElem? (i := 11) rfl))) (mvT hZ (hw _ (List.mem_of_getElem? (i := 10) rfl))) (by decide) (backOf (W := 0) (rm2 l Z aw hw [] w_BAD_RESUMPTION_TOKEN_13 w_BAD_VERB_3 w_BAD_ARGUMENT_1 h0 n0 Z0 S_BAD_VERB_2 S_BAD_ARGUMENT_0) hZ (hw _ (List.mem_of_getElem? (i := 12) rfl)) (hw _ (List.mem_of_getElem? (i := 6) rfl)) (by decide) (by decide)) q8a q8c (g := (mkF m 29 #[.val (.int p0), .val (.int (1 : Int32)), .val (.ref w_BAD_RESUMPTION_TOKEN_13), .val (.int (1 : Int32))] [(.ref w_BAD_RESUMPTION_TOKEN_13)])) rfl (by rw [hml]; rfl) (Steps.refl _) (argsL := []) (rest := []) (lenOf pd_1 rfl) rfl (by show 2 * 0 + _ ≤ _; exact Nat.le_of_eq rfl) (hb hby at_29) (fun _ _ => ⟨rfl, e1, (by decide : 0 + 0 ≤ _), (by decide : 0 + 0 ≤ _)⟩)
    dsimp only [Pt.U, Pt.locs, Pt.cells, Pt.slots] at X8 l8 y8 z8 st8 hQ8
    subst l8 y8 z8
    obtain ⟨⟨r9, rfl, Pr9⟩, Nq8, e8⟩ := hQ8
    have N8 := Fr.app N1 Nq8
    have pre10 : ∀ t, Steps p.tables e below (T8.setTop (mkF m 32 #[.val (.int p0), .val (.int (1 : Int32)), .val (.ref w_BAD_RESUMPTION_TOKEN_13), .val (.int (1 : Int32))] [(.int r9)])) t → Steps p.tables e below (s₁.setTop (entryFrame m #[(.int p0)] maxLocals)) t := fun t kt => pre3 t (by
        show Steps p.tables e below (T1.setTop (mkF m 12 #[.val (.int p0), .val (.int (1 : Int32)), .unset, .unset] [(.ref w_BAD_RESUMPTION_TOKEN_13)])) _
        refine XS.astoreN X1.here hx rfl (hb hby at_12) rfl rfl (l' := #[.val (.int p0), .val (.int (1 : Int32)), .val (.ref w_BAD_RESUMPTION_TOKEN_13), .unset]) rfl ?_
        show Steps p.tables e below (T1.setTop (mkF m 13 #[.val (.int p0), .val (.int (1 : Int32)), .val (.ref w_BAD_RESUMPTION_TOKEN_13), .unset] [])) _
        refine XS.iloadN X1.here hx rfl (hb hby at_13) rfl ?_
        show Steps p.tables e below (T1.setTop (mkF m 14 #[.val (.int p0), .val (.int (1 : Int32)), .val (.ref w_BAD_RESUMPTION_TOKEN_13), .unset] [(.int (1 : Int32))])) _
        refine XS.ifNo X1.here hx rfl (hb hby at_14) rfl ((if0 _ _).trans (feq (by decide : ¬ ((1 : Int32) = (0 : Int32)))).1) ?_
        show Steps p.tables e below (T1.setTop (mkF m 17 #[.val (.int p0), .val (.int (1 : Int32)), .val (.ref w_BAD_RESUMPTION_TOKEN_13), .unset] [])) _
        refine XS.iloadN X1.here hx rfl (hb hby at_17) rfl ?_
        show Steps p.tables e below (T1.setTop (mkF m 18 #[.val (.int p0), .val (.int (1 : Int32)), .val (.ref w_BAD_RESUMPTION_TOKEN_13), .unset] [(.int (1 : Int32))])) _
        refine XS.iconst X1.here hx rfl (hb hby at_18) ?_
        show Steps p.tables e below (T1.setTop (mkF m 19 #[.val (.int p0), .val (.int (1 : Int32)), .val (.ref w_BAD_RESUMPTION_TOKEN_13), .unset] [(.int (2 : Int32)), (.int (1 : Int32))])) _
        refine XS.icmpNo X1.here hx rfl (hb hby at_19) rfl (feq (by decide : ¬ ((1 : Int32) = (2 : Int32)))).1 ?_
        show Steps p.tables e below (T1.setTop (mkF m 22 #[.val (.int p0), .val (.int (1 : Int32)), .val (.ref w_BAD_RESUMPTION_TOKEN_13), .unset] [])) _
        refine XS.iconst X1.here hx rfl (hb hby at_22) ?_
        show Steps p.tables e below (T1.setTop (mkF m 23 #[.val (.int p0), .val (.int (1 : Int32)), .val (.ref w_BAD_RESUMPTION_TOKEN_13), .unset] [(.int (1 : Int32))])) _
        refine XS.goto X1.here hx rfl (pc0 := 23) (pc' := 27) rfl (hb hby at_23) (by decide) (by decide) ?_
        show Steps p.tables e below (T1.setTop (mkF m 27 #[.val (.int p0), .val (.int (1 : Int32)), .val (.ref w_BAD_RESUMPTION_TOKEN_13), .unset] [(.int (1 : Int32))])) _
        refine XS.istoreN X1.here hx rfl (hb hby at_27) rfl (l' := #[.val (.int p0), .val (.int (1 : Int32)), .val (.ref w_BAD_RESUMPTION_TOKEN_13), .val (.int (1 : Int32))]) rfl ?_
        show Steps p.tables e below (T1.setTop (mkF m 28 #[.val (.int p0), .val (.int (1 : Int32)), .val (.ref w_BAD_RESUMPTION_TOKEN_13), .val (.int (1 : Int32))] [])) _
        refine XS.aloadN X1.here hx rfl (hb hby at_28) rfl rfl ?_
        show Steps p.tables e below (T1.setTop (mkF m 29 #[.val (.int p0), .val (.int (1 : Int32)), .val (.ref w_BAD_RESUMPTION_TOKEN_13), .val (.int (1 : Int32))] [(.ref w_BAD_RESUMPTION_TOKEN_13)])) _
        refine st8.trans ?_
        exact kt)
    obtain rfl : (1 : Int32) = r9 := Pr9.2 (Fld.ne F_ordinal_20 F_ordinal_5 (by decide)) (Fld.ne F_ordinal_20 F_ordinal_4 (by decide))
    have pre11 : ∀ t, Steps p.tables e below (T8.setTop (mkF m 41 #[.val (.int p0), .val (.int (1 : Int32)), .val (.ref w_BAD_RESUMPTION_TOKEN_13), .val (.int (1 : Int32))] [(.int (1 : Int32))])) t → Steps p.tables e below (s₁.setTop (entryFrame m #[(.int p0)] maxLocals)) t := fun t kt => pre10 t (by
        show Steps p.tables e below (T8.setTop (mkF m 32 #[.val (.int p0), .val (.int (1 : Int32)), .val (.ref w_BAD_RESUMPTION_TOKEN_13), .val (.int (1 : Int32))] [(.int (1 : Int32))])) _
        refine XS.iloadN X8.here hx rfl (hb hby at_32) rfl ?_
        show Steps p.tables e below (T8.setTop (mkF m 33 #[.val (.int p0), .val (.int (1 : Int32)), .val (.ref w_BAD_RESUMPTION_TOKEN_13), .val (.int (1 : Int32))] [(.int (1 : Int32)), (.int (1 : Int32))])) _
        refine XS.icmpNo X8.here hx rfl (hb hby at_33) rfl (teq (rfl : (1 : Int32) = (1 : Int32))).2 ?_
        show Steps p.tables e below (T8.setTop (mkF m 36 #[.val (.int p0), .val (.int (1 : Int32)), .val (.ref w_BAD_RESUMPTION_TOKEN_13), .val (.int (1 : Int32))] [])) _
        refine XS.iconst X8.here hx rfl (hb hby at_36) ?_
        show Steps p.tables e below (T8.setTop (mkF m 37 #[.val (.int p0), .val (.int (1 : Int32)), .val (.ref w_BAD_RESUMPTION_TOKEN_13), .val (.int (1 : Int32))] [(.int (1 : Int32))])) _
        refine XS.goto X8.here hx rfl (pc0 := 37) (pc' := 41) rfl (hb hby at_37) (by decide) (by decide) ?_
        exact kt)
    obtain ⟨fs, hr, hrun, hended, hW, hsame⟩ := X8.leave (v := some (.int (1 : Int32))) (fun h => by rw [Bd.returns] at h; cases h)
    refine ⟨_, _, pre11 _ ?_, hrun, hended, _, _, rfl, ?_, ⟨_, rfl⟩, hW, hsame.mono (by decide) (by decide)⟩
    · show Steps p.tables e below (T8.setTop (mkF m 41 #[.val (.int p0), .val (.int (1 : Int32)), .val (.ref w_BAD_RESUMPTION_TOKEN_13), .val (.int (1 : Int32))] [(.int (1 : Int32))])) _
      exact retN X8 hx (t := .boolean) Bd.returns (by simp) (hb hby at_41) hr
    · show Q0 Z _ _ _ _ _ _ _ _ h0 n0 _ T8.heap _
      rw [e8]
      exact ⟨rfl, N8, rfl⟩
  · skip
    obtain ⟨cq12, kq12, q12a, q12b, q12c⟩ := isOf hZ e1 E_3
    obtain ⟨_, _, ⟨T12, L12, k12, n12⟩, -, X12, ⟨Lc12, hQ12, l12, y12, z12⟩, st12⟩ := X1.virtualBack hx (y := (⟨"cartouche/oai/OaiException$Code", "repeatsArguments", "()Z"⟩ : MethodName)) (z := (⟨"cartouche/oai/OaiException$Code", "repeatsArguments", "()Z"⟩ : MethodName)) hown (mvT hZ (hw _ (List.mem_of_getElem? (i := 8) rfl))) (mvT hZ (hw _ (List.mem_of_getElem? (i := 9) rfl))) (notFace_of_selects (args := #[]) (mvT hZ (hw _ (List.mem_of_getElem? (i := 11) rfl)))) (mvT hZ (hw _ (List.mem_of_getElem? (i := 11) rfl))) (mvT hZ (hw _ (List.mem_of_getElem? (i := 10) rfl))) (by decide) (backOf (W := 0) (rm2 l Z aw hw [] w_BAD_VERB_3 w_BAD_VERB_3 w_BAD_ARGUMENT_1 h0 n0 Z0 S_BAD_VERB_2 S_BAD_ARGUMENT_0) hZ (hw _ (List.mem_of_getElem? (i := 12) rfl)) (hw _ (List.mem_of_getElem? (i := 6) rfl)) (by decide) (by decide)) q12a q12c (g := (mkF m 29 #[.val (.int p0), .val (.int (2 : Int32)), .val (.ref w_BAD_VERB_3), .val (.int (0 : Int32))] [(.ref w_BAD_VERB_3)])) rfl (by rw [hml]; rfl) (Steps.refl _) (argsL := []) (rest := []) (lenOf pd_1 rfl) rfl (by show 2 * 0 + _ ≤ _; exact Nat.le_of_eq rfl) (hb hby at_29) (fun _ _ => ⟨rfl, e1, (by decide : 0 + 0 ≤ _), (by decide : 0 + 0 ≤ _)⟩)
    dsimp only [Pt.U, Pt.locs, Pt.cells, Pt.slots] at X12 l12 y12 z12 st12 hQ12
    subst l12 y12 z12
    obtain ⟨⟨r13, rfl, Pr13⟩, Nq12, e12⟩ := hQ12
    have N12 := Fr.app N1 Nq12
    have pre14 : ∀ t, Steps p.tables e below (T12.setTop (mkF m 32 #[.val (.int p0), .val (.int (2 : Int32)), .val (.ref w_BAD_VERB_3), .val (.int (0 : Int32))] [(.int r13)])) t → Steps p.tables e below (s₁.setTop (entryFrame m #[(.int p0)] maxLocals)) t := fun t kt => pre3 t (by
        show Steps p.tables e below (T1.setTop (mkF m 12 #[.val (.int p0), .val (.int (2 : Int32)), .unset, .unset] [(.ref w_BAD_VERB_3)])) _
        refine XS.astoreN X1.here hx rfl (hb hby at_12) rfl rfl (l' := #[.val (.int p0), .val (.int (2 : Int32)), .val (.ref w_BAD_VERB_3), .unset]) rfl ?_
        show Steps p.tables e below (T1.setTop (mkF m 13 #[.val (.int p0), .val (.int (2 : Int32)), .val (.ref w_BAD_VERB_3), .unset] [])) _
        refine XS.iloadN X1.here hx rfl (hb hby at_13) rfl ?_
        show Steps p.tables e below (T1.setTop (mkF m 14 #[.val (.int p0), .val (.int (2 : Int32)), .val (.ref w_BAD_VERB_3), .unset] [(.int (2 : Int32))])) _
        refine XS.ifNo X1.here hx rfl (hb hby at_14) rfl ((if0 _ _).trans (feq (by decide : ¬ ((2 : Int32) = (0 : Int32)))).1) ?_
        show Steps p.tables e below (T1.setTop (mkF m 17 #[.val (.int p0), .val (.int (2 : Int32)), .val (.ref w_BAD_VERB_3), .unset] [])) _
        refine XS.iloadN X1.here hx rfl (hb hby at_17) rfl ?_
        show Steps p.tables e below (T1.setTop (mkF m 18 #[.val (.int p0), .val (.int (2 : Int32)), .val (.ref w_BAD_VERB_3), .unset] [(.int (2 : Int32))])) _
        refine XS.iconst X1.here hx rfl (hb hby at_18) ?_
        show Steps p.tables e below (T1.setTop (mkF m 19 #[.val (.int p0), .val (.int (2 : Int32)), .val (.ref w_BAD_VERB_3), .unset] [(.int (2 : Int32)), (.int (2 : Int32))])) _
        refine XS.icmpYes X1.here hx rfl (pc0 := 19) (pc' := 26) rfl (hb hby at_19) rfl (teq (rfl : (2 : Int32) = (2 : Int32))).1 (by decide) (by decide) ?_
        show Steps p.tables e below (T1.setTop (mkF m 26 #[.val (.int p0), .val (.int (2 : Int32)), .val (.ref w_BAD_VERB_3), .unset] [])) _
        refine XS.iconst X1.here hx rfl (hb hby at_26) ?_
        show Steps p.tables e below (T1.setTop (mkF m 27 #[.val (.int p0), .val (.int (2 : Int32)), .val (.ref w_BAD_VERB_3), .unset] [(.int (0 : Int32))])) _
        refine XS.istoreN X1.here hx rfl (hb hby at_27) rfl (l' := #[.val (.int p0), .val (.int (2 : Int32)), .val (.ref w_BAD_VERB_3), .val (.int (0 : Int32))]) rfl ?_
        show Steps p.tables e below (T1.setTop (mkF m 28 #[.val (.int p0), .val (.int (2 : Int32)), .val (.ref w_BAD_VERB_3), .val (.int (0 : Int32))] [])) _
        refine XS.aloadN X1.here hx rfl (hb hby at_28) rfl rfl ?_
        show Steps p.tables e below (T1.setTop (mkF m 29 #[.val (.int p0), .val (.int (2 : Int32)), .val (.ref w_BAD_VERB_3), .val (.int (0 : Int32))] [(.ref w_BAD_VERB_3)])) _
        refine st12.trans ?_
        exact kt)
    obtain rfl : (0 : Int32) = r13 := Pr13.1 (Or.inl rfl)
    have pre15 : ∀ t, Steps p.tables e below (T12.setTop (mkF m 41 #[.val (.int p0), .val (.int (2 : Int32)), .val (.ref w_BAD_VERB_3), .val (.int (0 : Int32))] [(.int (1 : Int32))])) t → Steps p.tables e below (s₁.setTop (entryFrame m #[(.int p0)] maxLocals)) t := fun t kt => pre14 t (by
        show Steps p.tables e below (T12.setTop (mkF m 32 #[.val (.int p0), .val (.int (2 : Int32)), .val (.ref w_BAD_VERB_3), .val (.int (0 : Int32))] [(.int (0 : Int32))])) _
        refine XS.iloadN X12.here hx rfl (hb hby at_32) rfl ?_
        show Steps p.tables e below (T12.setTop (mkF m 33 #[.val (.int p0), .val (.int (2 : Int32)), .val (.ref w_BAD_VERB_3), .val (.int (0 : Int32))] [(.int (0 : Int32)), (.int (0 : Int32))])) _
        refine XS.icmpNo X12.here hx rfl (hb hby at_33) rfl (teq (rfl : (0 : Int32) = (0 : Int32))).2 ?_
        show Steps p.tables e below (T12.setTop (mkF m 36 #[.val (.int p0), .val (.int (2 : Int32)), .val (.ref w_BAD_VERB_3), .val (.int (0 : Int32))] [])) _
        refine XS.iconst X12.here hx rfl (hb hby at_36) ?_
        show Steps p.tables e below (T12.setTop (mkF m 37 #[.val (.int p0), .val (.int (2 : Int32)), .val (.ref w_BAD_VERB_3), .val (.int (0 : Int32))] [(.int (1 : Int32))])) _
        refine XS.goto X12.here hx rfl (pc0 := 37) (pc' := 41) rfl (hb hby at_37) (by decide) (by decide) ?_
        exact kt)
    obtain ⟨fs, hr, hrun, hended, hW, hsame⟩ := X12.leave (v := some (.int (1 : Int32))) (fun h => by rw [Bd.returns] at h; cases h)
    refine ⟨_, _, pre15 _ ?_, hrun, hended, _, _, rfl, ?_, ⟨_, rfl⟩, hW, hsame.mono (by decide) (by decide)⟩
    · show Steps p.tables e below (T12.setTop (mkF m 41 #[.val (.int p0), .val (.int (2 : Int32)), .val (.ref w_BAD_VERB_3), .val (.int (0 : Int32))] [(.int (1 : Int32))])) _
      exact retN X12 hx (t := .boolean) Bd.returns (by simp) (hb hby at_41) hr
    · show Q0 Z _ _ _ _ _ _ _ _ h0 n0 _ T12.heap _
      rw [e12]
      exact ⟨rfl, N12, rfl⟩
  · skip
    obtain ⟨cq16, kq16, q16a, q16b, q16c⟩ := isOf hZ e1 E_7
    obtain ⟨_, _, ⟨T16, L16, k16, n16⟩, -, X16, ⟨Lc16, hQ16, l16, y16, z16⟩, st16⟩ := X1.virtualBack hx (y := (⟨"cartouche/oai/OaiException$Code", "repeatsArguments", "()Z"⟩ : MethodName)) (z := (⟨"cartouche/oai/OaiException$Code", "repeatsArguments", "()Z"⟩ : MethodName)) hown (mvT hZ (hw _ (List.mem_of_getElem? (i := 8) rfl))) (mvT hZ (hw _ (List.mem_of_getElem? (i := 9) rfl))) (notFace_of_selects (args := #[]) (mvT hZ (hw _ (List.mem_of_getElem? (i := 11) rfl)))) (mvT hZ (hw _ (List.mem_of_getElem? (i := 11) rfl))) (mvT hZ (hw _ (List.mem_of_getElem? (i := 10) rfl))) (by decide) (backOf (W := 0) (rm2 l Z aw hw [] w_CANNOT_DISSEMINATE_FORMAT_5 w_BAD_VERB_3 w_BAD_ARGUMENT_1 h0 n0 Z0 S_BAD_VERB_2 S_BAD_ARGUMENT_0) hZ (hw _ (List.mem_of_getElem? (i := 12) rfl)) (hw _ (List.mem_of_getElem? (i := 6) rfl)) (by decide) (by decide)) q16a q16c (g := (mkF m 29 #[.val (.int p0), .val (.int (3 : Int32)), .val (.ref w_CANNOT_DISSEMINATE_FORMAT_5), .val (.int (1 : Int32))] [(.ref w_CANNOT_DISSEMINATE_FORMAT_5)])) rfl (by rw [hml]; rfl) (Steps.refl _) (argsL := []) (rest := []) (lenOf pd_1 rfl) rfl (by show 2 * 0 + _ ≤ _; exact Nat.le_of_eq rfl) (hb hby at_29) (fun _ _ => ⟨rfl, e1, (by decide : 0 + 0 ≤ _), (by decide : 0 + 0 ≤ _)⟩)
    dsimp only [Pt.U, Pt.locs, Pt.cells, Pt.slots] at X16 l16 y16 z16 st16 hQ16
    subst l16 y16 z16
    obtain ⟨⟨r17, rfl, Pr17⟩, Nq16, e16⟩ := hQ16
    have N16 := Fr.app N1 Nq16
    have pre18 : ∀ t, Steps p.tables e below (T16.setTop (mkF m 32 #[.val (.int p0), .val (.int (3 : Int32)), .val (.ref w_CANNOT_DISSEMINATE_FORMAT_5), .val (.int (1 : Int32))] [(.int r17)])) t → Steps p.tables e below (s₁.setTop (entryFrame m #[(.int p0)] maxLocals)) t := fun t kt => pre3 t (by
        show Steps p.tables e below (T1.setTop (mkF m 12 #[.val (.int p0), .val (.int (3 : Int32)), .unset, .unset] [(.ref w_CANNOT_DISSEMINATE_FORMAT_5)])) _
        refine XS.astoreN X1.here hx rfl (hb hby at_12) rfl rfl (l' := #[.val (.int p0), .val (.int (3 : Int32)), .val (.ref w_CANNOT_DISSEMINATE_FORMAT_5), .unset]) rfl ?_
        show Steps p.tables e below (T1.setTop (mkF m 13 #[.val (.int p0), .val (.int (3 : Int32)), .val (.ref w_CANNOT_DISSEMINATE_FORMAT_5), .unset] [])) _
        refine XS.iloadN X1.here hx rfl (hb hby at_13) rfl ?_
        show Steps p.tables e below (T1.setTop (mkF m 14 #[.val (.int p0), .val (.int (3 : Int32)), .val (.ref w_CANNOT_DISSEMINATE_FORMAT_5), .unset] [(.int (3 : Int32))])) _
        refine XS.ifNo X1.here hx rfl (hb hby at_14) rfl ((if0 _ _).trans (feq (by decide : ¬ ((3 : Int32) = (0 : Int32)))).1) ?_
        show Steps p.tables e below (T1.setTop (mkF m 17 #[.val (.int p0), .val (.int (3 : Int32)), .val (.ref w_CANNOT_DISSEMINATE_FORMAT_5), .unset] [])) _
        refine XS.iloadN X1.here hx rfl (hb hby at_17) rfl ?_
        show Steps p.tables e below (T1.setTop (mkF m 18 #[.val (.int p0), .val (.int (3 : Int32)), .val (.ref w_CANNOT_DISSEMINATE_FORMAT_5), .unset] [(.int (3 : Int32))])) _
        refine XS.iconst X1.here hx rfl (hb hby at_18) ?_
        show Steps p.tables e below (T1.setTop (mkF m 19 #[.val (.int p0), .val (.int (3 : Int32)), .val (.ref w_CANNOT_DISSEMINATE_FORMAT_5), .unset] [(.int (2 : Int32)), (.int (3 : Int32))])) _
        refine XS.icmpNo X1.here hx rfl (hb hby at_19) rfl (feq (by decide : ¬ ((3 : Int32) = (2 : Int32)))).1 ?_
        show Steps p.tables e below (T1.setTop (mkF m 22 #[.val (.int p0), .val (.int (3 : Int32)), .val (.ref w_CANNOT_DISSEMINATE_FORMAT_5), .unset] [])) _
        refine XS.iconst X1.here hx rfl (hb hby at_22) ?_
        show Steps p.tables e below (T1.setTop (mkF m 23 #[.val (.int p0), .val (.int (3 : Int32)), .val (.ref w_CANNOT_DISSEMINATE_FORMAT_5), .unset] [(.int (1 : Int32))])) _
        refine XS.goto X1.here hx rfl (pc0 := 23) (pc' := 27) rfl (hb hby at_23) (by decide) (by decide) ?_
        show Steps p.tables e below (T1.setTop (mkF m 27 #[.val (.int p0), .val (.int (3 : Int32)), .val (.ref w_CANNOT_DISSEMINATE_FORMAT_5), .unset] [(.int (1 : Int32))])) _
        refine XS.istoreN X1.here hx rfl (hb hby at_27) rfl (l' := #[.val (.int p0), .val (.int (3 : Int32)), .val (.ref w_CANNOT_DISSEMINATE_FORMAT_5), .val (.int (1 : Int32))]) rfl ?_
        show Steps p.tables e below (T1.setTop (mkF m 28 #[.val (.int p0), .val (.int (3 : Int32)), .val (.ref w_CANNOT_DISSEMINATE_FORMAT_5), .val (.int (1 : Int32))] [])) _
        refine XS.aloadN X1.here hx rfl (hb hby at_28) rfl rfl ?_
        show Steps p.tables e below (T1.setTop (mkF m 29 #[.val (.int p0), .val (.int (3 : Int32)), .val (.ref w_CANNOT_DISSEMINATE_FORMAT_5), .val (.int (1 : Int32))] [(.ref w_CANNOT_DISSEMINATE_FORMAT_5)])) _
        refine st16.trans ?_
        exact kt)
    obtain rfl : (1 : Int32) = r17 := Pr17.2 (Fld.ne F_ordinal_8 F_ordinal_5 (by decide)) (Fld.ne F_ordinal_8 F_ordinal_4 (by decide))
    have pre19 : ∀ t, Steps p.tables e below (T16.setTop (mkF m 41 #[.val (.int p0), .val (.int (3 : Int32)), .val (.ref w_CANNOT_DISSEMINATE_FORMAT_5), .val (.int (1 : Int32))] [(.int (1 : Int32))])) t → Steps p.tables e below (s₁.setTop (entryFrame m #[(.int p0)] maxLocals)) t := fun t kt => pre18 t (by
        show Steps p.tables e below (T16.setTop (mkF m 32 #[.val (.int p0), .val (.int (3 : Int32)), .val (.ref w_CANNOT_DISSEMINATE_FORMAT_5), .val (.int (1 : Int32))] [(.int (1 : Int32))])) _
        refine XS.iloadN X16.here hx rfl (hb hby at_32) rfl ?_
        show Steps p.tables e below (T16.setTop (mkF m 33 #[.val (.int p0), .val (.int (3 : Int32)), .val (.ref w_CANNOT_DISSEMINATE_FORMAT_5), .val (.int (1 : Int32))] [(.int (1 : Int32)), (.int (1 : Int32))])) _
        refine XS.icmpNo X16.here hx rfl (hb hby at_33) rfl (teq (rfl : (1 : Int32) = (1 : Int32))).2 ?_
        show Steps p.tables e below (T16.setTop (mkF m 36 #[.val (.int p0), .val (.int (3 : Int32)), .val (.ref w_CANNOT_DISSEMINATE_FORMAT_5), .val (.int (1 : Int32))] [])) _
        refine XS.iconst X16.here hx rfl (hb hby at_36) ?_
        show Steps p.tables e below (T16.setTop (mkF m 37 #[.val (.int p0), .val (.int (3 : Int32)), .val (.ref w_CANNOT_DISSEMINATE_FORMAT_5), .val (.int (1 : Int32))] [(.int (1 : Int32))])) _
        refine XS.goto X16.here hx rfl (pc0 := 37) (pc' := 41) rfl (hb hby at_37) (by decide) (by decide) ?_
        exact kt)
    obtain ⟨fs, hr, hrun, hended, hW, hsame⟩ := X16.leave (v := some (.int (1 : Int32))) (fun h => by rw [Bd.returns] at h; cases h)
    refine ⟨_, _, pre19 _ ?_, hrun, hended, _, _, rfl, ?_, ⟨_, rfl⟩, hW, hsame.mono (by decide) (by decide)⟩
    · show Steps p.tables e below (T16.setTop (mkF m 41 #[.val (.int p0), .val (.int (3 : Int32)), .val (.ref w_CANNOT_DISSEMINATE_FORMAT_5), .val (.int (1 : Int32))] [(.int (1 : Int32))])) _
      exact retN X16 hx (t := .boolean) Bd.returns (by simp) (hb hby at_41) hr
    · show Q0 Z _ _ _ _ _ _ _ _ h0 n0 _ T16.heap _
      rw [e16]
      exact ⟨rfl, N16, rfl⟩
  · skip
    obtain ⟨cq20, kq20, q20a, q20b, q20c⟩ := isOf hZ e1 E_16
    obtain ⟨_, _, ⟨T20, L20, k20, n20⟩, -, X20, ⟨Lc20, hQ20, l20, y20, z20⟩, st20⟩ := X1.virtualBack hx (y := (⟨"cartouche/oai/OaiException$Code", "repeatsArguments", "()Z"⟩ : MethodName)) (z := (⟨"cartouche/oai/OaiException$Code", "repeatsArguments", "()Z"⟩ : MethodName)) hown (mvT hZ (hw _ (List.mem_of_getElem? (i := 8) rfl))) (mvT hZ (hw _ (List.mem_of_getElem? (i := 9) rfl))) (notFace_of_selects (args := #[]) (mvT hZ (hw _ (List.mem_of_getElem? (i := 11) rfl)))) (mvT hZ (hw _ (List.mem_of_getElem? (i := 11) rfl))) (mvT hZ (hw _ (List.mem_of_getElem? (i := 10) rfl))) (by decide) (backOf (W := 0) (rm2 l Z aw hw [] w_ID_DOES_NOT_EXIST_11 w_BAD_VERB_3 w_BAD_ARGUMENT_1 h0 n0 Z0 S_BAD_VERB_2 S_BAD_ARGUMENT_0) hZ (hw _ (List.mem_of_getElem? (i := 12) rfl)) (hw _ (List.mem_of_getElem? (i := 6) rfl)) (by decide) (by decide)) q20a q20c (g := (mkF m 29 #[.val (.int p0), .val (.int (4 : Int32)), .val (.ref w_ID_DOES_NOT_EXIST_11), .val (.int (1 : Int32))] [(.ref w_ID_DOES_NOT_EXIST_11)])) rfl (by rw [hml]; rfl) (Steps.refl _) (argsL := []) (rest := []) (lenOf pd_1 rfl) rfl (by show 2 * 0 + _ ≤ _; exact Nat.le_of_eq rfl) (hb hby at_29) (fun _ _ => ⟨rfl, e1, (by decide : 0 + 0 ≤ _), (by decide : 0 + 0 ≤ _)⟩)
    dsimp only [Pt.U, Pt.locs, Pt.cells, Pt.slots] at X20 l20 y20 z20 st20 hQ20
    subst l20 y20 z20
    obtain ⟨⟨r21, rfl, Pr21⟩, Nq20, e20⟩ := hQ20
    have N20 := Fr.app N1 Nq20
    have pre22 : ∀ t, Steps p.tables e below (T20.setTop (mkF m 32 #[.val (.int p0), .val (.int (4 : Int32)), .val (.ref w_ID_DOES_NOT_EXIST_11), .val (.int (1 : Int32))] [(.int r21)])) t → Steps p.tables e below (s₁.setTop (entryFrame m #[(.int p0)] maxLocals)) t := fun t kt => pre3 t (by
        show Steps p.tables e below (T1.setTop (mkF m 12 #[.val (.int p0), .val (.int (4 : Int32)), .unset, .unset] [(.ref w_ID_DOES_NOT_EXIST_11)])) _
        refine XS.astoreN X1.here hx rfl (hb hby at_12) rfl rfl (l' := #[.val (.int p0), .val (.int (4 : Int32)), .val (.ref w_ID_DOES_NOT_EXIST_11), .unset]) rfl ?_
        show Steps p.tables e below (T1.setTop (mkF m 13 #[.val (.int p0), .val (.int (4 : Int32)), .val (.ref w_ID_DOES_NOT_EXIST_11), .unset] [])) _
        refine XS.iloadN X1.here hx rfl (hb hby at_13) rfl ?_
        show Steps p.tables e below (T1.setTop (mkF m 14 #[.val (.int p0), .val (.int (4 : Int32)), .val (.ref w_ID_DOES_NOT_EXIST_11), .unset] [(.int (4 : Int32))])) _
        refine XS.ifNo X1.here hx rfl (hb hby at_14) rfl ((if0 _ _).trans (feq (by decide : ¬ ((4 : Int32) = (0 : Int32)))).1) ?_
        show Steps p.tables e below (T1.setTop (mkF m 17 #[.val (.int p0), .val (.int (4 : Int32)), .val (.ref w_ID_DOES_NOT_EXIST_11), .unset] [])) _
        refine XS.iloadN X1.here hx rfl (hb hby at_17) rfl ?_
        show Steps p.tables e below (T1.setTop (mkF m 18 #[.val (.int p0), .val (.int (4 : Int32)), .val (.ref w_ID_DOES_NOT_EXIST_11), .unset] [(.int (4 : Int32))])) _
        refine XS.iconst X1.here hx rfl (hb hby at_18) ?_
        show Steps p.tables e below (T1.setTop (mkF m 19 #[.val (.int p0), .val (.int (4 : Int32)), .val (.ref w_ID_DOES_NOT_EXIST_11), .unset] [(.int (2 : Int32)), (.int (4 : Int32))])) _
        refine XS.icmpNo X1.here hx rfl (hb hby at_19) rfl (feq (by decide : ¬ ((4 : Int32) = (2 : Int32)))).1 ?_
        show Steps p.tables e below (T1.setTop (mkF m 22 #[.val (.int p0), .val (.int (4 : Int32)), .val (.ref w_ID_DOES_NOT_EXIST_11), .unset] [])) _
        refine XS.iconst X1.here hx rfl (hb hby at_22) ?_
        show Steps p.tables e below (T1.setTop (mkF m 23 #[.val (.int p0), .val (.int (4 : Int32)), .val (.ref w_ID_DOES_NOT_EXIST_11), .unset] [(.int (1 : Int32))])) _
        refine XS.goto X1.here hx rfl (pc0 := 23) (pc' := 27) rfl (hb hby at_23) (by decide) (by decide) ?_
        show Steps p.tables e below (T1.setTop (mkF m 27 #[.val (.int p0), .val (.int (4 : Int32)), .val (.ref w_ID_DOES_NOT_EXIST_11), .unset] [(.int (1 : Int32))])) _
        refine XS.istoreN X1.here hx rfl (hb hby at_27) rfl (l' := #[.val (.int p0), .val (.int (4 : Int32)), .val (.ref w_ID_DOES_NOT_EXIST_11), .val (.int (1 : Int32))]) rfl ?_
        show Steps p.tables e below (T1.setTop (mkF m 28 #[.val (.int p0), .val (.int (4 : Int32)), .val (.ref w_ID_DOES_NOT_EXIST_11), .val (.int (1 : Int32))] [])) _
        refine XS.aloadN X1.here hx rfl (hb hby at_28) rfl rfl ?_
        show Steps p.tables e below (T1.setTop (mkF m 29 #[.val (.int p0), .val (.int (4 : Int32)), .val (.ref w_ID_DOES_NOT_EXIST_11), .val (.int (1 : Int32))] [(.ref w_ID_DOES_NOT_EXIST_11)])) _
        refine st20.trans ?_
        exact kt)
    obtain rfl : (1 : Int32) = r21 := Pr21.2 (Fld.ne F_ordinal_17 F_ordinal_5 (by decide)) (Fld.ne F_ordinal_17 F_ordinal_4 (by decide))
    have pre23 : ∀ t, Steps p.tables e below (T20.setTop (mkF m 41 #[.val (.int p0), .val (.int (4 : Int32)), .val (.ref w_ID_DOES_NOT_EXIST_11), .val (.int (1 : Int32))] [(.int (1 : Int32))])) t → Steps p.tables e below (s₁.setTop (entryFrame m #[(.int p0)] maxLocals)) t := fun t kt => pre22 t (by
        show Steps p.tables e below (T20.setTop (mkF m 32 #[.val (.int p0), .val (.int (4 : Int32)), .val (.ref w_ID_DOES_NOT_EXIST_11), .val (.int (1 : Int32))] [(.int (1 : Int32))])) _
        refine XS.iloadN X20.here hx rfl (hb hby at_32) rfl ?_
        show Steps p.tables e below (T20.setTop (mkF m 33 #[.val (.int p0), .val (.int (4 : Int32)), .val (.ref w_ID_DOES_NOT_EXIST_11), .val (.int (1 : Int32))] [(.int (1 : Int32)), (.int (1 : Int32))])) _
        refine XS.icmpNo X20.here hx rfl (hb hby at_33) rfl (teq (rfl : (1 : Int32) = (1 : Int32))).2 ?_
        show Steps p.tables e below (T20.setTop (mkF m 36 #[.val (.int p0), .val (.int (4 : Int32)), .val (.ref w_ID_DOES_NOT_EXIST_11), .val (.int (1 : Int32))] [])) _
        refine XS.iconst X20.here hx rfl (hb hby at_36) ?_
        show Steps p.tables e below (T20.setTop (mkF m 37 #[.val (.int p0), .val (.int (4 : Int32)), .val (.ref w_ID_DOES_NOT_EXIST_11), .val (.int (1 : Int32))] [(.int (1 : Int32))])) _
        refine XS.goto X20.here hx rfl (pc0 := 37) (pc' := 41) rfl (hb hby at_37) (by decide) (by decide) ?_
        exact kt)
    obtain ⟨fs, hr, hrun, hended, hW, hsame⟩ := X20.leave (v := some (.int (1 : Int32))) (fun h => by rw [Bd.returns] at h; cases h)
    refine ⟨_, _, pre23 _ ?_, hrun, hended, _, _, rfl, ?_, ⟨_, rfl⟩, hW, hsame.mono (by decide) (by decide)⟩
    · show Steps p.tables e below (T20.setTop (mkF m 41 #[.val (.int p0), .val (.int (4 : Int32)), .val (.ref w_ID_DOES_NOT_EXIST_11), .val (.int (1 : Int32))] [(.int (1 : Int32))])) _
      exact retN X20 hx (t := .boolean) Bd.returns (by simp) (hb hby at_41) hr
    · show Q0 Z _ _ _ _ _ _ _ _ h0 n0 _ T20.heap _
      rw [e20]
      exact ⟨rfl, N20, rfl⟩
  · skip
    obtain ⟨cq24, kq24, q24a, q24b, q24c⟩ := isOf hZ e1 E_10
    obtain ⟨_, _, ⟨T24, L24, k24, n24⟩, -, X24, ⟨Lc24, hQ24, l24, y24, z24⟩, st24⟩ := X1.virtualBack hx (y := (⟨"cartouche/oai/OaiException$Code", "repeatsArguments", "()Z"⟩ : MethodName)) (z := (⟨"cartouche/oai/OaiException$Code", "repeatsArguments", "()Z"⟩ : MethodName)) hown (mvT hZ (hw _ (List.mem_of_getElem? (i := 8) rfl))) (mvT hZ (hw _ (List.mem_of_getElem? (i := 9) rfl))) (notFace_of_selects (args := #[]) (mvT hZ (hw _ (List.mem_of_getElem? (i := 11) rfl)))) (mvT hZ (hw _ (List.mem_of_getElem? (i := 11) rfl))) (mvT hZ (hw _ (List.mem_of_getElem? (i := 10) rfl))) (by decide) (backOf (W := 0) (rm2 l Z aw hw [] w_NO_RECORDS_MATCH_7 w_BAD_VERB_3 w_BAD_ARGUMENT_1 h0 n0 Z0 S_BAD_VERB_2 S_BAD_ARGUMENT_0) hZ (hw _ (List.mem_of_getElem? (i := 12) rfl)) (hw _ (List.mem_of_getElem? (i := 6) rfl)) (by decide) (by decide)) q24a q24c (g := (mkF m 29 #[.val (.int p0), .val (.int (5 : Int32)), .val (.ref w_NO_RECORDS_MATCH_7), .val (.int (1 : Int32))] [(.ref w_NO_RECORDS_MATCH_7)])) rfl (by rw [hml]; rfl) (Steps.refl _) (argsL := []) (rest := []) (lenOf pd_1 rfl) rfl (by show 2 * 0 + _ ≤ _; exact Nat.le_of_eq rfl) (hb hby at_29) (fun _ _ => ⟨rfl, e1, (by decide : 0 + 0 ≤ _), (by decide : 0 + 0 ≤ _)⟩)
    dsimp only [Pt.U, Pt.locs, Pt.cells, Pt.slots] at X24 l24 y24 z24 st24 hQ24
    subst l24 y24 z24
    obtain ⟨⟨r25, rfl, Pr25⟩, Nq24, e24⟩ := hQ24
    have N24 := Fr.app N1 Nq24
    have pre26 : ∀ t, Steps p.tables e below (T24.setTop (mkF m 32 #[.val (.int p0), .val (.int (5 : Int32)), .val (.ref w_NO_RECORDS_MATCH_7), .val (.int (1 : Int32))] [(.int r25)])) t → Steps p.tables e below (s₁.setTop (entryFrame m #[(.int p0)] maxLocals)) t := fun t kt => pre3 t (by
        show Steps p.tables e below (T1.setTop (mkF m 12 #[.val (.int p0), .val (.int (5 : Int32)), .unset, .unset] [(.ref w_NO_RECORDS_MATCH_7)])) _
        refine XS.astoreN X1.here hx rfl (hb hby at_12) rfl rfl (l' := #[.val (.int p0), .val (.int (5 : Int32)), .val (.ref w_NO_RECORDS_MATCH_7), .unset]) rfl ?_
        show Steps p.tables e below (T1.setTop (mkF m 13 #[.val (.int p0), .val (.int (5 : Int32)), .val (.ref w_NO_RECORDS_MATCH_7), .unset] [])) _
        refine XS.iloadN X1.here hx rfl (hb hby at_13) rfl ?_
        show Steps p.tables e below (T1.setTop (mkF m 14 #[.val (.int p0), .val (.int (5 : Int32)), .val (.ref w_NO_RECORDS_MATCH_7), .unset] [(.int (5 : Int32))])) _
        refine XS.ifNo X1.here hx rfl (hb hby at_14) rfl ((if0 _ _).trans (feq (by decide : ¬ ((5 : Int32) = (0 : Int32)))).1) ?_
        show Steps p.tables e below (T1.setTop (mkF m 17 #[.val (.int p0), .val (.int (5 : Int32)), .val (.ref w_NO_RECORDS_MATCH_7), .unset] [])) _
        refine XS.iloadN X1.here hx rfl (hb hby at_17) rfl ?_
        show Steps p.tables e below (T1.setTop (mkF m 18 #[.val (.int p0), .val (.int (5 : Int32)), .val (.ref w_NO_RECORDS_MATCH_7), .unset] [(.int (5 : Int32))])) _
        refine XS.iconst X1.here hx rfl (hb hby at_18) ?_
        show Steps p.tables e below (T1.setTop (mkF m 19 #[.val (.int p0), .val (.int (5 : Int32)), .val (.ref w_NO_RECORDS_MATCH_7), .unset] [(.int (2 : Int32)), (.int (5 : Int32))])) _
        refine XS.icmpNo X1.here hx rfl (hb hby at_19) rfl (feq (by decide : ¬ ((5 : Int32) = (2 : Int32)))).1 ?_
        show Steps p.tables e below (T1.setTop (mkF m 22 #[.val (.int p0), .val (.int (5 : Int32)), .val (.ref w_NO_RECORDS_MATCH_7), .unset] [])) _
        refine XS.iconst X1.here hx rfl (hb hby at_22) ?_
        show Steps p.tables e below (T1.setTop (mkF m 23 #[.val (.int p0), .val (.int (5 : Int32)), .val (.ref w_NO_RECORDS_MATCH_7), .unset] [(.int (1 : Int32))])) _
        refine XS.goto X1.here hx rfl (pc0 := 23) (pc' := 27) rfl (hb hby at_23) (by decide) (by decide) ?_
        show Steps p.tables e below (T1.setTop (mkF m 27 #[.val (.int p0), .val (.int (5 : Int32)), .val (.ref w_NO_RECORDS_MATCH_7), .unset] [(.int (1 : Int32))])) _
        refine XS.istoreN X1.here hx rfl (hb hby at_27) rfl (l' := #[.val (.int p0), .val (.int (5 : Int32)), .val (.ref w_NO_RECORDS_MATCH_7), .val (.int (1 : Int32))]) rfl ?_
        show Steps p.tables e below (T1.setTop (mkF m 28 #[.val (.int p0), .val (.int (5 : Int32)), .val (.ref w_NO_RECORDS_MATCH_7), .val (.int (1 : Int32))] [])) _
        refine XS.aloadN X1.here hx rfl (hb hby at_28) rfl rfl ?_
        show Steps p.tables e below (T1.setTop (mkF m 29 #[.val (.int p0), .val (.int (5 : Int32)), .val (.ref w_NO_RECORDS_MATCH_7), .val (.int (1 : Int32))] [(.ref w_NO_RECORDS_MATCH_7)])) _
        refine st24.trans ?_
        exact kt)
    obtain rfl : (1 : Int32) = r25 := Pr25.2 (Fld.ne F_ordinal_11 F_ordinal_5 (by decide)) (Fld.ne F_ordinal_11 F_ordinal_4 (by decide))
    have pre27 : ∀ t, Steps p.tables e below (T24.setTop (mkF m 41 #[.val (.int p0), .val (.int (5 : Int32)), .val (.ref w_NO_RECORDS_MATCH_7), .val (.int (1 : Int32))] [(.int (1 : Int32))])) t → Steps p.tables e below (s₁.setTop (entryFrame m #[(.int p0)] maxLocals)) t := fun t kt => pre26 t (by
        show Steps p.tables e below (T24.setTop (mkF m 32 #[.val (.int p0), .val (.int (5 : Int32)), .val (.ref w_NO_RECORDS_MATCH_7), .val (.int (1 : Int32))] [(.int (1 : Int32))])) _
        refine XS.iloadN X24.here hx rfl (hb hby at_32) rfl ?_
        show Steps p.tables e below (T24.setTop (mkF m 33 #[.val (.int p0), .val (.int (5 : Int32)), .val (.ref w_NO_RECORDS_MATCH_7), .val (.int (1 : Int32))] [(.int (1 : Int32)), (.int (1 : Int32))])) _
        refine XS.icmpNo X24.here hx rfl (hb hby at_33) rfl (teq (rfl : (1 : Int32) = (1 : Int32))).2 ?_
        show Steps p.tables e below (T24.setTop (mkF m 36 #[.val (.int p0), .val (.int (5 : Int32)), .val (.ref w_NO_RECORDS_MATCH_7), .val (.int (1 : Int32))] [])) _
        refine XS.iconst X24.here hx rfl (hb hby at_36) ?_
        show Steps p.tables e below (T24.setTop (mkF m 37 #[.val (.int p0), .val (.int (5 : Int32)), .val (.ref w_NO_RECORDS_MATCH_7), .val (.int (1 : Int32))] [(.int (1 : Int32))])) _
        refine XS.goto X24.here hx rfl (pc0 := 37) (pc' := 41) rfl (hb hby at_37) (by decide) (by decide) ?_
        exact kt)
    obtain ⟨fs, hr, hrun, hended, hW, hsame⟩ := X24.leave (v := some (.int (1 : Int32))) (fun h => by rw [Bd.returns] at h; cases h)
    refine ⟨_, _, pre27 _ ?_, hrun, hended, _, _, rfl, ?_, ⟨_, rfl⟩, hW, hsame.mono (by decide) (by decide)⟩
    · show Steps p.tables e below (T24.setTop (mkF m 41 #[.val (.int p0), .val (.int (5 : Int32)), .val (.ref w_NO_RECORDS_MATCH_7), .val (.int (1 : Int32))] [(.int (1 : Int32))])) _
      exact retN X24 hx (t := .boolean) Bd.returns (by simp) (hb hby at_41) hr
    · show Q0 Z _ _ _ _ _ _ _ _ h0 n0 _ T24.heap _
      rw [e24]
      exact ⟨rfl, N24, rfl⟩
  · skip
    obtain ⟨cq28, kq28, q28a, q28b, q28c⟩ := isOf hZ e1 E_13
    obtain ⟨_, _, ⟨T28, L28, k28, n28⟩, -, X28, ⟨Lc28, hQ28, l28, y28, z28⟩, st28⟩ := X1.virtualBack hx (y := (⟨"cartouche/oai/OaiException$Code", "repeatsArguments", "()Z"⟩ : MethodName)) (z := (⟨"cartouche/oai/OaiException$Code", "repeatsArguments", "()Z"⟩ : MethodName)) hown (mvT hZ (hw _ (List.mem_of_getElem? (i := 8) rfl))) (mvT hZ (hw _ (List.mem_of_getElem? (i := 9) rfl))) (notFace_of_selects (args := #[]) (mvT hZ (hw _ (List.mem_of_getElem? (i := 11) rfl)))) (mvT hZ (hw _ (List.mem_of_getElem? (i := 11) rfl))) (mvT hZ (hw _ (List.mem_of_getElem? (i := 10) rfl))) (by decide) (backOf (W := 0) (rm2 l Z aw hw [] w_NO_SET_HIERARCHY_9 w_BAD_VERB_3 w_BAD_ARGUMENT_1 h0 n0 Z0 S_BAD_VERB_2 S_BAD_ARGUMENT_0) hZ (hw _ (List.mem_of_getElem? (i := 12) rfl)) (hw _ (List.mem_of_getElem? (i := 6) rfl)) (by decide) (by decide)) q28a q28c (g := (mkF m 29 #[.val (.int p0), .val (.int (6 : Int32)), .val (.ref w_NO_SET_HIERARCHY_9), .val (.int (1 : Int32))] [(.ref w_NO_SET_HIERARCHY_9)])) rfl (by rw [hml]; rfl) (Steps.refl _) (argsL := []) (rest := []) (lenOf pd_1 rfl) rfl (by show 2 * 0 + _ ≤ _; exact Nat.le_of_eq rfl) (hb hby at_29) (fun _ _ => ⟨rfl, e1, (by decide : 0 + 0 ≤ _), (by decide : 0 + 0 ≤ _)⟩)
    dsimp only [Pt.U, Pt.locs, Pt.cells, Pt.slots] at X28 l28 y28 z28 st28 hQ28
    subst l28 y28 z28
    obtain ⟨⟨r29, rfl, Pr29⟩, Nq28, e28⟩ := hQ28
    have N28 := Fr.app N1 Nq28
    have pre30 : ∀ t, Steps p.tables e below (T28.setTop (mkF m 32 #[.val (.int p0), .val (.int (6 : Int32)), .val (.ref w_NO_SET_HIERARCHY_9), .val (.int (1 : Int32))] [(.int r29)])) t → Steps p.tables e below (s₁.setTop (entryFrame m #[(.int p0)] maxLocals)) t := fun t kt => pre3 t (by
        show Steps p.tables e below (T1.setTop (mkF m 12 #[.val (.int p0), .val (.int (6 : Int32)), .unset, .unset] [(.ref w_NO_SET_HIERARCHY_9)])) _
        refine XS.astoreN X1.here hx rfl (hb hby at_12) rfl rfl (l' := #[.val (.int p0), .val (.int (6 : Int32)), .val (.ref w_NO_SET_HIERARCHY_9), .unset]) rfl ?_
        show Steps p.tables e below (T1.setTop (mkF m 13 #[.val (.int p0), .val (.int (6 : Int32)), .val (.ref w_NO_SET_HIERARCHY_9), .unset] [])) _
        refine XS.iloadN X1.here hx rfl (hb hby at_13) rfl ?_
        show Steps p.tables e below (T1.setTop (mkF m 14 #[.val (.int p0), .val (.int (6 : Int32)), .val (.ref w_NO_SET_HIERARCHY_9), .unset] [(.int (6 : Int32))])) _
        refine XS.ifNo X1.here hx rfl (hb hby at_14) rfl ((if0 _ _).trans (feq (by decide : ¬ ((6 : Int32) = (0 : Int32)))).1) ?_
        show Steps p.tables e below (T1.setTop (mkF m 17 #[.val (.int p0), .val (.int (6 : Int32)), .val (.ref w_NO_SET_HIERARCHY_9), .unset] [])) _
        refine XS.iloadN X1.here hx rfl (hb hby at_17) rfl ?_
        show Steps p.tables e below (T1.setTop (mkF m 18 #[.val (.int p0), .val (.int (6 : Int32)), .val (.ref w_NO_SET_HIERARCHY_9), .unset] [(.int (6 : Int32))])) _
        refine XS.iconst X1.here hx rfl (hb hby at_18) ?_
        show Steps p.tables e below (T1.setTop (mkF m 19 #[.val (.int p0), .val (.int (6 : Int32)), .val (.ref w_NO_SET_HIERARCHY_9), .unset] [(.int (2 : Int32)), (.int (6 : Int32))])) _
        refine XS.icmpNo X1.here hx rfl (hb hby at_19) rfl (feq (by decide : ¬ ((6 : Int32) = (2 : Int32)))).1 ?_
        show Steps p.tables e below (T1.setTop (mkF m 22 #[.val (.int p0), .val (.int (6 : Int32)), .val (.ref w_NO_SET_HIERARCHY_9), .unset] [])) _
        refine XS.iconst X1.here hx rfl (hb hby at_22) ?_
        show Steps p.tables e below (T1.setTop (mkF m 23 #[.val (.int p0), .val (.int (6 : Int32)), .val (.ref w_NO_SET_HIERARCHY_9), .unset] [(.int (1 : Int32))])) _
        refine XS.goto X1.here hx rfl (pc0 := 23) (pc' := 27) rfl (hb hby at_23) (by decide) (by decide) ?_
        show Steps p.tables e below (T1.setTop (mkF m 27 #[.val (.int p0), .val (.int (6 : Int32)), .val (.ref w_NO_SET_HIERARCHY_9), .unset] [(.int (1 : Int32))])) _
        refine XS.istoreN X1.here hx rfl (hb hby at_27) rfl (l' := #[.val (.int p0), .val (.int (6 : Int32)), .val (.ref w_NO_SET_HIERARCHY_9), .val (.int (1 : Int32))]) rfl ?_
        show Steps p.tables e below (T1.setTop (mkF m 28 #[.val (.int p0), .val (.int (6 : Int32)), .val (.ref w_NO_SET_HIERARCHY_9), .val (.int (1 : Int32))] [])) _
        refine XS.aloadN X1.here hx rfl (hb hby at_28) rfl rfl ?_
        show Steps p.tables e below (T1.setTop (mkF m 29 #[.val (.int p0), .val (.int (6 : Int32)), .val (.ref w_NO_SET_HIERARCHY_9), .val (.int (1 : Int32))] [(.ref w_NO_SET_HIERARCHY_9)])) _
        refine st28.trans ?_
        exact kt)
    obtain rfl : (1 : Int32) = r29 := Pr29.2 (Fld.ne F_ordinal_14 F_ordinal_5 (by decide)) (Fld.ne F_ordinal_14 F_ordinal_4 (by decide))
    have pre31 : ∀ t, Steps p.tables e below (T28.setTop (mkF m 41 #[.val (.int p0), .val (.int (6 : Int32)), .val (.ref w_NO_SET_HIERARCHY_9), .val (.int (1 : Int32))] [(.int (1 : Int32))])) t → Steps p.tables e below (s₁.setTop (entryFrame m #[(.int p0)] maxLocals)) t := fun t kt => pre30 t (by
        show Steps p.tables e below (T28.setTop (mkF m 32 #[.val (.int p0), .val (.int (6 : Int32)), .val (.ref w_NO_SET_HIERARCHY_9), .val (.int (1 : Int32))] [(.int (1 : Int32))])) _
        refine XS.iloadN X28.here hx rfl (hb hby at_32) rfl ?_
        show Steps p.tables e below (T28.setTop (mkF m 33 #[.val (.int p0), .val (.int (6 : Int32)), .val (.ref w_NO_SET_HIERARCHY_9), .val (.int (1 : Int32))] [(.int (1 : Int32)), (.int (1 : Int32))])) _
        refine XS.icmpNo X28.here hx rfl (hb hby at_33) rfl (teq (rfl : (1 : Int32) = (1 : Int32))).2 ?_
        show Steps p.tables e below (T28.setTop (mkF m 36 #[.val (.int p0), .val (.int (6 : Int32)), .val (.ref w_NO_SET_HIERARCHY_9), .val (.int (1 : Int32))] [])) _
        refine XS.iconst X28.here hx rfl (hb hby at_36) ?_
        show Steps p.tables e below (T28.setTop (mkF m 37 #[.val (.int p0), .val (.int (6 : Int32)), .val (.ref w_NO_SET_HIERARCHY_9), .val (.int (1 : Int32))] [(.int (1 : Int32))])) _
        refine XS.goto X28.here hx rfl (pc0 := 37) (pc' := 41) rfl (hb hby at_37) (by decide) (by decide) ?_
        exact kt)
    obtain ⟨fs, hr, hrun, hended, hW, hsame⟩ := X28.leave (v := some (.int (1 : Int32))) (fun h => by rw [Bd.returns] at h; cases h)
    refine ⟨_, _, pre31 _ ?_, hrun, hended, _, _, rfl, ?_, ⟨_, rfl⟩, hW, hsame.mono (by decide) (by decide)⟩
    · show Steps p.tables e below (T28.setTop (mkF m 41 #[.val (.int p0), .val (.int (6 : Int32)), .val (.ref w_NO_SET_HIERARCHY_9), .val (.int (1 : Int32))] [(.int (1 : Int32))])) _
      exact retN X28 hx (t := .boolean) Bd.returns (by simp) (hb hby at_41) hr
    · show Q0 Z _ _ _ _ _ _ _ _ h0 n0 _ T28.heap _
      rw [e28]
      exact ⟨rfl, N28, rfl⟩
set_option maxRecDepth 65536 in
set_option maxHeartbeats 40000000 in
theorem comes_1 {Post : Tables → Env → Array Value → State → Outcome → State → Prop} (hpost : ∀ tb e args s v u, (limb_1_1.after args s (.returned v) u = true ∧ limb_1_2.after args s (.returned v) u = true ∧ True) → FrameEnd s (.returned v) u (Jvm.fieldLocs frame_1_writes args s ++ Jvm.arrayLocs frame_1_arrays args s ++ Jvm.staticLocs frame_1_statics s) 0 0 → Post tb e args s (.returned v) u) :
    ArmFor flags0 classFile x code maxLocals ret World_1 tables_1 room_1 Calls_1 rest_1 Pre_1 Post := by
  intro l hfl _ _ p e ha hc hk s m args below hf hA hF happ hP
  obtain ⟨hcalls, hrest, hpre⟩ := hP
  obtain ⟨-, -, -, hnamed, -, -, -, hat⟩ := (Spec.applies_iff hf).mp happ
  obtain ⟨hg, hn⟩ := and_e (Cond.before_iff.mp (show (Jvm.Cond.and given_1 narrow_1).before args s = true from hpre))
  obtain ⟨hg0, hgr0⟩ := and_e hg
  obtain ⟨w0, rfl⟩ : ∃ w0 : Value, args = #[w0] := by
    have hs : args.size = 1 := by simpa [Cond.value, given_1] using hg0
    obtain ⟨L⟩ := args
    match L, hs with
    | [w0], _ => exact ⟨w0, rfl⟩
  have hw := fun d (hd : d ∈ tables_1) => atoms_spec (ws := Jvm.Cond.code x code maxLocals ret :: tables_1) hat d (List.mem_cons_of_mem _ hd)
  have hfit : Fit s := fun {y c} hc i hi => by
    obtain ⟨ha, rfl⟩ := Array.getElem?_eq_some_iff.mp hc
    have q := List.all_eq_true.mp ((Array.all_eq_true_iff_forall_mem.mp hF) _ (Array.getElem_mem ha)) i (List.mem_range.mpr hi)
    simpa [Array.getElem?_eq_getElem hi] using q
  obtain ⟨i0, ei0⟩ := is_v hgr0
  obtain rfl : w0 = (.int i0) := Option.some.inj ei0
  obtain ⟨hn0, hr0⟩ := and_e hn
  obtain ⟨hn1, hr1⟩ := and_e hr0
  obtain ⟨hn2, hr2⟩ := and_e hr1
  obtain ⟨hn3, hr3⟩ := and_e hr2
  obtain ⟨hn4, hr4⟩ := and_e hr3
  obtain ⟨hn5, hr5⟩ := and_e hr4
  obtain ⟨hn6, hr6⟩ := and_e hr5
  obtain ⟨hn7, hr7⟩ := and_e hr6
  obtain ⟨hn8, hr8⟩ := and_e hr7
  obtain ⟨hn9, hr9⟩ := and_e hr8
  obtain ⟨hn10, hr10⟩ := and_e hr9
  obtain ⟨hn11, hr11⟩ := and_e hr10
  obtain ⟨hn12, hr12⟩ := and_e hr11
  obtain ⟨w_BAD_ARGUMENT_1, ev2⟩ := exa_v hn0
  have S_BAD_ARGUMENT_0 : Sta s s.heap "cartouche/oai/OaiException$Code" "BAD_ARGUMENT" "Lcartouche/oai/OaiException$Code;" (.ref w_BAD_ARGUMENT_1) := Sta.start ev2 (Or.inr ⟨(hw _ (List.mem_of_getElem? (i := 6) rfl)), (hw _ (List.mem_of_getElem? (i := 7) rfl))⟩)
  have E_1 : Exa s s.heap w_BAD_ARGUMENT_1 "cartouche/oai/OaiException$Code" := Exa.start ev2 hn0
  obtain ⟨w_BAD_VERB_3, ev4⟩ := exa_v hn1
  have S_BAD_VERB_2 : Sta s s.heap "cartouche/oai/OaiException$Code" "BAD_VERB" "Lcartouche/oai/OaiException$Code;" (.ref w_BAD_VERB_3) := Sta.start ev4 (Or.inr ⟨(hw _ (List.mem_of_getElem? (i := 6) rfl)), (hw _ (List.mem_of_getElem? (i := 14) rfl))⟩)
  have E_3 : Exa s s.heap w_BAD_VERB_3 "cartouche/oai/OaiException$Code" := Exa.start ev4 hn1
  have F_ordinal_4 : Fld s s.heap w_BAD_ARGUMENT_1 "java/lang/Enum" "ordinal" "I" (.int (0 : Int32)) := Fld.start ((fld_at ev2).symm.trans (own_eqI hn2))
  have F_ordinal_5 : Fld s s.heap w_BAD_VERB_3 "java/lang/Enum" "ordinal" "I" (.int (2 : Int32)) := Fld.start ((fld_at ev4).symm.trans (own_eqI hn3))
  obtain ⟨w_CANNOT_DISSEMINATE_FORMAT_5, ev6⟩ := exa_v hn4
  have S_CANNOT_DISSEMINATE_FORMAT_6 : Sta s s.heap "cartouche/oai/OaiException$Code" "CANNOT_DISSEMINATE_FORMAT" "Lcartouche/oai/OaiException$Code;" (.ref w_CANNOT_DISSEMINATE_FORMAT_5) := Sta.start ev6 (Or.inr ⟨(hw _ (List.mem_of_getElem? (i := 6) rfl)), (hw _ (List.mem_of_getElem? (i := 17) rfl))⟩)
  have E_7 : Exa s s.heap w_CANNOT_DISSEMINATE_FORMAT_5 "cartouche/oai/OaiException$Code" := Exa.start ev6 hn4
  have F_ordinal_8 : Fld s s.heap w_CANNOT_DISSEMINATE_FORMAT_5 "java/lang/Enum" "ordinal" "I" (.int (3 : Int32)) := Fld.start ((fld_at ev6).symm.trans (own_eqI hn5))
  obtain ⟨w_NO_RECORDS_MATCH_7, ev8⟩ := exa_v hn6
  have S_NO_RECORDS_MATCH_9 : Sta s s.heap "cartouche/oai/OaiException$Code" "NO_RECORDS_MATCH" "Lcartouche/oai/OaiException$Code;" (.ref w_NO_RECORDS_MATCH_7) := Sta.start ev8 (Or.inr ⟨(hw _ (List.mem_of_getElem? (i := 6) rfl)), (hw _ (List.mem_of_getElem? (i := 19) rfl))⟩)
  have E_10 : Exa s s.heap w_NO_RECORDS_MATCH_7 "cartouche/oai/OaiException$Code" := Exa.start ev8 hn6
  have F_ordinal_11 : Fld s s.heap w_NO_RECORDS_MATCH_7 "java/lang/Enum" "ordinal" "I" (.int (5 : Int32)) := Fld.start ((fld_at ev8).symm.trans (own_eqI hn7))
  obtain ⟨w_NO_SET_HIERARCHY_9, ev10⟩ := exa_v hn8
  have S_NO_SET_HIERARCHY_12 : Sta s s.heap "cartouche/oai/OaiException$Code" "NO_SET_HIERARCHY" "Lcartouche/oai/OaiException$Code;" (.ref w_NO_SET_HIERARCHY_9) := Sta.start ev10 (Or.inr ⟨(hw _ (List.mem_of_getElem? (i := 6) rfl)), (hw _ (List.mem_of_getElem? (i := 21) rfl))⟩)
  have E_13 : Exa s s.heap w_NO_SET_HIERARCHY_9 "cartouche/oai/OaiException$Code" := Exa.start ev10 hn8
  have F_ordinal_14 : Fld s s.heap w_NO_SET_HIERARCHY_9 "java/lang/Enum" "ordinal" "I" (.int (6 : Int32)) := Fld.start ((fld_at ev10).symm.trans (own_eqI hn9))
  obtain ⟨w_ID_DOES_NOT_EXIST_11, ev12⟩ := exa_v hn10
  have S_ID_DOES_NOT_EXIST_15 : Sta s s.heap "cartouche/oai/OaiException$Code" "ID_DOES_NOT_EXIST" "Lcartouche/oai/OaiException$Code;" (.ref w_ID_DOES_NOT_EXIST_11) := Sta.start ev12 (Or.inr ⟨(hw _ (List.mem_of_getElem? (i := 6) rfl)), (hw _ (List.mem_of_getElem? (i := 23) rfl))⟩)
  have E_16 : Exa s s.heap w_ID_DOES_NOT_EXIST_11 "cartouche/oai/OaiException$Code" := Exa.start ev12 hn10
  have F_ordinal_17 : Fld s s.heap w_ID_DOES_NOT_EXIST_11 "java/lang/Enum" "ordinal" "I" (.int (4 : Int32)) := Fld.start ((fld_at ev12).symm.trans (own_eqI hn11))
  obtain ⟨w_BAD_RESUMPTION_TOKEN_13, ev14⟩ := exa_v hn12
  have S_BAD_RESUMPTION_TOKEN_18 : Sta s s.heap "cartouche/oai/OaiException$Code" "BAD_RESUMPTION_TOKEN" "Lcartouche/oai/OaiException$Code;" (.ref w_BAD_RESUMPTION_TOKEN_13) := Sta.start ev14 (Or.inr ⟨(hw _ (List.mem_of_getElem? (i := 6) rfl)), (hw _ (List.mem_of_getElem? (i := 26) rfl))⟩)
  have E_19 : Exa s s.heap w_BAD_RESUMPTION_TOKEN_13 "cartouche/oai/OaiException$Code" := Exa.start ev14 hn12
  have F_ordinal_20 : Fld s s.heap w_BAD_RESUMPTION_TOKEN_13 "java/lang/Enum" "ordinal" "I" (.int (1 : Int32)) := Fld.start ((fld_at ev14).symm.trans (own_eqI hr12))
  obtain ⟨n, o, h1, h2, h3, _, L, rfl, ⟨rfl, N, -⟩, hq⟩ := rm0 l s _ hw tables_1 i0 w_BAD_ARGUMENT_1 w_BAD_VERB_3 w_CANNOT_DISSEMINATE_FORMAT_5 w_NO_RECORDS_MATCH_7 w_NO_SET_HIERARCHY_9 w_ID_DOES_NOT_EXIST_11 w_BAD_RESUMPTION_TOKEN_13 s.heap s.heap.size (Nat.le_refl _) S_BAD_ARGUMENT_0 E_1 S_BAD_VERB_2 E_3 F_ordinal_4 F_ordinal_5 S_CANNOT_DISSEMINATE_FORMAT_6 E_7 F_ordinal_8 S_NO_RECORDS_MATCH_9 E_10 F_ordinal_11 S_NO_SET_HIERARCHY_12 E_13 F_ordinal_14 S_ID_DOES_NOT_EXIST_15 E_16 F_ordinal_17 S_BAD_RESUMPTION_TOKEN_18 E_19 F_ordinal_20 p e ha hc hk s m _ below hf ((Spec.applies_iff_loose hf).mp happ).1 ⟨rfl, State.Warmed39.refl s, rfl⟩ trivial
  refine ⟨n, _, h1, h2, h3, hpost _ _ _ _ _ _ ⟨Cond.after_iff.mpr rfl, Cond.after_iff.mpr (eq_i res_at (Term.int_eval (1)) rfl), trivial⟩ ⟨hq.1, hq.2.1, (hq.2.2.sift fun y hy => Or.inr (N y hy)).mono (by decide) (by decide)⟩⟩
theorem main_1_1 : Claimed_1_1 := comes_1 fun _ _ _ _ _ _ h hF => ⟨h.1, hF⟩
theorem main_1_2 : Claimed_1_2 := comes_1 fun _ _ _ _ _ _ h hF => ⟨h.2.1, hF⟩
end Jvm.Pilot.@@N@@
namespace Jvm.Pilot.@@N@@
open Jvm Jvm.ClassFile Sem Op Lib Jvm.Free Jvm.Stand Jvm.Pilot.@@N@@.Jvm.D
/-! MADE BY PROGRAM (witnessworld.py) out of the Statement's table words and the real class files: 12 classes; the members and pool entries that the words name. The judged class is class 1, her method 1. -/
namespace start1
open Jvm.ClassFile
def u (s : String) : CpInfo := .utf8 (stringToUtf16 s)
/-- a pool by its gaps: so many unusable entries, then the entry; so many at the end -/
def gap : Nat → List CpInfo → List CpInfo
  | 0, r => r
  | n + 1, r => .unusable :: gap n r
def poolList (es : List (Nat × CpInfo)) (last : Nat) : List CpInfo := es.foldr (fun e r => gap e.1 (e.2 :: r)) (gap last [])
def pool (es : List (Nat × CpInfo)) (last : Nat) : Array CpInfo := ⟨poolList es last⟩
def fileOf (pool : Array CpInfo) (this : Nat) (attrs : Array Attribute := #[]) (ms : Array MethodInfo := #[]) (fl : Nat := 33) (sup : Nat := 0) (ifs : Array Nat := #[]) (fds : Array FieldInfo := #[]) : ClassFile where
  minorVersion := 0
  majorVersion := 65
  constantPool := pool
  accessFlags := fl
  thisClass := this
  superClass := sup
  interfaces := ifs
  fields := fds
  methods := ms
  attributes := attrs
def plain (name : String) (sup : Option ClassId) : Class where
  name := name
  kind := .ordinary
  loader := none
  accessFlags := 33
  super := sup
  interfaces := #[]
  cf := none
  fields := #[]
  methods := #[]
  instanceTypes := #[]
  staticTypes := #[]
  resolved := #[]
  callSites := []
  init := .initialized
  statics := none
  mirror := none

def pool0 : Array CpInfo := pool [(5, u "<init>"), (0, u "()V"), (1, .class_ 10), (1, u "java/lang/Object")] 113

def k0m0 : Method := { name := "<init>", desc := "()V", sig := { parameters := [], returnType := none }, accessFlags := 1, code := none }
/-- java/lang/Object -/
def k0 : Class := { plain "java/lang/Object" none with
  accessFlags := 33
  interfaces := #[]
  cf := some (fileOf pool0 8 #[] #[{ accessFlags := 1, nameIndex := 5, descriptorIndex := 6, attributes := #[] }] 33 0 #[] #[])
  fields := #[]
  methods := #[k0m0]
  instanceTypes := #[]
  staticTypes := #[]
  resolved := Array.replicate 124 none
  statics := none }

def pool1 : Array CpInfo := pool [(2, .class_ 4), (1, u "java/lang/Object"), (0, u "<init>"), (0, u "()V"), (0, .integer 2147483647), (0, .methodref 9 10), (0, .class_ 11), (0, .nameAndType 12 13), (0, u "cartouche/oai/CodeRepeatsArgumentsPinLaw"), (0, u "pick"), (0, u "(I)Lcartouche/oai/OaiException$Code;"), (0, .methodref 15 16), (0, .class_ 17), (0, .nameAndType 18 19), (0, u "cartouche/oai/OaiException$Code"), (0, u "repeatsArguments"), (0, u "()Z"), (0, .fieldref 15 21), (0, .nameAndType 22 23), (0, u "BAD_ARGUMENT"), (0, u "Lcartouche/oai/OaiException$Code;"), (0, .fieldref 15 25), (0, .nameAndType 26 23), (0, u "BAD_RESUMPTION_TOKEN"), (0, .fieldref 15 28), (0, .nameAndType 29 23), (0, u "BAD_VERB"), (0, .fieldref 15 31), (0, .nameAndType 32 23), (0, u "CANNOT_DISSEMINATE_FORMAT"), (0, .fieldref 15 34), (0, .nameAndType 35 23), (0, u "ID_DOES_NOT_EXIST"), (0, .fieldref 15 37), (0, .nameAndType 38 23), (0, u "NO_RECORDS_MATCH"), (0, .fieldref 15 40), (0, .nameAndType 41 23), (0, u "NO_SET_HIERARCHY"), (2, u "law"), (0, u "(I)Z")] 6

def k1m0 : Method := { name := "<init>", desc := "()V", sig := { parameters := [], returnType := none }, accessFlags := 1, code := none }
def k1c1 : Code := { maxStack := 2, maxLocals := 4, code := code, exceptionTable := #[], attributes := #[] }
def k1m1 : Method := { name := "law", desc := "(I)Z", sig := { parameters := [.int], returnType := some .boolean }, accessFlags := 9, code := some k1c1 }
def k1c2 : Code := { maxStack := 2, maxLocals := 1, code := method_3_code, exceptionTable := #[], attributes := #[] }
def k1m2 : Method := { name := "pick", desc := "(I)Lcartouche/oai/OaiException$Code;", sig := { parameters := [.int], returnType := some (.object "cartouche/oai/OaiException$Code") }, accessFlags := 10, code := some k1c2 }
/-- cartouche/oai/CodeRepeatsArgumentsPinLaw -/
def k1 : Class := { plain "cartouche/oai/CodeRepeatsArgumentsPinLaw" (some 0) with
  accessFlags := 49
  interfaces := #[]
  cf := some (fileOf pool1 9 #[] #[{ accessFlags := 1, nameIndex := 5, descriptorIndex := 6, attributes := #[] }, { accessFlags := 9, nameIndex := 44, descriptorIndex := 45, attributes := #[] }, { accessFlags := 10, nameIndex := 12, descriptorIndex := 13, attributes := #[] }] 49 2 #[] #[])
  fields := #[]
  methods := #[k1m0, k1m1, k1m2]
  instanceTypes := #[]
  staticTypes := #[]
  resolved := Array.replicate 52 none
  statics := none }

def pool2 : Array CpInfo := pool [(1, .class_ 2), (0, u "java/lang/constant/Constable"), (0, .class_ 4), (0, u "java/lang/Object")] 6

/-- java/lang/constant/Constable -/
def k2 : Class := { plain "java/lang/constant/Constable" (some 0) with
  accessFlags := 1537
  interfaces := #[]
  cf := some (fileOf pool2 1 #[] #[] 1537 3 #[] #[])
  fields := #[]
  methods := #[]
  instanceTypes := #[]
  staticTypes := #[]
  resolved := Array.replicate 11 none
  statics := none }

def pool3 : Array CpInfo := pool [(1, .class_ 2), (0, u "java/lang/Comparable"), (0, .class_ 4), (0, u "java/lang/Object")] 7

/-- java/lang/Comparable -/
def k3 : Class := { plain "java/lang/Comparable" (some 0) with
  accessFlags := 1537
  interfaces := #[]
  cf := some (fileOf pool3 1 #[] #[] 1537 3 #[] #[])
  fields := #[]
  methods := #[]
  instanceTypes := #[]
  staticTypes := #[]
  resolved := Array.replicate 12 none
  statics := none }

def pool4 : Array CpInfo := pool [(1, .class_ 2), (0, u "java/io/Serializable"), (0, .class_ 4), (0, u "java/lang/Object")] 2

/-- java/io/Serializable -/
def k4 : Class := { plain "java/io/Serializable" (some 0) with
  accessFlags := 1537
  interfaces := #[]
  cf := some (fileOf pool4 1 #[] #[] 1537 3 #[] #[])
  fields := #[]
  methods := #[]
  instanceTypes := #[]
  staticTypes := #[]
  resolved := Array.replicate 7 none
  statics := none }

def pool5 : Array CpInfo := pool [(2, .class_ 4), (1, u "java/lang/Enum"), (0, u "name"), (0, u "Ljava/lang/String;"), (2, u "ordinal"), (0, u "I"), (1, .class_ 14), (1, u "java/lang/Object"), (4, u "hash"), (86, .class_ 108), (1, u "java/lang/Enum$EnumDesc"), (2, .class_ 112), (0, u "java/lang/constant/Constable"), (0, .class_ 114), (0, u "java/lang/Comparable"), (0, .class_ 116), (0, u "java/io/Serializable")] 87

/-- java/lang/Enum -/
def k5 : Class := { plain "java/lang/Enum" (some 0) with
  accessFlags := 1057
  interfaces := #[2, 3, 4]
  cf := some (fileOf pool5 2 #[.nestMembers #[106]] #[] 1057 12 #[111, 113, 115] #[{ accessFlags := 18, nameIndex := 5, descriptorIndex := 6, attributes := #[] }, { accessFlags := 18, nameIndex := 9, descriptorIndex := 10, attributes := #[] }, { accessFlags := 2, nameIndex := 19, descriptorIndex := 10, attributes := #[] }])
  fields := #[{ name := "name", type := (.object "java/lang/String"), accessFlags := 18, slot := 0, constantValue := 0 }, { name := "ordinal", type := .int, accessFlags := 18, slot := 1, constantValue := 0 }, { name := "hash", type := .int, accessFlags := 2, slot := 2, constantValue := 0 }]
  methods := #[]
  instanceTypes := #[(.object "java/lang/String"), .int, .int]
  staticTypes := #[]
  resolved := Array.replicate 204 none
  statics := none }

def pool6 : Array CpInfo := pool [(1, .class_ 2), (0, u "cartouche/oai/OaiException$Code"), (0, .fieldref 1 4), (0, .nameAndType 5 6), (0, u "BAD_ARGUMENT"), (0, u "Lcartouche/oai/OaiException$Code;"), (2, u "BAD_RESUMPTION_TOKEN"), (0, .fieldref 1 11), (0, .nameAndType 12 6), (0, u "BAD_VERB"), (2, u "CANNOT_DISSEMINATE_FORMAT"), (2, u "ID_DOES_NOT_EXIST"), (2, u "NO_RECORDS_MATCH"), (2, u "NO_SET_HIERARCHY"), (2, u "$VALUES"), (0, u "[Lcartouche/oai/OaiException$Code;"), (6, .class_ 37), (1, u "java/lang/Enum"), (8, u "text"), (0, u "Ljava/lang/String;"), (36, u "repeatsArguments"), (0, u "()Z"), (7, .class_ 94), (0, u "cartouche/oai/OaiException")] 1

def k6c0 : Code := { maxStack := 2, maxLocals := 1, code := prog_126_method_5_code, exceptionTable := #[], attributes := #[] }
def k6m0 : Method := { name := "repeatsArguments", desc := "()Z", sig := { parameters := [], returnType := some .boolean }, accessFlags := 0, code := some k6c0 }
/-- cartouche/oai/OaiException$Code -/
def k6 : Class := { plain "cartouche/oai/OaiException$Code" (some 5) with
  accessFlags := 16432
  interfaces := #[]
  cf := some (fileOf pool6 1 #[.nestHost 93] #[{ accessFlags := 0, nameIndex := 84, descriptorIndex := 85, attributes := #[] }] 16432 35 #[] #[{ accessFlags := 16409, nameIndex := 5, descriptorIndex := 6, attributes := #[] }, { accessFlags := 16409, nameIndex := 9, descriptorIndex := 6, attributes := #[] }, { accessFlags := 16409, nameIndex := 12, descriptorIndex := 6, attributes := #[] }, { accessFlags := 16409, nameIndex := 15, descriptorIndex := 6, attributes := #[] }, { accessFlags := 16409, nameIndex := 18, descriptorIndex := 6, attributes := #[] }, { accessFlags := 16409, nameIndex := 21, descriptorIndex := 6, attributes := #[] }, { accessFlags := 16409, nameIndex := 24, descriptorIndex := 6, attributes := #[] }, { accessFlags := 18, nameIndex := 46, descriptorIndex := 47, attributes := #[] }, { accessFlags := 4122, nameIndex := 27, descriptorIndex := 28, attributes := #[] }])
  fields := #[{ name := "BAD_ARGUMENT", type := (.object "cartouche/oai/OaiException$Code"), accessFlags := 16409, slot := 0, constantValue := 0 }, { name := "BAD_RESUMPTION_TOKEN", type := (.object "cartouche/oai/OaiException$Code"), accessFlags := 16409, slot := 1, constantValue := 0 }, { name := "BAD_VERB", type := (.object "cartouche/oai/OaiException$Code"), accessFlags := 16409, slot := 2, constantValue := 0 }, { name := "CANNOT_DISSEMINATE_FORMAT", type := (.object "cartouche/oai/OaiException$Code"), accessFlags := 16409, slot := 3, constantValue := 0 }, { name := "ID_DOES_NOT_EXIST", type := (.object "cartouche/oai/OaiException$Code"), accessFlags := 16409, slot := 4, constantValue := 0 }, { name := "NO_RECORDS_MATCH", type := (.object "cartouche/oai/OaiException$Code"), accessFlags := 16409, slot := 5, constantValue := 0 }, { name := "NO_SET_HIERARCHY", type := (.object "cartouche/oai/OaiException$Code"), accessFlags := 16409, slot := 6, constantValue := 0 }, { name := "text", type := (.object "java/lang/String"), accessFlags := 18, slot := 3, constantValue := 0 }, { name := "$VALUES", type := (.array (.object "cartouche/oai/OaiException$Code")), accessFlags := 4122, slot := 7, constantValue := 0 }]
  methods := #[k6m0]
  instanceTypes := #[(.object "java/lang/String"), .int, .int, (.object "java/lang/String")]
  staticTypes := #[(.object "cartouche/oai/OaiException$Code"), (.object "cartouche/oai/OaiException$Code"), (.object "cartouche/oai/OaiException$Code"), (.object "cartouche/oai/OaiException$Code"), (.object "cartouche/oai/OaiException$Code"), (.object "cartouche/oai/OaiException$Code"), (.object "cartouche/oai/OaiException$Code"), (.array (.object "cartouche/oai/OaiException$Code"))]
  resolved := Array.replicate 96 none
  statics := some 0 }

def pool7 : Array CpInfo := pool [(1, u "java/lang/Cloneable"), (0, .class_ 1), (0, u "java/lang/Object"), (0, .class_ 3)] 3

/-- java/lang/Cloneable -/
def k7 : Class := { plain "java/lang/Cloneable" (some 0) with
  accessFlags := 1537
  interfaces := #[]
  cf := some (fileOf pool7 2 #[] #[] 1537 4 #[] #[])
  fields := #[]
  methods := #[]
  instanceTypes := #[]
  staticTypes := #[]
  resolved := Array.replicate 8 none
  statics := none }

/-- the primitive byte -/
def k8 : Class := { plain "byte" none with kind := .primitive 'B', accessFlags := 0x411 }
/-- [B -/
def k9 : Class := { plain "[B" (some 0) with kind := .array 8 .byte, interfaces := #[7, 4], accessFlags := 1041 }

/-- the primitive int -/
def k10 : Class := { plain "int" none with kind := .primitive 'I', accessFlags := 0x411 }
/-- [I -/
def k11 : Class := { plain "[I" (some 0) with kind := .array 10 .int, interfaces := #[7, 4], accessFlags := 1041 }

def heap : Heap := #[{ cls := 6, slots := #[.ref 1, .ref 7, .ref 2, .ref 3, .ref 6, .ref 4, .ref 5, .null], vm := .statics 6 },
  { cls := 6, slots := #[.null, .int 0, .int 0, .null], vm := .none },
  { cls := 6, slots := #[.null, .int 2, .int 0, .null], vm := .none },
  { cls := 6, slots := #[.null, .int 3, .int 0, .null], vm := .none },
  { cls := 6, slots := #[.null, .int 5, .int 0, .null], vm := .none },
  { cls := 6, slots := #[.null, .int 6, .int 0, .null], vm := .none },
  { cls := 6, slots := #[.null, .int 4, .int 0, .null], vm := .none },
  { cls := 6, slots := #[.null, .int 1, .int 0, .null], vm := .none }]
def classes : Array Class := #[k0, k1, k2, k3, k4, k5, k6, k7, k8, k9, k10, k11]
def interned : List (Array UInt16 × Addr) := []
def slotsUsed : Nat := 36
def theMethod : MethodId := ⟨1, 1⟩
def args0 : Array Value := #[.int 5]
def aboutOver (below : List Frame) : State where
  vm := { classes := classes, interned := interned.toArray }
  heap := heap
  slotsUsed := slotsUsed
  threads := #[{ frames := .invoking theMethod args0 :: below }]
def below0 : List Frame := [.native { method := ⟨0, 0⟩, args := #[] }]
def about1 : State := aboutOver below0
def p0 : Program := .bare "" "" ""
def e0 : Env := launch0.env 0 0 0
theorem w_frames : about1.frames = Frame.invoking theMethod args0 :: below0 := rfl
set_option maxRecDepth 65536 in
theorem w_args : argsFit about1.vm theMethod args0 = true := by decide +kernel
set_option maxRecDepth 65536 in
theorem w_heap : heapFits about1 = true := by decide +kernel
set_option maxRecDepth 65536 in
theorem w_runnable : about1.curStatus? = some .runnable := by decide +kernel
set_option maxRecDepth 65536 in
theorem w_alone : about1.alone = true := by decide +kernel
set_option maxRecDepth 65536 in
theorem w_named : about1.methodNamed? x = some theMethod := by decide +kernel
set_option maxRecDepth 65536 in
theorem w_hears : about1.hears theMethod below0 = true := by decide +kernel
set_option maxRecDepth 65536 in
theorem w_ripe : about1.ripe theMethod args0 below0 = true := by decide +kernel
theorem w_running : about1.status = .running := rfl
set_option maxRecDepth 65536 in
theorem w_room : about1.hasRoom e0.platform room_1 = true :=
  launch0.hasRoom_least _ room_1 (by decide +kernel) (by decide +kernel) (by decide +kernel) (by decide +kernel) (by decide +kernel) (by decide +kernel)
theorem allAtoms_all (ts : List Jvm.Cond) (a : Array Jvm.Value) (st : Jvm.State) : (allAtoms ts).before a st = ts.all (fun c => c.before a st) := by
  induction ts with
  | nil => rfl
  | cons c t ih =>
    show (Jvm.Cond.and c (allAtoms t)).before a st = _
    rw [Jvm.Cond.before_and, ih, List.all_cons]
def words1 : List Jvm.Cond := Jvm.Cond.code x code maxLocals ret :: tables_1
/-- a 'code' word, met by the world's own term for the bytes: nothing is compared byte by byte -/
theorem code_word {y : MethodName} {bytes : ByteArray} {mx : Nat} {rt : Option FieldType} {a : Array Value} {s : State} {m : MethodId} {meth : Method} {c : Code} (h1 : s.methodNamed? y = some m) (h2 : s.vm.method? m = some meth) (h3 : meth.code = some c) (h4 : c.code = bytes)
    (h5 : (c.maxLocals == mx && c.exceptionTable.isEmpty && decide (c.maxStack ≤ mostOperands) && decide (meth.sig.returnType = rt) && !meth.locks && decide (parseMethodDescriptor y.desc = some meth.sig)) = true) : (Jvm.Cond.code y bytes mx rt).before a s = true := by
  simp only [Bool.and_eq_true, beq_iff_eq, Bool.not_eq_true', decide_eq_true_eq] at h5
  obtain ⟨⟨⟨⟨⟨g1, g2⟩, g3⟩, g4⟩, g5⟩, g6⟩ := h5
  simp [Cond.before, Cond.holds, Cond.value, h1, h2, h3, h4, g1, g2, g3, g4, g5, g6]
def isCode : Jvm.Cond → Bool
  | .code _ _ _ _ => true
  | _ => false
theorem all_split {L : List Jvm.Cond} {P : Jvm.Cond → Bool} (h1 : L.all (fun c => isCode c || P c) = true) (h2 : ∀ c ∈ L.filter isCode, P c = true) : L.all P = true := by
  refine List.all_eq_true.mpr fun c hc => ?_
  have h := List.all_eq_true.mp h1 c hc
  rcases Bool.eq_false_or_eq_true (isCode c) with hi | hi
  · exact h2 c (List.mem_filter.mpr ⟨hc, hi⟩)
  · simpa [hi] using h
set_option maxRecDepth 65536 in
theorem w_c0 : (Jvm.Cond.code x code maxLocals ret).before args0 about1 = true := code_word (m := ⟨1, 1⟩) (meth := k1m1) (c := k1c1) (by decide +kernel) rfl rfl rfl (by decide +kernel)
set_option maxRecDepth 65536 in
theorem w_c1 : (Jvm.Cond.code ({ cls := "cartouche/oai/CodeRepeatsArgumentsPinLaw", name := "pick", desc := "(I)Lcartouche/oai/OaiException$Code;" } : Jvm.MethodName) method_3_code (1 : Nat) (Option.some (Jvm.ClassFile.FieldType.object "cartouche/oai/OaiException$Code"))).before args0 about1 = true := code_word (m := ⟨1, 2⟩) (meth := k1m2) (c := k1c2) (by decide +kernel) rfl rfl rfl (by decide +kernel)
set_option maxRecDepth 65536 in
theorem w_c2 : (Jvm.Cond.code ({ cls := "cartouche/oai/OaiException$Code", name := "repeatsArguments", desc := "()Z" } : Jvm.MethodName) prog_126_method_5_code (1 : Nat) (Option.some Jvm.ClassFile.FieldType.boolean)).before args0 about1 = true := code_word (m := ⟨6, 0⟩) (meth := k6m0) (c := k6c0) (by decide +kernel) rfl rfl rfl (by decide +kernel)
def codes1 : List Jvm.Cond := [Jvm.Cond.code x code maxLocals ret, Jvm.Cond.code ({ cls := "cartouche/oai/CodeRepeatsArgumentsPinLaw", name := "pick", desc := "(I)Lcartouche/oai/OaiException$Code;" } : Jvm.MethodName) method_3_code (1 : Nat) (Option.some (Jvm.ClassFile.FieldType.object "cartouche/oai/OaiException$Code")), Jvm.Cond.code ({ cls := "cartouche/oai/OaiException$Code", name := "repeatsArguments", desc := "()Z" } : Jvm.MethodName) prog_126_method_5_code (1 : Nat) (Option.some Jvm.ClassFile.FieldType.boolean)]
set_option maxRecDepth 65536 in
theorem codes_eq : words1.filter isCode = codes1 := rfl
theorem w_codes : ∀ c ∈ words1.filter isCode, c.before args0 about1 = true := by
  rw [codes_eq]
  intro c hc
  simp only [codes1, List.mem_cons, List.not_mem_nil, or_false] at hc
  rcases hc with rfl | rfl | rfl
  · exact w_c0
  · exact w_c1
  · exact w_c2
set_option maxRecDepth 65536 in
theorem w_t1 : (words1.take 24).all (fun c => isCode c || c.before args0 about1) = true := by decide +kernel
set_option maxRecDepth 65536 in
theorem w_t2 : (words1.drop 24).all (fun c => isCode c || c.before args0 about1) = true := by decide +kernel
theorem w_tables : (allAtoms (Jvm.Cond.code x code maxLocals ret :: tables_1)).before args0 about1 = true := by
  rw [allAtoms_all]
  show words1.all (fun c => c.before args0 about1) = true
  refine all_split ?_ w_codes
  rw [← List.take_append_drop 24 words1, List.all_append, w_t1, w_t2]
  rfl
set_option maxRecDepth 65536 in
theorem w_case : (Jvm.Cond.and given_1 narrow_1).before args0 about1 = true := by decide +kernel
theorem w_applies : (headSpec (Jvm.Cond.code x code maxLocals ret :: tables_1) room_1).applies x e0.platform about1 = true :=
  (Spec.applies_iff w_frames).mpr ⟨w_running, w_runnable, w_alone, w_named, w_hears, w_ripe, w_room, w_tables⟩
theorem atStart : AtStart classFile x code maxLocals ret World_1 tables_1 room_1 Calls_1 rest_1 Pre_1 launch0 p0 e0 about1 theMethod args0 below0 :=
  ⟨lists_1, trivial, launch0.admits_env _ _ _, launch0.least_env, fairChoices_fair.cas, fairChoices_fair.clock, w_frames, w_args, w_heap, w_applies, trivial, trivial, w_case⟩
end start1
theorem witness_1 : WitnessClaimed_1 := ⟨start1.p0, start1.e0, start1.about1, start1.theMethod, start1.args0, start1.below0, start1.atStart⟩
end Jvm.Pilot.@@N@@
