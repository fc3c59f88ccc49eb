import JvmDerived
import JvmDerived.Pilot.@@N@@Statement
import JvmDerived.Pilot.@@N@@Code
set_option linter.unusedVariables false
set_option linter.unusedSimpArgs false
namespace Jvm.RoadKit
open Sem ClassFile Op Lib Jvm.Stand Jvm.Free Jvm.LawKit
section New
variable {p : Program} {l : Launch} {e : Env} {R : Room} {s : State} {m : MethodId} {args : Array Value} {below : List Frame} {meth : Method} {c : Code} {T : State} {locs : List Loc} {cells slots : Nat}
theorem retI (X : Stand p l e R s m args below meth c T locs cells slots) (hx : p.tables.exec = Jvm.exec) {pc : Nat} {Ls : Array Slot} {z : Int32} {rest : List Value} (hret : meth.sig.returnType = some .int) (hd : decode c.code pc = .ok (.ireturn, 1)) {fs : List Frame}
    (hl : ∀ (f : JFrame) (acts : List Action), f.method = m → f.locked = none → f.entered = [] → (doReturn e (T.setTop f) acts (some (.int z))).1 = T.setFrames fs) : Steps p.tables e below (T.setTop (mkF m pc Ls (.int z :: rest))) (T.setFrames fs) := by
  have hm' : T.vm.method? m = some meth := X.method'
  have hn : narrow .int (.int z) = .int z := rfl
  show Steps p.tables e below (T.setTop { method := m, pc := pc, locals := Ls, stack := _ :: rest, locked := none }) _
  jvm_step X.here [X.here.top, hx, hd, hm', hret, hn]
  first | (intro acts; rw [hl _ acts rfl rfl rfl]) | rw [hl _ _ rfl rfl rfl]
  exact Steps.refl _
end New
end Jvm.RoadKit
namespace Jvm.Pilot.@@N@@
open Jvm Jvm.ClassFile Sem Op Lib Jvm.Free Jvm.Stand Jvm.LawKit Jvm.RoadKit Bundle Jvm.Pilot.@@N@@.Jvm.D
theorem own_eqI {t : Term} {args : Array Value} {first s : State} {o : Option Outcome} {idx : List Nat} {k : Int32} (h : (Jvm.Cond.eq t (.int k)).value args first o s idx = some true) : t.eval args first o idx s = some (.int k) := by
  cases ht : t.eval args first o idx s with
  | none => simp [Cond.value, ht] at h
  | some x => cases x <;> simp [Cond.value, ht, Term.eval] at h ⊢ <;> exact h
theorem own_eqJ {t : Term} {args : Array Value} {first s : State} {o : Option Outcome} {idx : List Nat} {k : Int64} (h : (Jvm.Cond.eq t (.long k)).value args first o s idx = some true) : t.eval args first o idx s = some (.long k) := by
  cases ht : t.eval args first o idx s with
  | none => simp [Cond.value, ht] at h
  | some x => cases x <;> simp [Cond.value, ht, Term.eval] at h ⊢ <;> exact h
theorem own_eqR {t u : Term} {args : Array Value} {first s : State} {o : Option Outcome} {idx : List Nat} {x : Addr} (h : (Jvm.Cond.eq t u).value args first o s idx = some true) (hu : u.eval args first o idx s = some (.ref x)) : t.eval args first o idx s = some (.ref x) := by
  cases ht : t.eval args first o idx s with
  | none => simp [Cond.value, ht] at h
  | some z => cases z <;> simp [Cond.value, ht, hu] at h ⊢ <;> exact h
theorem cat_of {v : Value} (h : v.isRef = true) : v.category = 1 := by rcases ref_cases h with rfl | ⟨a, rfl⟩ <;> rfl
theorem own_fits {n : String} {v : Value} (h : v.isRef = true) : fits (.object n) v = true := by rcases ref_cases h with rfl | ⟨a, rfl⟩ <;> rfl
theorem own_exa_ns {Z : State} {h : Heap} {a : Addr} {C : String} (E : Exa Z h a C) : ∀ c : Cell, h[a]? = some c → c.vm.isStatics = false := fun c hc => by
  obtain ⟨cell, k, h1, -, -, h4, -⟩ := E
  cases h1.symm.trans hc; exact h4
theorem own_sta_keep {Z : State} {h h' : Heap} {ws : List Addr} {C n d : String} {v : Value} (F : Sta Z h C n d v) (K : Keep h h' ws) (q : ∀ x ∈ ws, ∀ c : Cell, h[x]? = some c → c.vm.isStatics = false) : Sta Z h' C n d v := by
  obtain ⟨cf, i, k, f, st, cell, h1, h2, h3, h4, h5, h6, r⟩ := F
  refine ⟨cf, i, k, f, st, cell, h1, h2, h3, h4, K.2.1 st cell h5 (fun hm => ?_), h6, r⟩
  have := q st hm cell h5
  rw [h6] at this; cases this
theorem own_last3 {i : Int32} (hr : 0 ≤ i.toInt ∧ i.toInt < 3) (h0 : ¬ i = 0) (h1 : ¬ i = 1) : 2 = i := by
  apply Int32.toInt_inj.mp
  have g : ∀ k : Int32, ¬ i = k → i.toInt ≠ k.toInt := fun k h e => h (Int32.toInt_inj.mp e)
  have := g 0 h0; have := g 1 h1
  have q : (0 : Int32).toInt = 0 ∧ (1 : Int32).toInt = 1 ∧ (2 : Int32).toInt = 2 := by decide
  omega
theorem own_rng (x y : Int32) (d : Int) (hy : y.toInt = d) (hd : 0 < d) : 0 ≤ ((x &&& 2147483647) % y).toInt ∧ ((x &&& 2147483647) % y).toInt < d := by
  have h := c_and x 2147483647 (by decide)
  have g := (c_irem (x &&& 2147483647) y d hy).1 h.1
  rw [g]; exact ⟨Int.emod_nonneg _ (by omega), Int.emod_lt_of_pos _ hd⟩
theorem pn_0 : plainName "com/example/rotarium/rotarium/AttitudeConventionSharesFramesWithPinLaw" = true := by first | (simp [plainName, overriddenIn]; done) | decide +kernel
theorem d1_0 : decode method_2_code 0 = .ok (.iload_n 0, 1) := by decide +kernel
theorem d1_1 : decode method_2_code 1 = .ok (.ifCond .ne 7, 3) := by decide +kernel
theorem d1_4 : decode method_2_code 4 = .ok (.getstatic 7, 3) := by decide +kernel
theorem d1_7 : decode method_2_code 7 = .ok (.areturn, 1) := by decide +kernel
theorem d1_8 : decode method_2_code 8 = .ok (.iload_n 0, 1) := by decide +kernel
theorem d1_9 : decode method_2_code 9 = .ok (.iconst 1, 1) := by decide +kernel
theorem d1_10 : decode method_2_code 10 = .ok (.if_icmp .ne 7, 3) := by decide +kernel
theorem d1_13 : decode method_2_code 13 = .ok (.getstatic 13, 3) := by decide +kernel
theorem d1_16 : decode method_2_code 16 = .ok (.areturn, 1) := by decide +kernel
theorem d1_17 : decode method_2_code 17 = .ok (.getstatic 16, 3) := by decide +kernel
theorem d1_20 : decode method_2_code 20 = .ok (.areturn, 1) := by decide +kernel
theorem ef_1 (m : MethodId) (x0 : Int32)  : entryFrame m #[(.int x0)] 1 = mkF m 0 #[.val (.int x0)] [] := by first | (simp [entryFrame, mkF, argsToLocals, Value.category]; done) | rfl
def Q1 (Z : State) (p0 : Int32) (w_INS_ENU_0 : Addr) (w_NED_YPR_1 : Addr) (w_YUP_HAB_2 : Addr) (h0 : Heap) (n0 : Nat) (v : Option Value) (h : Heap) (L : List Loc) : Prop := (∃ r : Addr, v = some (.ref r) ∧ (((0 : Int32) = p0 ∧ w_INS_ENU_0 = r) ∨ ((1 : Int32) = p0 ∧ w_NED_YPR_1 = r) ∨ ((2 : Int32) = p0 ∧ w_YUP_HAB_2 = r))) ∧ Fr n0 L ∧ h = h0
set_option maxRecDepth 65536 in
set_option maxHeartbeats 40000000 in
theorem rm1 (l : Launch) (Z : State) (aw : Array Value) (hw : ∀ d ∈ tables_1, d.before aw Z = true) (ws : List Jvm.Cond) (p0 : Int32) (w_INS_ENU_0 : Addr) (w_NED_YPR_1 : Addr) (w_YUP_HAB_2 : Addr) (h0 : Heap) (n0 : Nat) (Z0 : n0 ≤ h0.size) (hrg : 0 ≤ p0.toInt ∧ p0.toInt < 3) (Sf_INS_ENU_1 : Sta Z h0 "com/example/rotarium/rotarium/AttitudeConvention" "INS_ENU" "Lcom/example/rotarium/rotarium/AttitudeConvention;" (.ref w_INS_ENU_0)) (Sf_NED_YPR_2 : Sta Z h0 "com/example/rotarium/rotarium/AttitudeConvention" "NED_YPR" "Lcom/example/rotarium/rotarium/AttitudeConvention;" (.ref w_NED_YPR_1)) (Sf_YUP_HAB_3 : Sta Z h0 "com/example/rotarium/rotarium/AttitudeConvention" "YUP_HAB" "Lcom/example/rotarium/rotarium/AttitudeConvention;" (.ref w_YUP_HAB_2)) :
    MetFree l (⟨"com/example/rotarium/rotarium/AttitudeConventionSharesFramesWithPinLaw", "pick", "(I)Lcom/example/rotarium/rotarium/AttitudeConvention;"⟩ : MethodName) (head1 (Jvm.Cond.code (⟨"com/example/rotarium/rotarium/AttitudeConventionSharesFramesWithPinLaw", "pick", "(I)Lcom/example/rotarium/rotarium/AttitudeConvention;"⟩ : MethodName) method_2_code 1 (some (.object "com/example/rotarium/rotarium/AttitudeConvention")) :: ws) ({ frames := 0, cells := 0, slots := 0, locals := 0 } : Room)) (fun a U => a = #[(.int p0)] ∧ Z.Warmed39 U.vm ∧ U.heap = h0) (fun _ _ _ _ _ => True) (fun _ U o U' => ∃ v L, o = .returned v ∧ Q1 Z p0 w_INS_ENU_0 w_NED_YPR_1 w_YUP_HAB_2 h0 n0 v U'.heap L ∧ FrameEnd U o U' L ({ frames := 0, cells := 0, slots := 0, locals := 0 } : Room).cells ({ frames := 0, cells := 0, slots := 0, locals := 0 } : Room).slots) := by
  refine MetFree.of_bodySF (plainFor_of_name pn_0) hisR ?_
  intro p e s m args below meth c s₁ Bd hml0 hP hK
  obtain ⟨rfl, hZ, hh⟩ := hP
  have hx := Bd.exec
  have hby := Bd.bytes
  have hml : c.maxLocals = 1 := hml0
  have hown : s.vm.findClass "com/example/rotarium/rotarium/AttitudeConventionSharesFramesWithPinLaw" = some m.cls := findClass_of_methodNamed Bd.named
  have hnm := (name_of_methodNamed Bd.named Bd.method).1
  have X0 : Stand p l e ({ frames := 0, cells := 0, slots := 0, locals := 0 } : Room) s m #[(.int p0)] below meth c s₁ [] 0 0 := Stand.of_body Bd
  have e0 : s₁.heap = h0 := by rw [← hh, Bd.state]; rfl
  have N0 := Fr.nil n0
  have pre0 : ∀ t, Steps p.tables e below (s₁.setTop (mkF m 0 #[.val (.int p0)] [])) t → Steps p.tables e below (s₁.setTop (entryFrame m #[(.int p0)] 1)) t := fun t k => castTop (ef_1 m p0 ) k
  have pre1 : ∀ t, Steps p.tables e below (s₁.setTop (mkF m 1 #[.val (.int p0)] [(.int p0)])) t → Steps p.tables e below (s₁.setTop (entryFrame m #[(.int p0)] 1)) t := fun t kt => pre0 t (by
      show Steps p.tables e below (s₁.setTop (mkF m 0 #[.val (.int p0)] [])) _
      refine XS.iloadN X0.here hx rfl (hb hby d1_0) rfl ?_
      exact kt)
  by_cases hc2 : p0 = (0 : Int32)
  · skip
    obtain ⟨T3, X3, e3, st3⟩ := getS2 X0 hx hZ hown (host := "") (Or.inl (hw _ (List.mem_of_getElem? (i := 5) rfl))) Via.refl e0 Sf_INS_ENU_1 (g := (mkF m 4 #[.val (.int p0)] [])) rfl (hb hby d1_4)
    have pre4 : ∀ t, Steps p.tables e below (T3.setTop (mkF m 7 #[.val (.int p0)] [(.ref w_INS_ENU_0)])) t → Steps p.tables e below (s₁.setTop (entryFrame m #[(.int p0)] 1)) t := fun t kt => pre1 t (by
        show Steps p.tables e below (s₁.setTop (mkF m 1 #[.val (.int p0)] [(.int p0)])) _
        refine XS.ifNo X0.here hx rfl (hb hby d1_1) rfl ((if0 _ _).trans (teq hc2).2) ?_
        show Steps p.tables e below (s₁.setTop (mkF m 4 #[.val (.int p0)] [])) _
        refine st3 _ ?_
        exact kt)
    obtain ⟨fs, hr, hrun, hended, hW, hsame⟩ := X3.leave (v := some (.ref w_INS_ENU_0)) (fun h => by rw [Bd.returns] at h; cases h)
    refine ⟨_, _, pre4 _ ?_, hrun, hended, _, _, rfl, ?_, ⟨_, rfl⟩, hW, hsame.mono (by decide) (by decide)⟩
    · show Steps p.tables e below (T3.setTop (mkF m 7 #[.val (.int p0)] [(.ref w_INS_ENU_0)])) _
      jvm_step X3.here [X3.here.top, hx, (hb hby d1_7), X3.method', Bd.returns, Value.isRef, FieldType.isReference]
      first | (intro acts; rw [hr _ acts rfl rfl rfl]) | rw [hr _ _ rfl rfl rfl]
      exact Steps.refl _
    · show Q1 Z _ _ _ _ h0 n0 _ T3.heap _
      rw [e3]
      exact ⟨⟨_, rfl, Or.inl ⟨hc2.symm, rfl⟩⟩, N0, rfl⟩
  · skip
    have pre5 : ∀ t, Steps p.tables e below (s₁.setTop (mkF m 10 #[.val (.int p0)] [(.int (1 : Int32)), (.int p0)])) t → Steps p.tables e below (s₁.setTop (entryFrame m #[(.int p0)] 1)) t := fun t kt => pre1 t (by
        show Steps p.tables e below (s₁.setTop (mkF m 1 #[.val (.int p0)] [(.int p0)])) _
        refine XS.ifYes X0.here hx rfl (pc0 := 1) (pc' := 8) rfl (hb hby d1_1) rfl ((if0 _ _).trans (feq hc2).2) (by decide) (by decide) ?_
        show Steps p.tables e below (s₁.setTop (mkF m 8 #[.val (.int p0)] [])) _
        refine XS.iloadN X0.here hx rfl (hb hby d1_8) rfl ?_
        show Steps p.tables e below (s₁.setTop (mkF m 9 #[.val (.int p0)] [(.int p0)])) _
        refine XS.iconst X0.here hx rfl (hb hby d1_9) ?_
        exact kt)
    by_cases hc6 : p0 = (1 : Int32)
    · skip
      obtain ⟨T7, X7, e7, st7⟩ := getS2 X0 hx hZ hown (host := "") (Or.inl (hw _ (List.mem_of_getElem? (i := 15) rfl))) Via.refl e0 Sf_NED_YPR_2 (g := (mkF m 13 #[.val (.int p0)] [])) rfl (hb hby d1_13)
      have pre8 : ∀ t, Steps p.tables e below (T7.setTop (mkF m 16 #[.val (.int p0)] [(.ref w_NED_YPR_1)])) t → Steps p.tables e below (s₁.setTop (entryFrame m #[(.int p0)] 1)) t := fun t kt => pre5 t (by
          show Steps p.tables e below (s₁.setTop (mkF m 10 #[.val (.int p0)] [(.int (1 : Int32)), (.int p0)])) _
          refine XS.icmpNo X0.here hx rfl (hb hby d1_10) rfl (teq hc6).2 ?_
          show Steps p.tables e below (s₁.setTop (mkF m 13 #[.val (.int p0)] [])) _
          refine st7 _ ?_
          exact kt)
      obtain ⟨fs, hr, hrun, hended, hW, hsame⟩ := X7.leave (v := some (.ref w_NED_YPR_1)) (fun h => by rw [Bd.returns] at h; cases h)
      refine ⟨_, _, pre8 _ ?_, hrun, hended, _, _, rfl, ?_, ⟨_, rfl⟩, hW, hsame.mono (by decide) (by decide)⟩
      · show Steps p.tables e below (T7.setTop (mkF m 16 #[.val (.int p0)] [(.ref w_NED_YPR_1)])) _
        jvm_step X7.here [X7.here.top, hx, (hb hby d1_16), X7.method', Bd.returns, Value.isRef, FieldType.isReference]
        first | (intro acts; rw [hr _ acts rfl rfl rfl]) | rw [hr _ _ rfl rfl rfl]
        exact Steps.refl _
      · show Q1 Z _ _ _ _ h0 n0 _ T7.heap _
        rw [e7]
        exact ⟨⟨_, rfl, Or.inr (Or.inl ⟨hc6.symm, rfl⟩)⟩, N0, rfl⟩
    · skip
      obtain ⟨T9, X9, e9, st9⟩ := getS2 X0 hx hZ hown (host := "") (Or.inl (hw _ (List.mem_of_getElem? (i := 13) rfl))) Via.refl e0 Sf_YUP_HAB_3 (g := (mkF m 17 #[.val (.int p0)] [])) rfl (hb hby d1_17)
      have pre10 : ∀ t, Steps p.tables e below (T9.setTop (mkF m 20 #[.val (.int p0)] [(.ref w_YUP_HAB_2)])) t → Steps p.tables e below (s₁.setTop (entryFrame m #[(.int p0)] 1)) t := fun t kt => pre5 t (by
          show Steps p.tables e below (s₁.setTop (mkF m 10 #[.val (.int p0)] [(.int (1 : Int32)), (.int p0)])) _
          refine XS.icmpYes X0.here hx rfl (pc0 := 10) (pc' := 17) rfl (hb hby d1_10) rfl (feq hc6).2 (by decide) (by decide) ?_
          show Steps p.tables e below (s₁.setTop (mkF m 17 #[.val (.int p0)] [])) _
          refine st9 _ ?_
          exact kt)
      obtain ⟨fs, hr, hrun, hended, hW, hsame⟩ := X9.leave (v := some (.ref w_YUP_HAB_2)) (fun h => by rw [Bd.returns] at h; cases h)
      refine ⟨_, _, pre10 _ ?_, hrun, hended, _, _, rfl, ?_, ⟨_, rfl⟩, hW, hsame.mono (by decide) (by decide)⟩
      · show Steps p.tables e below (T9.setTop (mkF m 20 #[.val (.int p0)] [(.ref w_YUP_HAB_2)])) _
        jvm_step X9.here [X9.here.top, hx, (hb hby d1_20), X9.method', Bd.returns, Value.isRef, FieldType.isReference]
        first | (intro acts; rw [hr _ acts rfl rfl rfl]) | rw [hr _ _ rfl rfl rfl]
        exact Steps.refl _
      · show Q1 Z _ _ _ _ h0 n0 _ T9.heap _
        rw [e9]
        exact ⟨⟨_, rfl, Or.inr (Or.inr (⟨(own_last3 hrg hc2 hc6), rfl⟩))⟩, N0, rfl⟩
theorem pn_1 : plainName "com/example/rotarium/rotarium/AttitudeConvention" = true := by first | (simp [plainName, overriddenIn]; done) | decide +kernel
theorem d2_0 : decode prog_2_method_8_code 0 = .ok (.aload_n 1, 1) := by decide +kernel
theorem d2_1 : decode prog_2_method_8_code 1 = .ok (.aload_n 0, 1) := by decide +kernel
theorem d2_2 : decode prog_2_method_8_code 2 = .ok (.if_acmp .eq 17, 3) := by decide +kernel
theorem d2_5 : decode prog_2_method_8_code 5 = .ok (.aload_n 0, 1) := by decide +kernel
theorem d2_6 : decode prog_2_method_8_code 6 = .ok (.getfield 44, 3) := by decide +kernel
theorem d2_9 : decode prog_2_method_8_code 9 = .ok (.ifnull 14, 3) := by decide +kernel
theorem d2_12 : decode prog_2_method_8_code 12 = .ok (.aload_n 1, 1) := by decide +kernel
theorem d2_13 : decode prog_2_method_8_code 13 = .ok (.getfield 44, 3) := by decide +kernel
theorem d2_16 : decode prog_2_method_8_code 16 = .ok (.ifnull 7, 3) := by decide +kernel
theorem d2_19 : decode prog_2_method_8_code 19 = .ok (.iconst 1, 1) := by decide +kernel
theorem d2_20 : decode prog_2_method_8_code 20 = .ok (.goto 4, 3) := by decide +kernel
theorem d2_23 : decode prog_2_method_8_code 23 = .ok (.iconst 0, 1) := by decide +kernel
theorem d2_24 : decode prog_2_method_8_code 24 = .ok (.ireturn, 1) := by decide +kernel
theorem ef_2 (m : MethodId) (x0 : Addr) (x1 : Addr)  : entryFrame m #[(.ref x0), (.ref x1)] 2 = mkF m 0 #[.val (.ref x0), .val (.ref x1)] [] := by first | (simp [entryFrame, mkF, argsToLocals, Value.category]; done) | rfl
def Q2 (Z : State) (a0 : Addr) (a1 : Addr) (u_northEastDownAxes_0 : Value) (u_northEastDownAxes_1 : Value) (h0 : Heap) (n0 : Nat) (v : Option Value) (h : Heap) (L : List Loc) : Prop := (∃ r : Int32, v = some (.int r) ∧ ((a1 = a0 → (1 : Int32) = r) ∧ (¬ a1 = a0 → u_northEastDownAxes_0 = .null → (0 : Int32) = r) ∧ (¬ a1 = a0 → u_northEastDownAxes_1 = .null → (0 : Int32) = r) ∧ (¬ a1 = a0 → ¬ u_northEastDownAxes_0 = .null → ¬ u_northEastDownAxes_1 = .null → (1 : Int32) = r))) ∧ Fr n0 L ∧ h = h0
set_option maxRecDepth 65536 in
set_option maxHeartbeats 40000000 in
theorem rm2 (l : Launch) (Z : State) (aw : Array Value) (hw : ∀ d ∈ tables_1, d.before aw Z = true) (ws : List Jvm.Cond) (a0 : Addr) (a1 : Addr) (u_northEastDownAxes_0 : Value) (u_northEastDownAxes_1 : Value) (h0 : Heap) (n0 : Nat) (Z0 : n0 ≤ h0.size) (hu_u_northEastDownAxes_0 : u_northEastDownAxes_0.isRef = true) (Ff_northEastDownAxes_1 : Fld Z h0 a0 "com/example/rotarium/rotarium/AttitudeConvention" "northEastDownAxes" "[I" u_northEastDownAxes_0) (hu_u_northEastDownAxes_1 : u_northEastDownAxes_1.isRef = true) (Ff_northEastDownAxes_3 : Fld Z h0 a1 "com/example/rotarium/rotarium/AttitudeConvention" "northEastDownAxes" "[I" u_northEastDownAxes_1) :
    MetFree l (⟨"com/example/rotarium/rotarium/AttitudeConvention", "sharesFramesWith", "(Lcom/example/rotarium/rotarium/AttitudeConvention;)Z"⟩ : MethodName) (head1 (Jvm.Cond.code (⟨"com/example/rotarium/rotarium/AttitudeConvention", "sharesFramesWith", "(Lcom/example/rotarium/rotarium/AttitudeConvention;)Z"⟩ : MethodName) prog_2_method_8_code 2 (some .boolean) :: ws) ({ frames := 0, cells := 0, slots := 0, locals := 0 } : Room)) (fun a U => a = #[(.ref a0), (.ref a1)] ∧ Z.Warmed39 U.vm ∧ U.heap = h0) (fun _ _ _ _ _ => True) (fun _ U o U' => ∃ v L, o = .returned v ∧ Q2 Z a0 a1 u_northEastDownAxes_0 u_northEastDownAxes_1 h0 n0 v U'.heap L ∧ FrameEnd U o U' L ({ frames := 0, cells := 0, slots := 0, locals := 0 } : Room).cells ({ frames := 0, cells := 0, slots := 0, locals := 0 } : Room).slots) := by
  refine MetFree.of_bodySF (plainFor_of_name pn_1) hisR ?_
  intro p e s m args below meth c s₁ Bd hml0 hP hK
  obtain ⟨rfl, hZ, hh⟩ := hP
  have hx := Bd.exec
  have hby := Bd.bytes
  have hml : c.maxLocals = 2 := hml0
  have hown : s.vm.findClass "com/example/rotarium/rotarium/AttitudeConvention" = some m.cls := findClass_of_methodNamed Bd.named
  have hnm := (name_of_methodNamed Bd.named Bd.method).1
  have X0 : Stand p l e ({ frames := 0, cells := 0, slots := 0, locals := 0 } : Room) s m #[(.ref a0), (.ref a1)] below meth c s₁ [] 0 0 := Stand.of_body Bd
  have e0 : s₁.heap = h0 := by rw [← hh, Bd.state]; rfl
  have N0 := Fr.nil n0
  have pre0 : ∀ t, Steps p.tables e below (s₁.setTop (mkF m 0 #[.val (.ref a0), .val (.ref a1)] [])) t → Steps p.tables e below (s₁.setTop (entryFrame m #[(.ref a0), (.ref a1)] 2)) t := fun t k => castTop (ef_2 m a0 a1 ) k
  have pre1 : ∀ t, Steps p.tables e below (s₁.setTop (mkF m 2 #[.val (.ref a0), .val (.ref a1)] [(.ref a0), (.ref a1)])) t → Steps p.tables e below (s₁.setTop (entryFrame m #[(.ref a0), (.ref a1)] 2)) t := fun t kt => pre0 t (by
      show Steps p.tables e below (s₁.setTop (mkF m 0 #[.val (.ref a0), .val (.ref a1)] [])) _
      refine XS.aloadN X0.here hx rfl (hb hby d2_0) rfl rfl ?_
      show Steps p.tables e below (s₁.setTop (mkF m 1 #[.val (.ref a0), .val (.ref a1)] [(.ref a1)])) _
      refine XS.aloadN X0.here hx rfl (hb hby d2_1) rfl rfl ?_
      exact kt)
  by_cases hc2 : a1 = a0
  · skip
    have pre3 : ∀ t, Steps p.tables e below (s₁.setTop (mkF m 24 #[.val (.ref a0), .val (.ref a1)] [(.int (1 : Int32))])) t → Steps p.tables e below (s₁.setTop (entryFrame m #[(.ref a0), (.ref a1)] 2)) t := fun t kt => pre1 t (by
        show Steps p.tables e below (s₁.setTop (mkF m 2 #[.val (.ref a0), .val (.ref a1)] [(.ref a0), (.ref a1)])) _
        refine Jvm.RoadKit.acmp (g := (mkF m 2 #[.val (.ref a0), .val (.ref a1)] [(.ref a0), (.ref a1)])) X0 hx rfl rfl rfl (pc0 := 2) (pc' := 19) (same := true) rfl (hb hby d2_2) rfl (decide_eq_true (congrArg Value.ref hc2)) (by decide) (by decide) ?_
        show Steps p.tables e below (s₁.setTop (mkF m 19 #[.val (.ref a0), .val (.ref a1)] [])) _
        refine XS.iconst X0.here hx rfl (hb hby d2_19) ?_
        show Steps p.tables e below (s₁.setTop (mkF m 20 #[.val (.ref a0), .val (.ref a1)] [(.int (1 : Int32))])) _
        refine XS.goto X0.here hx rfl (pc0 := 20) (pc' := 24) rfl (hb hby d2_20) (by decide) (by decide) ?_
        exact kt)
    obtain ⟨fs, hr, hrun, hended, hW, hsame⟩ := X0.leave (v := some (.int (1 : Int32))) (fun h => by rw [Bd.returns] at h; cases h)
    refine ⟨_, _, pre3 _ ?_, hrun, hended, _, _, rfl, ?_, ⟨_, rfl⟩, hW, hsame.mono (by decide) (by decide)⟩
    · show Steps p.tables e below (s₁.setTop (mkF m 24 #[.val (.ref a0), .val (.ref a1)] [(.int (1 : Int32))])) _
      exact retN X0 hx (t := .boolean) Bd.returns (by simp) (hb hby d2_24) hr
    · show Q2 Z _ _ _ _ h0 n0 _ s₁.heap _
      rw [e0]
      exact ⟨⟨_, rfl, by simp [hc2]⟩, N0, rfl⟩
  · skip
    obtain ⟨T4, X4, e4, st4⟩ := getF X0 hx hZ hown (host := "") (Or.inl (hw _ (List.mem_of_getElem? (i := 17) rfl))) Via.refl e0 Ff_northEastDownAxes_1 (g := (mkF m 6 #[.val (.ref a0), .val (.ref a1)] [(.ref a0)])) rfl rfl (hb hby d2_6)
    have pre5 : ∀ t, Steps p.tables e below (T4.setTop (mkF m 9 #[.val (.ref a0), .val (.ref a1)] [u_northEastDownAxes_0])) t → Steps p.tables e below (s₁.setTop (entryFrame m #[(.ref a0), (.ref a1)] 2)) t := fun t kt => pre1 t (by
        show Steps p.tables e below (s₁.setTop (mkF m 2 #[.val (.ref a0), .val (.ref a1)] [(.ref a0), (.ref a1)])) _
        refine Jvm.RoadKit.acmp (g := (mkF m 2 #[.val (.ref a0), .val (.ref a1)] [(.ref a0), (.ref a1)])) X0 hx rfl rfl rfl (pc0 := 2) (pc' := 5) (same := false) rfl (hb hby d2_2) rfl (decide_eq_false fun q => hc2 (Value.ref.inj q)) (by decide) (by decide) ?_
        show Steps p.tables e below (s₁.setTop (mkF m 5 #[.val (.ref a0), .val (.ref a1)] [])) _
        refine XS.aloadN X0.here hx rfl (hb hby d2_5) rfl rfl ?_
        show Steps p.tables e below (s₁.setTop (mkF m 6 #[.val (.ref a0), .val (.ref a1)] [(.ref a0)])) _
        refine st4 _ ?_
        exact kt)
    rcases ref_cases hu_u_northEastDownAxes_0 with rfl | ⟨u6, rfl⟩
    · skip
      have pre7 : ∀ t, Steps p.tables e below (T4.setTop (mkF m 24 #[.val (.ref a0), .val (.ref a1)] [(.int (0 : Int32))])) t → Steps p.tables e below (s₁.setTop (entryFrame m #[(.ref a0), (.ref a1)] 2)) t := fun t kt => pre5 t (by
          show Steps p.tables e below (T4.setTop (mkF m 9 #[.val (.ref a0), .val (.ref a1)] [.null])) _
          refine XS.ifnullYes X4.here hx rfl (pc0 := 9) (pc' := 23) rfl (hb hby d2_9) rfl (by decide) (by decide) ?_
          show Steps p.tables e below (T4.setTop (mkF m 23 #[.val (.ref a0), .val (.ref a1)] [])) _
          refine XS.iconst X4.here hx rfl (hb hby d2_23) ?_
          exact kt)
      obtain ⟨fs, hr, hrun, hended, hW, hsame⟩ := X4.leave (v := some (.int (0 : Int32))) (fun h => by rw [Bd.returns] at h; cases h)
      refine ⟨_, _, pre7 _ ?_, hrun, hended, _, _, rfl, ?_, ⟨_, rfl⟩, hW, hsame.mono (by decide) (by decide)⟩
      · show Steps p.tables e below (T4.setTop (mkF m 24 #[.val (.ref a0), .val (.ref a1)] [(.int (0 : Int32))])) _
        exact retN X4 hx (t := .boolean) Bd.returns (by simp) (hb hby d2_24) hr
      · show Q2 Z _ _ _ _ h0 n0 _ T4.heap _
        rw [e4]
        exact ⟨⟨_, rfl, by simp [hc2]⟩, N0, rfl⟩
    · skip
      obtain ⟨T8, X8, e8, st8⟩ := getF X4 hx hZ hown (host := "") (Or.inl (hw _ (List.mem_of_getElem? (i := 17) rfl))) Via.refl e4 Ff_northEastDownAxes_3 (g := (mkF m 13 #[.val (.ref a0), .val (.ref a1)] [(.ref a1)])) rfl rfl (hb hby d2_13)
      have pre9 : ∀ t, Steps p.tables e below (T8.setTop (mkF m 16 #[.val (.ref a0), .val (.ref a1)] [u_northEastDownAxes_1])) t → Steps p.tables e below (s₁.setTop (entryFrame m #[(.ref a0), (.ref a1)] 2)) t := fun t kt => pre5 t (by
          show Steps p.tables e below (T4.setTop (mkF m 9 #[.val (.ref a0), .val (.ref a1)] [(.ref u6)])) _
          refine XS.ifnullNo X4.here hx rfl (hb hby d2_9) rfl ?_
          show Steps p.tables e below (T4.setTop (mkF m 12 #[.val (.ref a0), .val (.ref a1)] [])) _
          refine XS.aloadN X4.here hx rfl (hb hby d2_12) rfl rfl ?_
          show Steps p.tables e below (T4.setTop (mkF m 13 #[.val (.ref a0), .val (.ref a1)] [(.ref a1)])) _
          refine st8 _ ?_
          exact kt)
      rcases ref_cases hu_u_northEastDownAxes_1 with rfl | ⟨u10, rfl⟩
      · skip
        have pre11 : ∀ t, Steps p.tables e below (T8.setTop (mkF m 24 #[.val (.ref a0), .val (.ref a1)] [(.int (0 : Int32))])) t → Steps p.tables e below (s₁.setTop (entryFrame m #[(.ref a0), (.ref a1)] 2)) t := fun t kt => pre9 t (by
            show Steps p.tables e below (T8.setTop (mkF m 16 #[.val (.ref a0), .val (.ref a1)] [.null])) _
            refine XS.ifnullYes X8.here hx rfl (pc0 := 16) (pc' := 23) rfl (hb hby d2_16) rfl (by decide) (by decide) ?_
            show Steps p.tables e below (T8.setTop (mkF m 23 #[.val (.ref a0), .val (.ref a1)] [])) _
            refine XS.iconst X8.here hx rfl (hb hby d2_23) ?_
            exact kt)
        obtain ⟨fs, hr, hrun, hended, hW, hsame⟩ := X8.leave (v := some (.int (0 : Int32))) (fun h => by rw [Bd.returns] at h; cases h)
        refine ⟨_, _, pre11 _ ?_, hrun, hended, _, _, rfl, ?_, ⟨_, rfl⟩, hW, hsame.mono (by decide) (by decide)⟩
        · show Steps p.tables e below (T8.setTop (mkF m 24 #[.val (.ref a0), .val (.ref a1)] [(.int (0 : Int32))])) _
          exact retN X8 hx (t := .boolean) Bd.returns (by simp) (hb hby d2_24) hr
        · show Q2 Z _ _ _ _ h0 n0 _ T8.heap _
          rw [e8]
          exact ⟨⟨_, rfl, by simp [hc2]⟩, N0, rfl⟩
      · skip
        have pre12 : ∀ t, Steps p.tables e below (T8.setTop (mkF m 24 #[.val (.ref a0), .val (.ref a1)] [(.int (1 : Int32))])) t → Steps p.tables e below (s₁.setTop (entryFrame m #[(.ref a0), (.ref a1)] 2)) t := fun t kt => pre9 t (by
            show Steps p.tables e below (T8.setTop (mkF m 16 #[.val (.ref a0), .val (.ref a1)] [(.ref u10)])) _
            refine XS.ifnullNo X8.here hx rfl (hb hby d2_16) rfl ?_
            show Steps p.tables e below (T8.setTop (mkF m 19 #[.val (.ref a0), .val (.ref a1)] [])) _
            refine XS.iconst X8.here hx rfl (hb hby d2_19) ?_
            show Steps p.tables e below (T8.setTop (mkF m 20 #[.val (.ref a0), .val (.ref a1)] [(.int (1 : Int32))])) _
            refine XS.goto X8.here hx rfl (pc0 := 20) (pc' := 24) rfl (hb hby d2_20) (by decide) (by decide) ?_
            exact kt)
        obtain ⟨fs, hr, hrun, hended, hW, hsame⟩ := X8.leave (v := some (.int (1 : Int32))) (fun h => by rw [Bd.returns] at h; cases h)
        refine ⟨_, _, pre12 _ ?_, hrun, hended, _, _, rfl, ?_, ⟨_, rfl⟩, hW, hsame.mono (by decide) (by decide)⟩
        · show Steps p.tables e below (T8.setTop (mkF m 24 #[.val (.ref a0), .val (.ref a1)] [(.int (1 : Int32))])) _
          exact retN X8 hx (t := .boolean) Bd.returns (by simp) (hb hby d2_24) hr
        · show Q2 Z _ _ _ _ h0 n0 _ T8.heap _
          rw [e8]
          exact ⟨⟨_, rfl, by simp [hc2]⟩, N0, rfl⟩
theorem pd_0 : parseMethodDescriptor "(I)Lcom/example/rotarium/rotarium/AttitudeConvention;" = some ⟨[.int], some (.object "com/example/rotarium/rotarium/AttitudeConvention")⟩ := by decide +kernel
theorem pd_1 : parseMethodDescriptor "(Lcom/example/rotarium/rotarium/AttitudeConvention;)Z" = some ⟨[(.object "com/example/rotarium/rotarium/AttitudeConvention")], some .boolean⟩ := by decide +kernel
theorem ef_0 (m : MethodId) (x0 : Int32) (x1 : Int32)  : entryFrame m #[(.int x0), (.int x1)] maxLocals = mkF m 0 #[.val (.int x0), .val (.int x1), .unset, .unset, .unset, .unset, .unset] [] := by first | (simp [entryFrame, mkF, argsToLocals, Value.category, maxLocals]; done) | rfl
def Q0 (Z : State) (p0 : Int32) (p1 : Int32) (w_INS_ENU_1 : Addr) (w_YUP_HAB_3 : Addr) (w_NED_YPR_5 : Addr) (u_northEastDownAxes_7 : Addr) (u_northEastDownAxes_9 : Addr) (h0 : Heap) (n0 : Nat) (v : Option Value) (h : Heap) (L : List Loc) : Prop := v = some (.int (1 : Int32)) ∧ Fr n0 L ∧ h = h0
set_option maxRecDepth 65536 in
set_option maxHeartbeats 40000000 in
theorem rm0 (l : Launch) (Z : State) (aw : Array Value) (hw : ∀ d ∈ tables_1, d.before aw Z = true) (ws : List Jvm.Cond) (p0 : Int32) (p1 : Int32) (w_INS_ENU_1 : Addr) (w_YUP_HAB_3 : Addr) (w_NED_YPR_5 : Addr) (u_northEastDownAxes_7 : Addr) (u_northEastDownAxes_9 : Addr) (h0 : Heap) (n0 : Nat) (Z0 : n0 ≤ h0.size) (S_INS_ENU_0 : Sta Z h0 "com/example/rotarium/rotarium/AttitudeConvention" "INS_ENU" "Lcom/example/rotarium/rotarium/AttitudeConvention;" (.ref w_INS_ENU_1)) (E_1 : Exa Z h0 w_INS_ENU_1 "com/example/rotarium/rotarium/AttitudeConvention") (S_YUP_HAB_2 : Sta Z h0 "com/example/rotarium/rotarium/AttitudeConvention" "YUP_HAB" "Lcom/example/rotarium/rotarium/AttitudeConvention;" (.ref w_YUP_HAB_3)) (E_3 : Exa Z h0 w_YUP_HAB_3 "com/example/rotarium/rotarium/AttitudeConvention") (S_NED_YPR_4 : Sta Z h0 "com/example/rotarium/rotarium/AttitudeConvention" "NED_YPR" "Lcom/example/rotarium/rotarium/AttitudeConvention;" (.ref w_NED_YPR_5)) (E_5 : Exa Z h0 w_NED_YPR_5 "com/example/rotarium/rotarium/AttitudeConvention") (F_ordinal_6 : Fld Z h0 w_NED_YPR_5 "java/lang/Enum" "ordinal" "I" (.int (1 : Int32))) (F_ordinal_7 : Fld Z h0 w_YUP_HAB_3 "java/lang/Enum" "ordinal" "I" (.int (2 : Int32))) (F_northEastDownAxes_8 : Fld Z h0 w_YUP_HAB_3 "com/example/rotarium/rotarium/AttitudeConvention" "northEastDownAxes" "[I" .null) (F_ordinal_9 : Fld Z h0 w_INS_ENU_1 "java/lang/Enum" "ordinal" "I" (.int (0 : Int32))) (F_northEastDownAxes_10 : Fld Z h0 w_INS_ENU_1 "com/example/rotarium/rotarium/AttitudeConvention" "northEastDownAxes" "[I" (.ref u_northEastDownAxes_7)) (F_northEastDownAxes_11 : Fld Z h0 w_NED_YPR_5 "com/example/rotarium/rotarium/AttitudeConvention" "northEastDownAxes" "[I" (.ref u_northEastDownAxes_9)) :
    MetFree l x (head1 (Jvm.Cond.code x code maxLocals ret :: ws) room_1) (fun a U => a = #[(.int p0), (.int p1)] ∧ Z.Warmed39 U.vm ∧ U.heap = h0) (fun _ _ _ _ _ => True) (fun _ U o U' => ∃ v L, o = .returned v ∧ Q0 Z p0 p1 w_INS_ENU_1 w_YUP_HAB_3 w_NED_YPR_5 u_northEastDownAxes_7 u_northEastDownAxes_9 h0 n0 v U'.heap L ∧ FrameEnd U o U' L room_1.cells room_1.slots) := by
  refine MetFree.of_bodySF (plainFor_of_name pn_0) hisR ?_
  intro p e s m args below meth c s₁ Bd hml0 hP hK
  obtain ⟨rfl, hZ, hh⟩ := hP
  have hx := Bd.exec
  have hby := Bd.bytes
  have hml : c.maxLocals = 7 := hml0
  have hown : s.vm.findClass "com/example/rotarium/rotarium/AttitudeConventionSharesFramesWithPinLaw" = some m.cls := findClass_of_methodNamed Bd.named
  have hnm := (name_of_methodNamed Bd.named Bd.method).1
  have X0 : Stand p l e room_1 s m #[(.int p0), (.int p1)] below meth c s₁ [] 0 0 := Stand.of_body Bd
  have e0 : s₁.heap = h0 := by rw [← hh, Bd.state]; rfl
  have N0 := Fr.nil n0
  have pre0 : ∀ t, Steps p.tables e below (s₁.setTop (mkF m 0 #[.val (.int p0), .val (.int p1), .unset, .unset, .unset, .unset, .unset] [])) t → Steps p.tables e below (s₁.setTop (entryFrame m #[(.int p0), (.int p1)] maxLocals)) t := fun t k => castTop (ef_0 m p0 p1 ) k
  obtain ⟨_, _, ⟨T1, L1, k1, n1⟩, -, X1, ⟨Lc1, hQ1, l1, y1, z1⟩, st1⟩ := Jvm.LawKit.callS X0 hx (y := (⟨"com/example/rotarium/rotarium/AttitudeConventionSharesFramesWithPinLaw", "pick", "(I)Lcom/example/rotarium/rotarium/AttitudeConvention;"⟩ : MethodName)) hown (mvT hZ (hw _ (List.mem_of_getElem? (i := 1) rfl))) (mvT hZ (hw _ (List.mem_of_getElem? (i := 2) rfl))) (mvT hZ (hw _ (List.mem_of_getElem? (i := 3) rfl))) (mvT hZ (hw _ (List.mem_of_getElem? (i := 4) rfl))) (by decide) (backOf (W := 0) (rm1 l Z aw hw [] ((p0 &&& (2147483647 : Int32)) % (3 : Int32)) w_INS_ENU_1 w_NED_YPR_5 w_YUP_HAB_3 h0 n0 Z0 (own_rng _ _ 3 rfl (by decide)) S_INS_ENU_0 S_NED_YPR_4 S_YUP_HAB_2) hZ (hw _ (List.mem_of_getElem? (i := 4) rfl)) (hw _ (List.mem_of_getElem? (i := 3) rfl)) (by decide) (by decide)) (g := (mkF m 15 #[.val (.int p0), .val (.int p1), .val (.int ((p0 &&& (2147483647 : Int32)) % (3 : Int32))), .val (.int ((p1 &&& (2147483647 : Int32)) % (3 : Int32))), .unset, .unset, .unset] [(.int ((p0 &&& (2147483647 : Int32)) % (3 : Int32)))])) rfl (by rw [hml]; rfl) (argsL := [(.int ((p0 &&& (2147483647 : Int32)) % (3 : Int32)))]) (rest := []) (lenOf pd_0 rfl) rfl (by show 2 * 0 + _ ≤ _; exact Nat.le_of_eq rfl) (hb hby at_15) (fun _ _ => ⟨rfl, e0, (by decide : 0 + 0 ≤ _), (by decide : 0 + 0 ≤ _)⟩)
  dsimp only [Pt.U, Pt.locs, Pt.cells, Pt.slots] at X1 l1 y1 z1 st1 hQ1
  subst l1 y1 z1
  obtain ⟨⟨r2, rfl, Pr2⟩, Nq1, e1⟩ := hQ1
  have N1 := Fr.app N0 Nq1
  have pre3 : ∀ t, Steps p.tables e below (T1.setTop (mkF m 18 #[.val (.int p0), .val (.int p1), .val (.int ((p0 &&& (2147483647 : Int32)) % (3 : Int32))), .val (.int ((p1 &&& (2147483647 : Int32)) % (3 : Int32))), .unset, .unset, .unset] [(.ref r2)])) t → Steps p.tables e below (s₁.setTop (entryFrame m #[(.int p0), (.int p1)] maxLocals)) t := fun t kt => pre0 t (by
      show Steps p.tables e below (s₁.setTop (mkF m 0 #[.val (.int p0), .val (.int p1), .unset, .unset, .unset, .unset, .unset] [])) _
      refine XS.iloadN X0.here hx rfl (hb hby at_0) rfl ?_
      show Steps p.tables e below (s₁.setTop (mkF m 1 #[.val (.int p0), .val (.int p1), .unset, .unset, .unset, .unset, .unset] [(.int p0)])) _
      refine X0.ldcInt hx hown (mvT hZ (hw _ (List.mem_of_getElem? (i := 0) rfl))) (g := (mkF m 1 #[.val (.int p0), .val (.int p1), .unset, .unset, .unset, .unset, .unset] [(.int p0)])) rfl (hb hby at_1) _ ?_
      show Steps p.tables e below (s₁.setTop (mkF m 3 #[.val (.int p0), .val (.int p1), .unset, .unset, .unset, .unset, .unset] [(.int (2147483647 : Int32)), (.int p0)])) _
      refine XS.iand X0.here hx rfl (hb hby at_3) rfl ?_
      show Steps p.tables e below (s₁.setTop (mkF m 4 #[.val (.int p0), .val (.int p1), .unset, .unset, .unset, .unset, .unset] [(.int (p0 &&& (2147483647 : Int32)))])) _
      refine XS.iconst X0.here hx rfl (hb hby at_4) ?_
      show Steps p.tables e below (s₁.setTop (mkF m 5 #[.val (.int p0), .val (.int p1), .unset, .unset, .unset, .unset, .unset] [(.int (3 : Int32)), (.int (p0 &&& (2147483647 : Int32)))])) _
      refine iremM X0 hx rfl (hb hby at_5) rfl (by decide) ?_
      show Steps p.tables e below (s₁.setTop (mkF m 6 #[.val (.int p0), .val (.int p1), .unset, .unset, .unset, .unset, .unset] [(.int ((p0 &&& (2147483647 : Int32)) % (3 : Int32)))])) _
      refine XS.istoreN X0.here hx rfl (hb hby at_6) rfl (l' := #[.val (.int p0), .val (.int p1), .val (.int ((p0 &&& (2147483647 : Int32)) % (3 : Int32))), .unset, .unset, .unset, .unset]) rfl ?_
      show Steps p.tables e below (s₁.setTop (mkF m 7 #[.val (.int p0), .val (.int p1), .val (.int ((p0 &&& (2147483647 : Int32)) % (3 : Int32))), .unset, .unset, .unset, .unset] [])) _
      refine XS.iloadN X0.here hx rfl (hb hby at_7) rfl ?_
      show Steps p.tables e below (s₁.setTop (mkF m 8 #[.val (.int p0), .val (.int p1), .val (.int ((p0 &&& (2147483647 : Int32)) % (3 : Int32))), .unset, .unset, .unset, .unset] [(.int p1)])) _
      refine X0.ldcInt hx hown (mvT hZ (hw _ (List.mem_of_getElem? (i := 0) rfl))) (g := (mkF m 8 #[.val (.int p0), .val (.int p1), .val (.int ((p0 &&& (2147483647 : Int32)) % (3 : Int32))), .unset, .unset, .unset, .unset] [(.int p1)])) rfl (hb hby at_8) _ ?_
      show Steps p.tables e below (s₁.setTop (mkF m 10 #[.val (.int p0), .val (.int p1), .val (.int ((p0 &&& (2147483647 : Int32)) % (3 : Int32))), .unset, .unset, .unset, .unset] [(.int (2147483647 : Int32)), (.int p1)])) _
      refine XS.iand X0.here hx rfl (hb hby at_10) rfl ?_
      show Steps p.tables e below (s₁.setTop (mkF m 11 #[.val (.int p0), .val (.int p1), .val (.int ((p0 &&& (2147483647 : Int32)) % (3 : Int32))), .unset, .unset, .unset, .unset] [(.int (p1 &&& (2147483647 : Int32)))])) _
      refine XS.iconst X0.here hx rfl (hb hby at_11) ?_
      show Steps p.tables e below (s₁.setTop (mkF m 12 #[.val (.int p0), .val (.int p1), .val (.int ((p0 &&& (2147483647 : Int32)) % (3 : Int32))), .unset, .unset, .unset, .unset] [(.int (3 : Int32)), (.int (p1 &&& (2147483647 : Int32)))])) _
      refine iremM X0 hx rfl (hb hby at_12) rfl (by decide) ?_
      show Steps p.tables e below (s₁.setTop (mkF m 13 #[.val (.int p0), .val (.int p1), .val (.int ((p0 &&& (2147483647 : Int32)) % (3 : Int32))), .unset, .unset, .unset, .unset] [(.int ((p1 &&& (2147483647 : Int32)) % (3 : Int32)))])) _
      refine XS.istoreN X0.here hx rfl (hb hby at_13) rfl (l' := #[.val (.int p0), .val (.int p1), .val (.int ((p0 &&& (2147483647 : Int32)) % (3 : Int32))), .val (.int ((p1 &&& (2147483647 : Int32)) % (3 : Int32))), .unset, .unset, .unset]) rfl ?_
      show Steps p.tables e below (s₁.setTop (mkF m 14 #[.val (.int p0), .val (.int p1), .val (.int ((p0 &&& (2147483647 : Int32)) % (3 : Int32))), .val (.int ((p1 &&& (2147483647 : Int32)) % (3 : Int32))), .unset, .unset, .unset] [])) _
      refine XS.iloadN X0.here hx rfl (hb hby at_14) rfl ?_
      show Steps p.tables e below (s₁.setTop (mkF m 15 #[.val (.int p0), .val (.int p1), .val (.int ((p0 &&& (2147483647 : Int32)) % (3 : Int32))), .val (.int ((p1 &&& (2147483647 : Int32)) % (3 : Int32))), .unset, .unset, .unset] [(.int ((p0 &&& (2147483647 : Int32)) % (3 : Int32)))])) _
      refine st1 _ ?_
      exact kt)
  obtain ⟨i, hi⟩ : ∃ z, z = ((p0 &&& (2147483647 : Int32)) % (3 : Int32)) := ⟨_, rfl⟩
  rw [← hi] at pre3 Pr2
  rcases Pr2 with ⟨rfl, rfl⟩ | ⟨rfl, rfl⟩ | ⟨rfl, rfl⟩
  · skip
    obtain ⟨_, _, ⟨T4, L4, k4, n4⟩, -, X4, ⟨Lc4, hQ4, l4, y4, z4⟩, st4⟩ := Jvm.LawKit.callS X1 hx (y := (⟨"com/example/rotarium/rotarium/AttitudeConventionSharesFramesWithPinLaw", "pick", "(I)Lcom/example/rotarium/rotarium/AttitudeConvention;"⟩ : MethodName)) hown (mvT hZ (hw _ (List.mem_of_getElem? (i := 1) rfl))) (mvT hZ (hw _ (List.mem_of_getElem? (i := 2) rfl))) (mvT hZ (hw _ (List.mem_of_getElem? (i := 3) rfl))) (mvT hZ (hw _ (List.mem_of_getElem? (i := 4) rfl))) (by decide) (backOf (W := 0) (rm1 l Z aw hw [] ((p1 &&& (2147483647 : Int32)) % (3 : Int32)) w_INS_ENU_1 w_NED_YPR_5 w_YUP_HAB_3 h0 n0 Z0 (own_rng _ _ 3 rfl (by decide)) S_INS_ENU_0 S_NED_YPR_4 S_YUP_HAB_2) hZ (hw _ (List.mem_of_getElem? (i := 4) rfl)) (hw _ (List.mem_of_getElem? (i := 3) rfl)) (by decide) (by decide)) (g := (mkF m 21 #[.val (.int p0), .val (.int p1), .val (.int (0 : Int32)), .val (.int ((p1 &&& (2147483647 : Int32)) % (3 : Int32))), .val (.ref w_INS_ENU_1), .unset, .unset] [(.int ((p1 &&& (2147483647 : Int32)) % (3 : Int32)))])) rfl (by rw [hml]; rfl) (argsL := [(.int ((p1 &&& (2147483647 : Int32)) % (3 : Int32)))]) (rest := []) (lenOf pd_0 rfl) rfl (by show 2 * 0 + _ ≤ _; exact Nat.le_of_eq rfl) (hb hby at_21) (fun _ _ => ⟨rfl, e1, (by decide : 0 + 0 ≤ _), (by decide : 0 + 0 ≤ _)⟩)
    dsimp only [Pt.U, Pt.locs, Pt.cells, Pt.slots] at X4 l4 y4 z4 st4 hQ4
    subst l4 y4 z4
    obtain ⟨⟨r5, rfl, Pr5⟩, Nq4, e4⟩ := hQ4
    have N4 := Fr.app N1 Nq4
    have pre6 : ∀ t, Steps p.tables e below (T4.setTop (mkF m 24 #[.val (.int p0), .val (.int p1), .val (.int (0 : Int32)), .val (.int ((p1 &&& (2147483647 : Int32)) % (3 : Int32))), .val (.ref w_INS_ENU_1), .unset, .unset] [(.ref r5)])) t → Steps p.tables e below (s₁.setTop (entryFrame m #[(.int p0), (.int p1)] maxLocals)) t := fun t kt => pre3 t (by
        show Steps p.tables e below (T1.setTop (mkF m 18 #[.val (.int p0), .val (.int p1), .val (.int (0 : Int32)), .val (.int ((p1 &&& (2147483647 : Int32)) % (3 : Int32))), .unset, .unset, .unset] [(.ref w_INS_ENU_1)])) _
        refine XS.astore X1.here hx rfl (hb hby at_18) rfl rfl (l' := #[.val (.int p0), .val (.int p1), .val (.int (0 : Int32)), .val (.int ((p1 &&& (2147483647 : Int32)) % (3 : Int32))), .val (.ref w_INS_ENU_1), .unset, .unset]) rfl ?_
        show Steps p.tables e below (T1.setTop (mkF m 20 #[.val (.int p0), .val (.int p1), .val (.int (0 : Int32)), .val (.int ((p1 &&& (2147483647 : Int32)) % (3 : Int32))), .val (.ref w_INS_ENU_1), .unset, .unset] [])) _
        refine XS.iloadN X1.here hx rfl (hb hby at_20) rfl ?_
        show Steps p.tables e below (T1.setTop (mkF m 21 #[.val (.int p0), .val (.int p1), .val (.int (0 : Int32)), .val (.int ((p1 &&& (2147483647 : Int32)) % (3 : Int32))), .val (.ref w_INS_ENU_1), .unset, .unset] [(.int ((p1 &&& (2147483647 : Int32)) % (3 : Int32)))])) _
        refine st4 _ ?_
        exact kt)
    obtain ⟨j, hj⟩ : ∃ z, z = ((p1 &&& (2147483647 : Int32)) % (3 : Int32)) := ⟨_, rfl⟩
    rw [← hj] at pre6 Pr5
    rcases Pr5 with ⟨rfl, rfl⟩ | ⟨rfl, rfl⟩ | ⟨rfl, rfl⟩
    · skip
      obtain ⟨cq7, kq7, q7a, q7b, q7c⟩ := isOf hZ e4 E_1
      obtain ⟨_, _, ⟨T7, L7, k7, n7⟩, -, X7, ⟨Lc7, hQ7, l7, y7, z7⟩, st7⟩ := X4.virtualBack hx (y := (⟨"com/example/rotarium/rotarium/AttitudeConvention", "sharesFramesWith", "(Lcom/example/rotarium/rotarium/AttitudeConvention;)Z"⟩ : MethodName)) (z := (⟨"com/example/rotarium/rotarium/AttitudeConvention", "sharesFramesWith", "(Lcom/example/rotarium/rotarium/AttitudeConvention;)Z"⟩ : MethodName)) hown (mvT hZ (hw _ (List.mem_of_getElem? (i := 8) rfl))) (mvT hZ (hw _ (List.mem_of_getElem? (i := 9) rfl))) (notFace_of_selects (args := #[]) (mvT hZ (hw _ (List.mem_of_getElem? (i := 11) rfl)))) (mvT hZ (hw _ (List.mem_of_getElem? (i := 11) rfl))) (mvT hZ (hw _ (List.mem_of_getElem? (i := 10) rfl))) (by decide) (backOf (W := 0) (rm2 l Z aw hw [] w_INS_ENU_1 w_INS_ENU_1 (.ref u_northEastDownAxes_7) (.ref u_northEastDownAxes_7) h0 n0 Z0 rfl F_northEastDownAxes_10 rfl F_northEastDownAxes_10) hZ (hw _ (List.mem_of_getElem? (i := 12) rfl)) (hw _ (List.mem_of_getElem? (i := 6) rfl)) (by decide) (by decide)) q7a q7c (g := (mkF m 60 #[.val (.int p0), .val (.int p1), .val (.int (0 : Int32)), .val (.int (0 : Int32)), .val (.ref w_INS_ENU_1), .val (.ref w_INS_ENU_1), .val (.int (1 : Int32))] [(.ref w_INS_ENU_1), (.ref w_INS_ENU_1)])) rfl (by rw [hml]; rfl) (Steps.refl _) (argsL := [(.ref w_INS_ENU_1)]) (rest := []) (lenOf pd_1 rfl) rfl (by show 2 * 0 + _ ≤ _; exact Nat.le_of_eq rfl) (hb hby at_60) (fun _ _ => ⟨rfl, e4, (by decide : 0 + 0 ≤ _), (by decide : 0 + 0 ≤ _)⟩)
      dsimp only [Pt.U, Pt.locs, Pt.cells, Pt.slots] at X7 l7 y7 z7 st7 hQ7
      subst l7 y7 z7
      obtain ⟨⟨r8, rfl, Pr8⟩, Nq7, e7⟩ := hQ7
      have N7 := Fr.app N4 Nq7
      have pre9 : ∀ t, Steps p.tables e below (T7.setTop (mkF m 63 #[.val (.int p0), .val (.int p1), .val (.int (0 : Int32)), .val (.int (0 : Int32)), .val (.ref w_INS_ENU_1), .val (.ref w_INS_ENU_1), .val (.int (1 : Int32))] [(.int r8)])) t → Steps p.tables e below (s₁.setTop (entryFrame m #[(.int p0), (.int p1)] maxLocals)) t := fun t kt => pre6 t (by
          show Steps p.tables e below (T4.setTop (mkF m 24 #[.val (.int p0), .val (.int p1), .val (.int (0 : Int32)), .val (.int (0 : Int32)), .val (.ref w_INS_ENU_1), .unset, .unset] [(.ref w_INS_ENU_1)])) _
          refine XS.astore X4.here hx rfl (hb hby at_24) rfl rfl (l' := #[.val (.int p0), .val (.int p1), .val (.int (0 : Int32)), .val (.int (0 : Int32)), .val (.ref w_INS_ENU_1), .val (.ref w_INS_ENU_1), .unset]) rfl ?_
          show Steps p.tables e below (T4.setTop (mkF m 26 #[.val (.int p0), .val (.int p1), .val (.int (0 : Int32)), .val (.int (0 : Int32)), .val (.ref w_INS_ENU_1), .val (.ref w_INS_ENU_1), .unset] [])) _
          refine XS.iloadN X4.here hx rfl (hb hby at_26) rfl ?_
          show Steps p.tables e below (T4.setTop (mkF m 27 #[.val (.int p0), .val (.int p1), .val (.int (0 : Int32)), .val (.int (0 : Int32)), .val (.ref w_INS_ENU_1), .val (.ref w_INS_ENU_1), .unset] [(.int (0 : Int32))])) _
          refine XS.iloadN X4.here hx rfl (hb hby at_27) rfl ?_
          show Steps p.tables e below (T4.setTop (mkF m 28 #[.val (.int p0), .val (.int p1), .val (.int (0 : Int32)), .val (.int (0 : Int32)), .val (.ref w_INS_ENU_1), .val (.ref w_INS_ENU_1), .unset] [(.int (0 : Int32)), (.int (0 : Int32))])) _
          refine XS.icmpNo X4.here hx rfl (hb hby at_28) rfl (teq (rfl : (0 : Int32) = (0 : Int32))).2 ?_
          show Steps p.tables e below (T4.setTop (mkF m 31 #[.val (.int p0), .val (.int p1), .val (.int (0 : Int32)), .val (.int (0 : Int32)), .val (.ref w_INS_ENU_1), .val (.ref w_INS_ENU_1), .unset] [])) _
          refine XS.iconst X4.here hx rfl (hb hby at_31) ?_
          show Steps p.tables e below (T4.setTop (mkF m 32 #[.val (.int p0), .val (.int p1), .val (.int (0 : Int32)), .val (.int (0 : Int32)), .val (.ref w_INS_ENU_1), .val (.ref w_INS_ENU_1), .unset] [(.int (1 : Int32))])) _
          refine XS.istore X4.here hx rfl (hb hby at_32) rfl (l' := #[.val (.int p0), .val (.int p1), .val (.int (0 : Int32)), .val (.int (0 : Int32)), .val (.ref w_INS_ENU_1), .val (.ref w_INS_ENU_1), .val (.int (1 : Int32))]) rfl ?_
          show Steps p.tables e below (T4.setTop (mkF m 34 #[.val (.int p0), .val (.int p1), .val (.int (0 : Int32)), .val (.int (0 : Int32)), .val (.ref w_INS_ENU_1), .val (.ref w_INS_ENU_1), .val (.int (1 : Int32))] [])) _
          refine XS.goto X4.here hx rfl (pc0 := 34) (pc' := 56) rfl (hb hby at_34) (by decide) (by decide) ?_
          show Steps p.tables e below (T4.setTop (mkF m 56 #[.val (.int p0), .val (.int p1), .val (.int (0 : Int32)), .val (.int (0 : Int32)), .val (.ref w_INS_ENU_1), .val (.ref w_INS_ENU_1), .val (.int (1 : Int32))] [])) _
          refine XS.aload X4.here hx rfl (hb hby at_56) rfl rfl ?_
          show Steps p.tables e below (T4.setTop (mkF m 58 #[.val (.int p0), .val (.int p1), .val (.int (0 : Int32)), .val (.int (0 : Int32)), .val (.ref w_INS_ENU_1), .val (.ref w_INS_ENU_1), .val (.int (1 : Int32))] [(.ref w_INS_ENU_1)])) _
          refine XS.aload X4.here hx rfl (hb hby at_58) rfl rfl ?_
          show Steps p.tables e below (T4.setTop (mkF m 60 #[.val (.int p0), .val (.int p1), .val (.int (0 : Int32)), .val (.int (0 : Int32)), .val (.ref w_INS_ENU_1), .val (.ref w_INS_ENU_1), .val (.int (1 : Int32))] [(.ref w_INS_ENU_1), (.ref w_INS_ENU_1)])) _
          refine st7.trans ?_
          exact kt)
      obtain rfl : (1 : Int32) = r8 := Pr8.1 rfl
      have pre10 : ∀ t, Steps p.tables e below (T7.setTop (mkF m 73 #[.val (.int p0), .val (.int p1), .val (.int (0 : Int32)), .val (.int (0 : Int32)), .val (.ref w_INS_ENU_1), .val (.ref w_INS_ENU_1), .val (.int (1 : Int32))] [(.int (1 : Int32))])) t → Steps p.tables e below (s₁.setTop (entryFrame m #[(.int p0), (.int p1)] maxLocals)) t := fun t kt => pre9 t (by
          show Steps p.tables e below (T7.setTop (mkF m 63 #[.val (.int p0), .val (.int p1), .val (.int (0 : Int32)), .val (.int (0 : Int32)), .val (.ref w_INS_ENU_1), .val (.ref w_INS_ENU_1), .val (.int (1 : Int32))] [(.int (1 : Int32))])) _
          refine XS.iload X7.here hx rfl (hb hby at_63) rfl ?_
          show Steps p.tables e below (T7.setTop (mkF m 65 #[.val (.int p0), .val (.int p1), .val (.int (0 : Int32)), .val (.int (0 : Int32)), .val (.ref w_INS_ENU_1), .val (.ref w_INS_ENU_1), .val (.int (1 : Int32))] [(.int (1 : Int32)), (.int (1 : Int32))])) _
          refine XS.icmpNo X7.here hx rfl (hb hby at_65) rfl (teq (rfl : (1 : Int32) = (1 : Int32))).2 ?_
          show Steps p.tables e below (T7.setTop (mkF m 68 #[.val (.int p0), .val (.int p1), .val (.int (0 : Int32)), .val (.int (0 : Int32)), .val (.ref w_INS_ENU_1), .val (.ref w_INS_ENU_1), .val (.int (1 : Int32))] [])) _
          refine XS.iconst X7.here hx rfl (hb hby at_68) ?_
          show Steps p.tables e below (T7.setTop (mkF m 69 #[.val (.int p0), .val (.int p1), .val (.int (0 : Int32)), .val (.int (0 : Int32)), .val (.ref w_INS_ENU_1), .val (.ref w_INS_ENU_1), .val (.int (1 : Int32))] [(.int (1 : Int32))])) _
          refine XS.goto X7.here hx rfl (pc0 := 69) (pc' := 73) rfl (hb hby at_69) (by decide) (by decide) ?_
          exact kt)
      obtain ⟨fs, hr, hrun, hended, hW, hsame⟩ := X7.leave (v := some (.int (1 : Int32))) (fun h => by rw [Bd.returns] at h; cases h)
      refine ⟨_, _, pre10 _ ?_, hrun, hended, _, _, rfl, ?_, ⟨_, rfl⟩, hW, hsame.mono (by decide) (by decide)⟩
      · show Steps p.tables e below (T7.setTop (mkF m 73 #[.val (.int p0), .val (.int p1), .val (.int (0 : Int32)), .val (.int (0 : Int32)), .val (.ref w_INS_ENU_1), .val (.ref w_INS_ENU_1), .val (.int (1 : Int32))] [(.int (1 : Int32))])) _
        exact retN X7 hx (t := .boolean) Bd.returns (by simp) (hb hby at_73) hr
      · show Q0 Z _ _ _ _ _ _ _ h0 n0 _ T7.heap _
        rw [e7]
        exact ⟨rfl, N7, rfl⟩
    · skip
      obtain ⟨cq11, kq11, q11a, q11b, q11c⟩ := isOf hZ e4 E_1
      obtain ⟨_, _, ⟨T11, L11, k11, n11⟩, -, X11, ⟨Lc11, hQ11, l11, y11, z11⟩, st11⟩ := X4.virtualBack hx (y := (⟨"com/example/rotarium/rotarium/AttitudeConvention", "sharesFramesWith", "(Lcom/example/rotarium/rotarium/AttitudeConvention;)Z"⟩ : MethodName)) (z := (⟨"com/example/rotarium/rotarium/AttitudeConvention", "sharesFramesWith", "(Lcom/example/rotarium/rotarium/AttitudeConvention;)Z"⟩ : MethodName)) hown (mvT hZ (hw _ (List.mem_of_getElem? (i := 8) rfl))) (mvT hZ (hw _ (List.mem_of_getElem? (i := 9) rfl))) (notFace_of_selects (args := #[]) (mvT hZ (hw _ (List.mem_of_getElem? (i := 11) rfl)))) (mvT hZ (hw _ (List.mem_of_getElem? (i := 11) rfl))) (mvT hZ (hw _ (List.mem_of_getElem? (i := 10) rfl))) (by decide) (backOf (W := 0) (rm2 l Z aw hw [] w_INS_ENU_1 w_NED_YPR_5 (.ref u_northEastDownAxes_7) (.ref u_northEastDownAxes_9) h0 n0 Z0 rfl F_northEastDownAxes_10 rfl F_northEastDownAxes_11) hZ (hw _ (List.mem_of_getElem? (i := 12) rfl)) (hw _ (List.mem_of_getElem? (i := 6) rfl)) (by decide) (by decide)) q11a q11c (g := (mkF m 60 #[.val (.int p0), .val (.int p1), .val (.int (0 : Int32)), .val (.int (1 : Int32)), .val (.ref w_INS_ENU_1), .val (.ref w_NED_YPR_5), .val (.int (1 : Int32))] [(.ref w_NED_YPR_5), (.ref w_INS_ENU_1)])) rfl (by rw [hml]; rfl) (Steps.refl _) (argsL := [(.ref w_NED_YPR_5)]) (rest := []) (lenOf pd_1 rfl) rfl (by show 2 * 0 + _ ≤ _; exact Nat.le_of_eq rfl) (hb hby at_60) (fun _ _ => ⟨rfl, e4, (by decide : 0 + 0 ≤ _), (by decide : 0 + 0 ≤ _)⟩)
      dsimp only [Pt.U, Pt.locs, Pt.cells, Pt.slots] at X11 l11 y11 z11 st11 hQ11
      subst l11 y11 z11
      obtain ⟨⟨r12, rfl, Pr12⟩, Nq11, e11⟩ := hQ11
      have N11 := Fr.app N4 Nq11
      have pre13 : ∀ t, Steps p.tables e below (T11.setTop (mkF m 63 #[.val (.int p0), .val (.int p1), .val (.int (0 : Int32)), .val (.int (1 : Int32)), .val (.ref w_INS_ENU_1), .val (.ref w_NED_YPR_5), .val (.int (1 : Int32))] [(.int r12)])) t → Steps p.tables e below (s₁.setTop (entryFrame m #[(.int p0), (.int p1)] maxLocals)) t := fun t kt => pre6 t (by
          show Steps p.tables e below (T4.setTop (mkF m 24 #[.val (.int p0), .val (.int p1), .val (.int (0 : Int32)), .val (.int (1 : Int32)), .val (.ref w_INS_ENU_1), .unset, .unset] [(.ref w_NED_YPR_5)])) _
          refine XS.astore X4.here hx rfl (hb hby at_24) rfl rfl (l' := #[.val (.int p0), .val (.int p1), .val (.int (0 : Int32)), .val (.int (1 : Int32)), .val (.ref w_INS_ENU_1), .val (.ref w_NED_YPR_5), .unset]) rfl ?_
          show Steps p.tables e below (T4.setTop (mkF m 26 #[.val (.int p0), .val (.int p1), .val (.int (0 : Int32)), .val (.int (1 : Int32)), .val (.ref w_INS_ENU_1), .val (.ref w_NED_YPR_5), .unset] [])) _
          refine XS.iloadN X4.here hx rfl (hb hby at_26) rfl ?_
          show Steps p.tables e below (T4.setTop (mkF m 27 #[.val (.int p0), .val (.int p1), .val (.int (0 : Int32)), .val (.int (1 : Int32)), .val (.ref w_INS_ENU_1), .val (.ref w_NED_YPR_5), .unset] [(.int (0 : Int32))])) _
          refine XS.iloadN X4.here hx rfl (hb hby at_27) rfl ?_
          show Steps p.tables e below (T4.setTop (mkF m 28 #[.val (.int p0), .val (.int p1), .val (.int (0 : Int32)), .val (.int (1 : Int32)), .val (.ref w_INS_ENU_1), .val (.ref w_NED_YPR_5), .unset] [(.int (1 : Int32)), (.int (0 : Int32))])) _
          refine XS.icmpYes X4.here hx rfl (pc0 := 28) (pc' := 37) rfl (hb hby at_28) rfl (feq (by decide : ¬ ((0 : Int32) = (1 : Int32)))).2 (by decide) (by decide) ?_
          show Steps p.tables e below (T4.setTop (mkF m 37 #[.val (.int p0), .val (.int p1), .val (.int (0 : Int32)), .val (.int (1 : Int32)), .val (.ref w_INS_ENU_1), .val (.ref w_NED_YPR_5), .unset] [])) _
          refine XS.iloadN X4.here hx rfl (hb hby at_37) rfl ?_
          show Steps p.tables e below (T4.setTop (mkF m 38 #[.val (.int p0), .val (.int p1), .val (.int (0 : Int32)), .val (.int (1 : Int32)), .val (.ref w_INS_ENU_1), .val (.ref w_NED_YPR_5), .unset] [(.int (0 : Int32))])) _
          refine XS.iconst X4.here hx rfl (hb hby at_38) ?_
          show Steps p.tables e below (T4.setTop (mkF m 39 #[.val (.int p0), .val (.int p1), .val (.int (0 : Int32)), .val (.int (1 : Int32)), .val (.ref w_INS_ENU_1), .val (.ref w_NED_YPR_5), .unset] [(.int (2 : Int32)), (.int (0 : Int32))])) _
          refine XS.icmpNo X4.here hx rfl (hb hby at_39) rfl (feq (by decide : ¬ ((0 : Int32) = (2 : Int32)))).1 ?_
          show Steps p.tables e below (T4.setTop (mkF m 42 #[.val (.int p0), .val (.int p1), .val (.int (0 : Int32)), .val (.int (1 : Int32)), .val (.ref w_INS_ENU_1), .val (.ref w_NED_YPR_5), .unset] [])) _
          refine XS.iloadN X4.here hx rfl (hb hby at_42) rfl ?_
          show Steps p.tables e below (T4.setTop (mkF m 43 #[.val (.int p0), .val (.int p1), .val (.int (0 : Int32)), .val (.int (1 : Int32)), .val (.ref w_INS_ENU_1), .val (.ref w_NED_YPR_5), .unset] [(.int (1 : Int32))])) _
          refine XS.iconst X4.here hx rfl (hb hby at_43) ?_
          show Steps p.tables e below (T4.setTop (mkF m 44 #[.val (.int p0), .val (.int p1), .val (.int (0 : Int32)), .val (.int (1 : Int32)), .val (.ref w_INS_ENU_1), .val (.ref w_NED_YPR_5), .unset] [(.int (2 : Int32)), (.int (1 : Int32))])) _
          refine XS.icmpYes X4.here hx rfl (pc0 := 44) (pc' := 53) rfl (hb hby at_44) rfl (feq (by decide : ¬ ((1 : Int32) = (2 : Int32)))).2 (by decide) (by decide) ?_
          show Steps p.tables e below (T4.setTop (mkF m 53 #[.val (.int p0), .val (.int p1), .val (.int (0 : Int32)), .val (.int (1 : Int32)), .val (.ref w_INS_ENU_1), .val (.ref w_NED_YPR_5), .unset] [])) _
          refine XS.iconst X4.here hx rfl (hb hby at_53) ?_
          show Steps p.tables e below (T4.setTop (mkF m 54 #[.val (.int p0), .val (.int p1), .val (.int (0 : Int32)), .val (.int (1 : Int32)), .val (.ref w_INS_ENU_1), .val (.ref w_NED_YPR_5), .unset] [(.int (1 : Int32))])) _
          refine XS.istore X4.here hx rfl (hb hby at_54) rfl (l' := #[.val (.int p0), .val (.int p1), .val (.int (0 : Int32)), .val (.int (1 : Int32)), .val (.ref w_INS_ENU_1), .val (.ref w_NED_YPR_5), .val (.int (1 : Int32))]) rfl ?_
          show Steps p.tables e below (T4.setTop (mkF m 56 #[.val (.int p0), .val (.int p1), .val (.int (0 : Int32)), .val (.int (1 : Int32)), .val (.ref w_INS_ENU_1), .val (.ref w_NED_YPR_5), .val (.int (1 : Int32))] [])) _
          refine XS.aload X4.here hx rfl (hb hby at_56) rfl rfl ?_
          show Steps p.tables e below (T4.setTop (mkF m 58 #[.val (.int p0), .val (.int p1), .val (.int (0 : Int32)), .val (.int (1 : Int32)), .val (.ref w_INS_ENU_1), .val (.ref w_NED_YPR_5), .val (.int (1 : Int32))] [(.ref w_INS_ENU_1)])) _
          refine XS.aload X4.here hx rfl (hb hby at_58) rfl rfl ?_
          show Steps p.tables e below (T4.setTop (mkF m 60 #[.val (.int p0), .val (.int p1), .val (.int (0 : Int32)), .val (.int (1 : Int32)), .val (.ref w_INS_ENU_1), .val (.ref w_NED_YPR_5), .val (.int (1 : Int32))] [(.ref w_NED_YPR_5), (.ref w_INS_ENU_1)])) _
          refine st11.trans ?_
          exact kt)
      obtain rfl : (1 : Int32) = r12 := Pr12.2.2.2 (Ne.symm (Fld.ne F_ordinal_9 F_ordinal_6 (by decide))) nofun nofun
      have pre14 : ∀ t, Steps p.tables e below (T11.setTop (mkF m 73 #[.val (.int p0), .val (.int p1), .val (.int (0 : Int32)), .val (.int (1 : Int32)), .val (.ref w_INS_ENU_1), .val (.ref w_NED_YPR_5), .val (.int (1 : Int32))] [(.int (1 : Int32))])) t → Steps p.tables e below (s₁.setTop (entryFrame m #[(.int p0), (.int p1)] maxLocals)) t := fun t kt => pre13 t (by
          show Steps p.tables e below (T11.setTop (mkF m 63 #[.val (.int p0), .val (.int p1), .val (.int (0 : Int32)), .val (.int (1 : Int32)), .val (.ref w_INS_ENU_1), .val (.ref w_NED_YPR_5), .val (.int (1 : Int32))] [(.int (1 : Int32))])) _
          refine XS.iload X11.here hx rfl (hb hby at_63) rfl ?_
          show Steps p.tables e below (T11.setTop (mkF m 65 #[.val (.int p0), .val (.int p1), .val (.int (0 : Int32)), .val (.int (1 : Int32)), .val (.ref w_INS_ENU_1), .val (.ref w_NED_YPR_5), .val (.int (1 : Int32))] [(.int (1 : Int32)), (.int (1 : Int32))])) _
          refine XS.icmpNo X11.here hx rfl (hb hby at_65) rfl (teq (rfl : (1 : Int32) = (1 : Int32))).2 ?_
          show Steps p.tables e below (T11.setTop (mkF m 68 #[.val (.int p0), .val (.int p1), .val (.int (0 : Int32)), .val (.int (1 : Int32)), .val (.ref w_INS_ENU_1), .val (.ref w_NED_YPR_5), .val (.int (1 : Int32))] [])) _
          refine XS.iconst X11.here hx rfl (hb hby at_68) ?_
          show Steps p.tables e below (T11.setTop (mkF m 69 #[.val (.int p0), .val (.int p1), .val (.int (0 : Int32)), .val (.int (1 : Int32)), .val (.ref w_INS_ENU_1), .val (.ref w_NED_YPR_5), .val (.int (1 : Int32))] [(.int (1 : Int32))])) _
          refine XS.goto X11.here hx rfl (pc0 := 69) (pc' := 73) rfl (hb hby at_69) (by decide) (by decide) ?_
          exact kt)
      obtain ⟨fs, hr, hrun, hended, hW, hsame⟩ := X11.leave (v := some (.int (1 : Int32))) (fun h => by rw [Bd.returns] at h; cases h)
      refine ⟨_, _, pre14 _ ?_, hrun, hended, _, _, rfl, ?_, ⟨_, rfl⟩, hW, hsame.mono (by decide) (by decide)⟩
      · show Steps p.tables e below (T11.setTop (mkF m 73 #[.val (.int p0), .val (.int p1), .val (.int (0 : Int32)), .val (.int (1 : Int32)), .val (.ref w_INS_ENU_1), .val (.ref w_NED_YPR_5), .val (.int (1 : Int32))] [(.int (1 : Int32))])) _
        exact retN X11 hx (t := .boolean) Bd.returns (by simp) (hb hby at_73) hr
      · show Q0 Z _ _ _ _ _ _ _ h0 n0 _ T11.heap _
        rw [e11]
        exact ⟨rfl, N11, rfl⟩
    · skip
      obtain ⟨cq15, kq15, q15a, q15b, q15c⟩ := isOf hZ e4 E_1
      obtain ⟨_, _, ⟨T15, L15, k15, n15⟩, -, X15, ⟨Lc15, hQ15, l15, y15, z15⟩, st15⟩ := X4.virtualBack hx (y := (⟨"com/example/rotarium/rotarium/AttitudeConvention", "sharesFramesWith", "(Lcom/example/rotarium/rotarium/AttitudeConvention;)Z"⟩ : MethodName)) (z := (⟨"com/example/rotarium/rotarium/AttitudeConvention", "sharesFramesWith", "(Lcom/example/rotarium/rotarium/AttitudeConvention;)Z"⟩ : MethodName)) hown (mvT hZ (hw _ (List.mem_of_getElem? (i := 8) rfl))) (mvT hZ (hw _ (List.mem_of_getElem? (i := 9) rfl))) (notFace_of_selects (args := #[]) (mvT hZ (hw _ (List.mem_of_getElem? (i := 11) rfl)))) (mvT hZ (hw _ (List.mem_of_getElem? (i := 11) rfl))) (mvT hZ (hw _ (List.mem_of_getElem? (i := 10) rfl))) (by decide) (backOf (W := 0) (rm2 l Z aw hw [] w_INS_ENU_1 w_YUP_HAB_3 (.ref u_northEastDownAxes_7) .null h0 n0 Z0 rfl F_northEastDownAxes_10 rfl F_northEastDownAxes_8) hZ (hw _ (List.mem_of_getElem? (i := 12) rfl)) (hw _ (List.mem_of_getElem? (i := 6) rfl)) (by decide) (by decide)) q15a q15c (g := (mkF m 60 #[.val (.int p0), .val (.int p1), .val (.int (0 : Int32)), .val (.int (2 : Int32)), .val (.ref w_INS_ENU_1), .val (.ref w_YUP_HAB_3), .val (.int (0 : Int32))] [(.ref w_YUP_HAB_3), (.ref w_INS_ENU_1)])) rfl (by rw [hml]; rfl) (Steps.refl _) (argsL := [(.ref w_YUP_HAB_3)]) (rest := []) (lenOf pd_1 rfl) rfl (by show 2 * 0 + _ ≤ _; exact Nat.le_of_eq rfl) (hb hby at_60) (fun _ _ => ⟨rfl, e4, (by decide : 0 + 0 ≤ _), (by decide : 0 + 0 ≤ _)⟩)
      dsimp only [Pt.U, Pt.locs, Pt.cells, Pt.slots] at X15 l15 y15 z15 st15 hQ15
      subst l15 y15 z15
      obtain ⟨⟨r16, rfl, Pr16⟩, Nq15, e15⟩ := hQ15
      have N15 := Fr.app N4 Nq15
      have pre17 : ∀ t, Steps p.tables e below (T15.setTop (mkF m 63 #[.val (.int p0), .val (.int p1), .val (.int (0 : Int32)), .val (.int (2 : Int32)), .val (.ref w_INS_ENU_1), .val (.ref w_YUP_HAB_3), .val (.int (0 : Int32))] [(.int r16)])) t → Steps p.tables e below (s₁.setTop (entryFrame m #[(.int p0), (.int p1)] maxLocals)) t := fun t kt => pre6 t (by
          show Steps p.tables e below (T4.setTop (mkF m 24 #[.val (.int p0), .val (.int p1), .val (.int (0 : Int32)), .val (.int (2 : Int32)), .val (.ref w_INS_ENU_1), .unset, .unset] [(.ref w_YUP_HAB_3)])) _
          refine XS.astore X4.here hx rfl (hb hby at_24) rfl rfl (l' := #[.val (.int p0), .val (.int p1), .val (.int (0 : Int32)), .val (.int (2 : Int32)), .val (.ref w_INS_ENU_1), .val (.ref w_YUP_HAB_3), .unset]) rfl ?_
          show Steps p.tables e below (T4.setTop (mkF m 26 #[.val (.int p0), .val (.int p1), .val (.int (0 : Int32)), .val (.int (2 : Int32)), .val (.ref w_INS_ENU_1), .val (.ref w_YUP_HAB_3), .unset] [])) _
          refine XS.iloadN X4.here hx rfl (hb hby at_26) rfl ?_
          show Steps p.tables e below (T4.setTop (mkF m 27 #[.val (.int p0), .val (.int p1), .val (.int (0 : Int32)), .val (.int (2 : Int32)), .val (.ref w_INS_ENU_1), .val (.ref w_YUP_HAB_3), .unset] [(.int (0 : Int32))])) _
          refine XS.iloadN X4.here hx rfl (hb hby at_27) rfl ?_
          show Steps p.tables e below (T4.setTop (mkF m 28 #[.val (.int p0), .val (.int p1), .val (.int (0 : Int32)), .val (.int (2 : Int32)), .val (.ref w_INS_ENU_1), .val (.ref w_YUP_HAB_3), .unset] [(.int (2 : Int32)), (.int (0 : Int32))])) _
          refine XS.icmpYes X4.here hx rfl (pc0 := 28) (pc' := 37) rfl (hb hby at_28) rfl (feq (by decide : ¬ ((0 : Int32) = (2 : Int32)))).2 (by decide) (by decide) ?_
          show Steps p.tables e below (T4.setTop (mkF m 37 #[.val (.int p0), .val (.int p1), .val (.int (0 : Int32)), .val (.int (2 : Int32)), .val (.ref w_INS_ENU_1), .val (.ref w_YUP_HAB_3), .unset] [])) _
          refine XS.iloadN X4.here hx rfl (hb hby at_37) rfl ?_
          show Steps p.tables e below (T4.setTop (mkF m 38 #[.val (.int p0), .val (.int p1), .val (.int (0 : Int32)), .val (.int (2 : Int32)), .val (.ref w_INS_ENU_1), .val (.ref w_YUP_HAB_3), .unset] [(.int (0 : Int32))])) _
          refine XS.iconst X4.here hx rfl (hb hby at_38) ?_
          show Steps p.tables e below (T4.setTop (mkF m 39 #[.val (.int p0), .val (.int p1), .val (.int (0 : Int32)), .val (.int (2 : Int32)), .val (.ref w_INS_ENU_1), .val (.ref w_YUP_HAB_3), .unset] [(.int (2 : Int32)), (.int (0 : Int32))])) _
          refine XS.icmpNo X4.here hx rfl (hb hby at_39) rfl (feq (by decide : ¬ ((0 : Int32) = (2 : Int32)))).1 ?_
          show Steps p.tables e below (T4.setTop (mkF m 42 #[.val (.int p0), .val (.int p1), .val (.int (0 : Int32)), .val (.int (2 : Int32)), .val (.ref w_INS_ENU_1), .val (.ref w_YUP_HAB_3), .unset] [])) _
          refine XS.iloadN X4.here hx rfl (hb hby at_42) rfl ?_
          show Steps p.tables e below (T4.setTop (mkF m 43 #[.val (.int p0), .val (.int p1), .val (.int (0 : Int32)), .val (.int (2 : Int32)), .val (.ref w_INS_ENU_1), .val (.ref w_YUP_HAB_3), .unset] [(.int (2 : Int32))])) _
          refine XS.iconst X4.here hx rfl (hb hby at_43) ?_
          show Steps p.tables e below (T4.setTop (mkF m 44 #[.val (.int p0), .val (.int p1), .val (.int (0 : Int32)), .val (.int (2 : Int32)), .val (.ref w_INS_ENU_1), .val (.ref w_YUP_HAB_3), .unset] [(.int (2 : Int32)), (.int (2 : Int32))])) _
          refine XS.icmpNo X4.here hx rfl (hb hby at_44) rfl (teq (rfl : (2 : Int32) = (2 : Int32))).2 ?_
          show Steps p.tables e below (T4.setTop (mkF m 47 #[.val (.int p0), .val (.int p1), .val (.int (0 : Int32)), .val (.int (2 : Int32)), .val (.ref w_INS_ENU_1), .val (.ref w_YUP_HAB_3), .unset] [])) _
          refine XS.iconst X4.here hx rfl (hb hby at_47) ?_
          show Steps p.tables e below (T4.setTop (mkF m 48 #[.val (.int p0), .val (.int p1), .val (.int (0 : Int32)), .val (.int (2 : Int32)), .val (.ref w_INS_ENU_1), .val (.ref w_YUP_HAB_3), .unset] [(.int (0 : Int32))])) _
          refine XS.istore X4.here hx rfl (hb hby at_48) rfl (l' := #[.val (.int p0), .val (.int p1), .val (.int (0 : Int32)), .val (.int (2 : Int32)), .val (.ref w_INS_ENU_1), .val (.ref w_YUP_HAB_3), .val (.int (0 : Int32))]) rfl ?_
          show Steps p.tables e below (T4.setTop (mkF m 50 #[.val (.int p0), .val (.int p1), .val (.int (0 : Int32)), .val (.int (2 : Int32)), .val (.ref w_INS_ENU_1), .val (.ref w_YUP_HAB_3), .val (.int (0 : Int32))] [])) _
          refine XS.goto X4.here hx rfl (pc0 := 50) (pc' := 56) rfl (hb hby at_50) (by decide) (by decide) ?_
          show Steps p.tables e below (T4.setTop (mkF m 56 #[.val (.int p0), .val (.int p1), .val (.int (0 : Int32)), .val (.int (2 : Int32)), .val (.ref w_INS_ENU_1), .val (.ref w_YUP_HAB_3), .val (.int (0 : Int32))] [])) _
          refine XS.aload X4.here hx rfl (hb hby at_56) rfl rfl ?_
          show Steps p.tables e below (T4.setTop (mkF m 58 #[.val (.int p0), .val (.int p1), .val (.int (0 : Int32)), .val (.int (2 : Int32)), .val (.ref w_INS_ENU_1), .val (.ref w_YUP_HAB_3), .val (.int (0 : Int32))] [(.ref w_INS_ENU_1)])) _
          refine XS.aload X4.here hx rfl (hb hby at_58) rfl rfl ?_
          show Steps p.tables e below (T4.setTop (mkF m 60 #[.val (.int p0), .val (.int p1), .val (.int (0 : Int32)), .val (.int (2 : Int32)), .val (.ref w_INS_ENU_1), .val (.ref w_YUP_HAB_3), .val (.int (0 : Int32))] [(.ref w_YUP_HAB_3), (.ref w_INS_ENU_1)])) _
          refine st15.trans ?_
          exact kt)
      obtain rfl : (0 : Int32) = r16 := Pr16.2.2.1 (Ne.symm (Fld.ne F_ordinal_9 F_ordinal_7 (by decide))) rfl
      have pre18 : ∀ t, Steps p.tables e below (T15.setTop (mkF m 73 #[.val (.int p0), .val (.int p1), .val (.int (0 : Int32)), .val (.int (2 : Int32)), .val (.ref w_INS_ENU_1), .val (.ref w_YUP_HAB_3), .val (.int (0 : Int32))] [(.int (1 : Int32))])) t → Steps p.tables e below (s₁.setTop (entryFrame m #[(.int p0), (.int p1)] maxLocals)) t := fun t kt => pre17 t (by
          show Steps p.tables e below (T15.setTop (mkF m 63 #[.val (.int p0), .val (.int p1), .val (.int (0 : Int32)), .val (.int (2 : Int32)), .val (.ref w_INS_ENU_1), .val (.ref w_YUP_HAB_3), .val (.int (0 : Int32))] [(.int (0 : Int32))])) _
          refine XS.iload X15.here hx rfl (hb hby at_63) rfl ?_
          show Steps p.tables e below (T15.setTop (mkF m 65 #[.val (.int p0), .val (.int p1), .val (.int (0 : Int32)), .val (.int (2 : Int32)), .val (.ref w_INS_ENU_1), .val (.ref w_YUP_HAB_3), .val (.int (0 : Int32))] [(.int (0 : Int32)), (.int (0 : Int32))])) _
          refine XS.icmpNo X15.here hx rfl (hb hby at_65) rfl (teq (rfl : (0 : Int32) = (0 : Int32))).2 ?_
          show Steps p.tables e below (T15.setTop (mkF m 68 #[.val (.int p0), .val (.int p1), .val (.int (0 : Int32)), .val (.int (2 : Int32)), .val (.ref w_INS_ENU_1), .val (.ref w_YUP_HAB_3), .val (.int (0 : Int32))] [])) _
          refine XS.iconst X15.here hx rfl (hb hby at_68) ?_
          show Steps p.tables e below (T15.setTop (mkF m 69 #[.val (.int p0), .val (.int p1), .val (.int (0 : Int32)), .val (.int (2 : Int32)), .val (.ref w_INS_ENU_1), .val (.ref w_YUP_HAB_3), .val (.int (0 : Int32))] [(.int (1 : Int32))])) _
          refine XS.goto X15.here hx rfl (pc0 := 69) (pc' := 73) rfl (hb hby at_69) (by decide) (by decide) ?_
          exact kt)
      obtain ⟨fs, hr, hrun, hended, hW, hsame⟩ := X15.leave (v := some (.int (1 : Int32))) (fun h => by rw [Bd.returns] at h; cases h)
      refine ⟨_, _, pre18 _ ?_, hrun, hended, _, _, rfl, ?_, ⟨_, rfl⟩, hW, hsame.mono (by decide) (by decide)⟩
      · show Steps p.tables e below (T15.setTop (mkF m 73 #[.val (.int p0), .val (.int p1), .val (.int (0 : Int32)), .val (.int (2 : Int32)), .val (.ref w_INS_ENU_1), .val (.ref w_YUP_HAB_3), .val (.int (0 : Int32))] [(.int (1 : Int32))])) _
        exact retN X15 hx (t := .boolean) Bd.returns (by simp) (hb hby at_73) hr
      · show Q0 Z _ _ _ _ _ _ _ h0 n0 _ T15.heap _
        rw [e15]
        exact ⟨rfl, N15, rfl⟩
  · skip
    obtain ⟨_, _, ⟨T19, L19, k19, n19⟩, -, X19, ⟨Lc19, hQ19, l19, y19, z19⟩, st19⟩ := Jvm.LawKit.callS X1 hx (y := (⟨"com/example/rotarium/rotarium/AttitudeConventionSharesFramesWithPinLaw", "pick", "(I)Lcom/example/rotarium/rotarium/AttitudeConvention;"⟩ : MethodName)) hown (mvT hZ (hw _ (List.mem_of_getElem? (i := 1) rfl))) (mvT hZ (hw _ (List.mem_of_getElem? (i := 2) rfl))) (mvT hZ (hw _ (List.mem_of_getElem? (i := 3) rfl))) (mvT hZ (hw _ (List.mem_of_getElem? (i := 4) rfl))) (by decide) (backOf (W := 0) (rm1 l Z aw hw [] ((p1 &&& (2147483647 : Int32)) % (3 : Int32)) w_INS_ENU_1 w_NED_YPR_5 w_YUP_HAB_3 h0 n0 Z0 (own_rng _ _ 3 rfl (by decide)) S_INS_ENU_0 S_NED_YPR_4 S_YUP_HAB_2) hZ (hw _ (List.mem_of_getElem? (i := 4) rfl)) (hw _ (List.mem_of_getElem? (i := 3) rfl)) (by decide) (by decide)) (g := (mkF m 21 #[.val (.int p0), .val (.int p1), .val (.int (1 : Int32)), .val (.int ((p1 &&& (2147483647 : Int32)) % (3 : Int32))), .val (.ref w_NED_YPR_5), .unset, .unset] [(.int ((p1 &&& (2147483647 : Int32)) % (3 : Int32)))])) rfl (by rw [hml]; rfl) (argsL := [(.int ((p1 &&& (2147483647 : Int32)) % (3 : Int32)))]) (rest := []) (lenOf pd_0 rfl) rfl (by show 2 * 0 + _ ≤ _; exact Nat.le_of_eq rfl) (hb hby at_21) (fun _ _ => ⟨rfl, e1, (by decide : 0 + 0 ≤ _), (by decide : 0 + 0 ≤ _)⟩)
    dsimp only [Pt.U, Pt.locs, Pt.cells, Pt.slots] at X19 l19 y19 z19 st19 hQ19
    subst l19 y19 z19
    obtain ⟨⟨r20, rfl, Pr20⟩, Nq19, e19⟩ := hQ19
    have N19 := Fr.app N1 Nq19
    have pre21 : ∀ t, Steps p.tables e below (T19.setTop (mkF m 24 #[.val (.int p0), .val (.int p1), .val (.int (1 : Int32)), .val (.int ((p1 &&& (2147483647 : Int32)) % (3 : Int32))), .val (.ref w_NED_YPR_5), .unset, .unset] [(.ref r20)])) t → Steps p.tables e below (s₁.setTop (entryFrame m #[(.int p0), (.int p1)] maxLocals)) t := fun t kt => pre3 t (by
        show Steps p.tables e below (T1.setTop (mkF m 18 #[.val (.int p0), .val (.int p1), .val (.int (1 : Int32)), .val (.int ((p1 &&& (2147483647 : Int32)) % (3 : Int32))), .unset, .unset, .unset] [(.ref w_NED_YPR_5)])) _
        refine XS.astore X1.here hx rfl (hb hby at_18) rfl rfl (l' := #[.val (.int p0), .val (.int p1), .val (.int (1 : Int32)), .val (.int ((p1 &&& (2147483647 : Int32)) % (3 : Int32))), .val (.ref w_NED_YPR_5), .unset, .unset]) rfl ?_
        show Steps p.tables e below (T1.setTop (mkF m 20 #[.val (.int p0), .val (.int p1), .val (.int (1 : Int32)), .val (.int ((p1 &&& (2147483647 : Int32)) % (3 : Int32))), .val (.ref w_NED_YPR_5), .unset, .unset] [])) _
        refine XS.iloadN X1.here hx rfl (hb hby at_20) rfl ?_
        show Steps p.tables e below (T1.setTop (mkF m 21 #[.val (.int p0), .val (.int p1), .val (.int (1 : Int32)), .val (.int ((p1 &&& (2147483647 : Int32)) % (3 : Int32))), .val (.ref w_NED_YPR_5), .unset, .unset] [(.int ((p1 &&& (2147483647 : Int32)) % (3 : Int32)))])) _
        refine st19 _ ?_
        exact kt)
    obtain ⟨j, hj⟩ : ∃ z, z = ((p1 &&& (2147483647 : Int32)) % (3 : Int32)) := ⟨_, rfl⟩
    rw [← hj] at pre21 Pr20
    rcases Pr20 with ⟨rfl, rfl⟩ | ⟨rfl, rfl⟩ | ⟨rfl, rfl⟩
    · skip
      obtain ⟨cq22, kq22, q22a, q22b, q22c⟩ := isOf hZ e19 E_5
      obtain ⟨_, _, ⟨T22, L22, k22, n22⟩, -, X22, ⟨Lc22, hQ22, l22, y22, z22⟩, st22⟩ := X19.virtualBack hx (y := (⟨"com/example/rotarium/rotarium/AttitudeConvention", "sharesFramesWith", "(Lcom/example/rotarium/rotarium/AttitudeConvention;)Z"⟩ : MethodName)) (z := (⟨"com/example/rotarium/rotarium/AttitudeConvention", "sharesFramesWith", "(Lcom/example/rotarium/rotarium/AttitudeConvention;)Z"⟩ : MethodName)) hown (mvT hZ (hw _ (List.mem_of_getElem? (i := 8) rfl))) (mvT hZ (hw _ (List.mem_of_getElem? (i := 9) rfl))) (notFace_of_selects (args := #[]) (mvT hZ (hw _ (List.mem_of_getElem? (i := 11) rfl)))) (mvT hZ (hw _ (List.mem_of_getElem? (i := 11) rfl))) (mvT hZ (hw _ (List.mem_of_getElem? (i := 10) rfl))) (by decide) (backOf (W := 0) (rm2 l Z aw hw [] w_NED_YPR_5 w_INS_ENU_1 (.ref u_northEastDownAxes_9) (.ref u_northEastDownAxes_7) h0 n0 Z0 rfl F_northEastDownAxes_11 rfl F_northEastDownAxes_10) hZ (hw _ (List.mem_of_getElem? (i := 12) rfl)) (hw _ (List.mem_of_getElem? (i := 6) rfl)) (by decide) (by decide)) q22a q22c (g := (mkF m 60 #[.val (.int p0), .val (.int p1), .val (.int (1 : Int32)), .val (.int (0 : Int32)), .val (.ref w_NED_YPR_5), .val (.ref w_INS_ENU_1), .val (.int (1 : Int32))] [(.ref w_INS_ENU_1), (.ref w_NED_YPR_5)])) rfl (by rw [hml]; rfl) (Steps.refl _) (argsL := [(.ref w_INS_ENU_1)]) (rest := []) (lenOf pd_1 rfl) rfl (by show 2 * 0 + _ ≤ _; exact Nat.le_of_eq rfl) (hb hby at_60) (fun _ _ => ⟨rfl, e19, (by decide : 0 + 0 ≤ _), (by decide : 0 + 0 ≤ _)⟩)
      dsimp only [Pt.U, Pt.locs, Pt.cells, Pt.slots] at X22 l22 y22 z22 st22 hQ22
      subst l22 y22 z22
      obtain ⟨⟨r23, rfl, Pr23⟩, Nq22, e22⟩ := hQ22
      have N22 := Fr.app N19 Nq22
      have pre24 : ∀ t, Steps p.tables e below (T22.setTop (mkF m 63 #[.val (.int p0), .val (.int p1), .val (.int (1 : Int32)), .val (.int (0 : Int32)), .val (.ref w_NED_YPR_5), .val (.ref w_INS_ENU_1), .val (.int (1 : Int32))] [(.int r23)])) t → Steps p.tables e below (s₁.setTop (entryFrame m #[(.int p0), (.int p1)] maxLocals)) t := fun t kt => pre21 t (by
          show Steps p.tables e below (T19.setTop (mkF m 24 #[.val (.int p0), .val (.int p1), .val (.int (1 : Int32)), .val (.int (0 : Int32)), .val (.ref w_NED_YPR_5), .unset, .unset] [(.ref w_INS_ENU_1)])) _
          refine XS.astore X19.here hx rfl (hb hby at_24) rfl rfl (l' := #[.val (.int p0), .val (.int p1), .val (.int (1 : Int32)), .val (.int (0 : Int32)), .val (.ref w_NED_YPR_5), .val (.ref w_INS_ENU_1), .unset]) rfl ?_
          show Steps p.tables e below (T19.setTop (mkF m 26 #[.val (.int p0), .val (.int p1), .val (.int (1 : Int32)), .val (.int (0 : Int32)), .val (.ref w_NED_YPR_5), .val (.ref w_INS_ENU_1), .unset] [])) _
          refine XS.iloadN X19.here hx rfl (hb hby at_26) rfl ?_
          show Steps p.tables e below (T19.setTop (mkF m 27 #[.val (.int p0), .val (.int p1), .val (.int (1 : Int32)), .val (.int (0 : Int32)), .val (.ref w_NED_YPR_5), .val (.ref w_INS_ENU_1), .unset] [(.int (1 : Int32))])) _
          refine XS.iloadN X19.here hx rfl (hb hby at_27) rfl ?_
          show Steps p.tables e below (T19.setTop (mkF m 28 #[.val (.int p0), .val (.int p1), .val (.int (1 : Int32)), .val (.int (0 : Int32)), .val (.ref w_NED_YPR_5), .val (.ref w_INS_ENU_1), .unset] [(.int (0 : Int32)), (.int (1 : Int32))])) _
          refine XS.icmpYes X19.here hx rfl (pc0 := 28) (pc' := 37) rfl (hb hby at_28) rfl (feq (by decide : ¬ ((1 : Int32) = (0 : Int32)))).2 (by decide) (by decide) ?_
          show Steps p.tables e below (T19.setTop (mkF m 37 #[.val (.int p0), .val (.int p1), .val (.int (1 : Int32)), .val (.int (0 : Int32)), .val (.ref w_NED_YPR_5), .val (.ref w_INS_ENU_1), .unset] [])) _
          refine XS.iloadN X19.here hx rfl (hb hby at_37) rfl ?_
          show Steps p.tables e below (T19.setTop (mkF m 38 #[.val (.int p0), .val (.int p1), .val (.int (1 : Int32)), .val (.int (0 : Int32)), .val (.ref w_NED_YPR_5), .val (.ref w_INS_ENU_1), .unset] [(.int (1 : Int32))])) _
          refine XS.iconst X19.here hx rfl (hb hby at_38) ?_
          show Steps p.tables e below (T19.setTop (mkF m 39 #[.val (.int p0), .val (.int p1), .val (.int (1 : Int32)), .val (.int (0 : Int32)), .val (.ref w_NED_YPR_5), .val (.ref w_INS_ENU_1), .unset] [(.int (2 : Int32)), (.int (1 : Int32))])) _
          refine XS.icmpNo X19.here hx rfl (hb hby at_39) rfl (feq (by decide : ¬ ((1 : Int32) = (2 : Int32)))).1 ?_
          show Steps p.tables e below (T19.setTop (mkF m 42 #[.val (.int p0), .val (.int p1), .val (.int (1 : Int32)), .val (.int (0 : Int32)), .val (.ref w_NED_YPR_5), .val (.ref w_INS_ENU_1), .unset] [])) _
          refine XS.iloadN X19.here hx rfl (hb hby at_42) rfl ?_
          show Steps p.tables e below (T19.setTop (mkF m 43 #[.val (.int p0), .val (.int p1), .val (.int (1 : Int32)), .val (.int (0 : Int32)), .val (.ref w_NED_YPR_5), .val (.ref w_INS_ENU_1), .unset] [(.int (0 : Int32))])) _
          refine XS.iconst X19.here hx rfl (hb hby at_43) ?_
          show Steps p.tables e below (T19.setTop (mkF m 44 #[.val (.int p0), .val (.int p1), .val (.int (1 : Int32)), .val (.int (0 : Int32)), .val (.ref w_NED_YPR_5), .val (.ref w_INS_ENU_1), .unset] [(.int (2 : Int32)), (.int (0 : Int32))])) _
          refine XS.icmpYes X19.here hx rfl (pc0 := 44) (pc' := 53) rfl (hb hby at_44) rfl (feq (by decide : ¬ ((0 : Int32) = (2 : Int32)))).2 (by decide) (by decide) ?_
          show Steps p.tables e below (T19.setTop (mkF m 53 #[.val (.int p0), .val (.int p1), .val (.int (1 : Int32)), .val (.int (0 : Int32)), .val (.ref w_NED_YPR_5), .val (.ref w_INS_ENU_1), .unset] [])) _
          refine XS.iconst X19.here hx rfl (hb hby at_53) ?_
          show Steps p.tables e below (T19.setTop (mkF m 54 #[.val (.int p0), .val (.int p1), .val (.int (1 : Int32)), .val (.int (0 : Int32)), .val (.ref w_NED_YPR_5), .val (.ref w_INS_ENU_1), .unset] [(.int (1 : Int32))])) _
          refine XS.istore X19.here hx rfl (hb hby at_54) rfl (l' := #[.val (.int p0), .val (.int p1), .val (.int (1 : Int32)), .val (.int (0 : Int32)), .val (.ref w_NED_YPR_5), .val (.ref w_INS_ENU_1), .val (.int (1 : Int32))]) rfl ?_
          show Steps p.tables e below (T19.setTop (mkF m 56 #[.val (.int p0), .val (.int p1), .val (.int (1 : Int32)), .val (.int (0 : Int32)), .val (.ref w_NED_YPR_5), .val (.ref w_INS_ENU_1), .val (.int (1 : Int32))] [])) _
          refine XS.aload X19.here hx rfl (hb hby at_56) rfl rfl ?_
          show Steps p.tables e below (T19.setTop (mkF m 58 #[.val (.int p0), .val (.int p1), .val (.int (1 : Int32)), .val (.int (0 : Int32)), .val (.ref w_NED_YPR_5), .val (.ref w_INS_ENU_1), .val (.int (1 : Int32))] [(.ref w_NED_YPR_5)])) _
          refine XS.aload X19.here hx rfl (hb hby at_58) rfl rfl ?_
          show Steps p.tables e below (T19.setTop (mkF m 60 #[.val (.int p0), .val (.int p1), .val (.int (1 : Int32)), .val (.int (0 : Int32)), .val (.ref w_NED_YPR_5), .val (.ref w_INS_ENU_1), .val (.int (1 : Int32))] [(.ref w_INS_ENU_1), (.ref w_NED_YPR_5)])) _
          refine st22.trans ?_
          exact kt)
      obtain rfl : (1 : Int32) = r23 := Pr23.2.2.2 (Ne.symm (Fld.ne F_ordinal_6 F_ordinal_9 (by decide))) nofun nofun
      have pre25 : ∀ t, Steps p.tables e below (T22.setTop (mkF m 73 #[.val (.int p0), .val (.int p1), .val (.int (1 : Int32)), .val (.int (0 : Int32)), .val (.ref w_NED_YPR_5), .val (.ref w_INS_ENU_1), .val (.int (1 : Int32))] [(.int (1 : Int32))])) t → Steps p.tables e below (s₁.setTop (entryFrame m #[(.int p0), (.int p1)] maxLocals)) t := fun t kt => pre24 t (by
          show Steps p.tables e below (T22.setTop (mkF m 63 #[.val (.int p0), .val (.int p1), .val (.int (1 : Int32)), .val (.int (0 : Int32)), .val (.ref w_NED_YPR_5), .val (.ref w_INS_ENU_1), .val (.int (1 : Int32))] [(.int (1 : Int32))])) _
          refine XS.iload X22.here hx rfl (hb hby at_63) rfl ?_
          show Steps p.tables e below (T22.setTop (mkF m 65 #[.val (.int p0), .val (.int p1), .val (.int (1 : Int32)), .val (.int (0 : Int32)), .val (.ref w_NED_YPR_5), .val (.ref w_INS_ENU_1), .val (.int (1 : Int32))] [(.int (1 : Int32)), (.int (1 : Int32))])) _
          refine XS.icmpNo X22.here hx rfl (hb hby at_65) rfl (teq (rfl : (1 : Int32) = (1 : Int32))).2 ?_
          show Steps p.tables e below (T22.setTop (mkF m 68 #[.val (.int p0), .val (.int p1), .val (.int (1 : Int32)), .val (.int (0 : Int32)), .val (.ref w_NED_YPR_5), .val (.ref w_INS_ENU_1), .val (.int (1 : Int32))] [])) _
          refine XS.iconst X22.here hx rfl (hb hby at_68) ?_
          show Steps p.tables e below (T22.setTop (mkF m 69 #[.val (.int p0), .val (.int p1), .val (.int (1 : Int32)), .val (.int (0 : Int32)), .val (.ref w_NED_YPR_5), .val (.ref w_INS_ENU_1), .val (.int (1 : Int32))] [(.int (1 : Int32))])) _
          refine XS.goto X22.here hx rfl (pc0 := 69) (pc' := 73) rfl (hb hby at_69) (by decide) (by decide) ?_
          exact kt)
      obtain ⟨fs, hr, hrun, hended, hW, hsame⟩ := X22.leave (v := some (.int (1 : Int32))) (fun h => by rw [Bd.returns] at h; cases h)
      refine ⟨_, _, pre25 _ ?_, hrun, hended, _, _, rfl, ?_, ⟨_, rfl⟩, hW, hsame.mono (by decide) (by decide)⟩
      · show Steps p.tables e below (T22.setTop (mkF m 73 #[.val (.int p0), .val (.int p1), .val (.int (1 : Int32)), .val (.int (0 : Int32)), .val (.ref w_NED_YPR_5), .val (.ref w_INS_ENU_1), .val (.int (1 : Int32))] [(.int (1 : Int32))])) _
        exact retN X22 hx (t := .boolean) Bd.returns (by simp) (hb hby at_73) hr
      · show Q0 Z _ _ _ _ _ _ _ h0 n0 _ T22.heap _
        rw [e22]
        exact ⟨rfl, N22, rfl⟩
    · skip
      obtain ⟨cq26, kq26, q26a, q26b, q26c⟩ := isOf hZ e19 E_5
      obtain ⟨_, _, ⟨T26, L26, k26, n26⟩, -, X26, ⟨Lc26, hQ26, l26, y26, z26⟩, st26⟩ := X19.virtualBack hx (y := (⟨"com/example/rotarium/rotarium/AttitudeConvention", "sharesFramesWith", "(Lcom/example/rotarium/rotarium/AttitudeConvention;)Z"⟩ : MethodName)) (z := (⟨"com/example/rotarium/rotarium/AttitudeConvention", "sharesFramesWith", "(Lcom/example/rotarium/rotarium/AttitudeConvention;)Z"⟩ : MethodName)) hown (mvT hZ (hw _ (List.mem_of_getElem? (i := 8) rfl))) (mvT hZ (hw _ (List.mem_of_getElem? (i := 9) rfl))) (notFace_of_selects (args := #[]) (mvT hZ (hw _ (List.mem_of_getElem? (i := 11) rfl)))) (mvT hZ (hw _ (List.mem_of_getElem? (i := 11) rfl))) (mvT hZ (hw _ (List.mem_of_getElem? (i := 10) rfl))) (by decide) (backOf (W := 0) (rm2 l Z aw hw [] w_NED_YPR_5 w_NED_YPR_5 (.ref u_northEastDownAxes_9) (.ref u_northEastDownAxes_9) h0 n0 Z0 rfl F_northEastDownAxes_11 rfl F_northEastDownAxes_11) hZ (hw _ (List.mem_of_getElem? (i := 12) rfl)) (hw _ (List.mem_of_getElem? (i := 6) rfl)) (by decide) (by decide)) q26a q26c (g := (mkF m 60 #[.val (.int p0), .val (.int p1), .val (.int (1 : Int32)), .val (.int (1 : Int32)), .val (.ref w_NED_YPR_5), .val (.ref w_NED_YPR_5), .val (.int (1 : Int32))] [(.ref w_NED_YPR_5), (.ref w_NED_YPR_5)])) rfl (by rw [hml]; rfl) (Steps.refl _) (argsL := [(.ref w_NED_YPR_5)]) (rest := []) (lenOf pd_1 rfl) rfl (by show 2 * 0 + _ ≤ _; exact Nat.le_of_eq rfl) (hb hby at_60) (fun _ _ => ⟨rfl, e19, (by decide : 0 + 0 ≤ _), (by decide : 0 + 0 ≤ _)⟩)
      dsimp only [Pt.U, Pt.locs, Pt.cells, Pt.slots] at X26 l26 y26 z26 st26 hQ26
      subst l26 y26 z26
      obtain ⟨⟨r27, rfl, Pr27⟩, Nq26, e26⟩ := hQ26
      have N26 := Fr.app N19 Nq26
      have pre28 : ∀ t, Steps p.tables e below (T26.setTop (mkF m 63 #[.val (.int p0), .val (.int p1), .val (.int (1 : Int32)), .val (.int (1 : Int32)), .val (.ref w_NED_YPR_5), .val (.ref w_NED_YPR_5), .val (.int (1 : Int32))] [(.int r27)])) t → Steps p.tables e below (s₁.setTop (entryFrame m #[(.int p0), (.int p1)] maxLocals)) t := fun t kt => pre21 t (by
          show Steps p.tables e below (T19.setTop (mkF m 24 #[.val (.int p0), .val (.int p1), .val (.int (1 : Int32)), .val (.int (1 : Int32)), .val (.ref w_NED_YPR_5), .unset, .unset] [(.ref w_NED_YPR_5)])) _
          refine XS.astore X19.here hx rfl (hb hby at_24) rfl rfl (l' := #[.val (.int p0), .val (.int p1), .val (.int (1 : Int32)), .val (.int (1 : Int32)), .val (.ref w_NED_YPR_5), .val (.ref w_NED_YPR_5), .unset]) rfl ?_
          show Steps p.tables e below (T19.setTop (mkF m 26 #[.val (.int p0), .val (.int p1), .val (.int (1 : Int32)), .val (.int (1 : Int32)), .val (.ref w_NED_YPR_5), .val (.ref w_NED_YPR_5), .unset] [])) _
          refine XS.iloadN X19.here hx rfl (hb hby at_26) rfl ?_
          show Steps p.tables e below (T19.setTop (mkF m 27 #[.val (.int p0), .val (.int p1), .val (.int (1 : Int32)), .val (.int (1 : Int32)), .val (.ref w_NED_YPR_5), .val (.ref w_NED_YPR_5), .unset] [(.int (1 : Int32))])) _
          refine XS.iloadN X19.here hx rfl (hb hby at_27) rfl ?_
          show Steps p.tables e below (T19.setTop (mkF m 28 #[.val (.int p0), .val (.int p1), .val (.int (1 : Int32)), .val (.int (1 : Int32)), .val (.ref w_NED_YPR_5), .val (.ref w_NED_YPR_5), .unset] [(.int (1 : Int32)), (.int (1 : Int32))])) _
          refine XS.icmpNo X19.here hx rfl (hb hby at_28) rfl (teq (rfl : (1 : Int32) = (1 : Int32))).2 ?_
          show Steps p.tables e below (T19.setTop (mkF m 31 #[.val (.int p0), .val (.int p1), .val (.int (1 : Int32)), .val (.int (1 : Int32)), .val (.ref w_NED_YPR_5), .val (.ref w_NED_YPR_5), .unset] [])) _
          refine XS.iconst X19.here hx rfl (hb hby at_31) ?_
          show Steps p.tables e below (T19.setTop (mkF m 32 #[.val (.int p0), .val (.int p1), .val (.int (1 : Int32)), .val (.int (1 : Int32)), .val (.ref w_NED_YPR_5), .val (.ref w_NED_YPR_5), .unset] [(.int (1 : Int32))])) _
          refine XS.istore X19.here hx rfl (hb hby at_32) rfl (l' := #[.val (.int p0), .val (.int p1), .val (.int (1 : Int32)), .val (.int (1 : Int32)), .val (.ref w_NED_YPR_5), .val (.ref w_NED_YPR_5), .val (.int (1 : Int32))]) rfl ?_
          show Steps p.tables e below (T19.setTop (mkF m 34 #[.val (.int p0), .val (.int p1), .val (.int (1 : Int32)), .val (.int (1 : Int32)), .val (.ref w_NED_YPR_5), .val (.ref w_NED_YPR_5), .val (.int (1 : Int32))] [])) _
          refine XS.goto X19.here hx rfl (pc0 := 34) (pc' := 56) rfl (hb hby at_34) (by decide) (by decide) ?_
          show Steps p.tables e below (T19.setTop (mkF m 56 #[.val (.int p0), .val (.int p1), .val (.int (1 : Int32)), .val (.int (1 : Int32)), .val (.ref w_NED_YPR_5), .val (.ref w_NED_YPR_5), .val (.int (1 : Int32))] [])) _
          refine XS.aload X19.here hx rfl (hb hby at_56) rfl rfl ?_
          show Steps p.tables e below (T19.setTop (mkF m 58 #[.val (.int p0), .val (.int p1), .val (.int (1 : Int32)), .val (.int (1 : Int32)), .val (.ref w_NED_YPR_5), .val (.ref w_NED_YPR_5), .val (.int (1 : Int32))] [(.ref w_NED_YPR_5)])) _
          refine XS.aload X19.here hx rfl (hb hby at_58) rfl rfl ?_
          show Steps p.tables e below (T19.setTop (mkF m 60 #[.val (.int p0), .val (.int p1), .val (.int (1 : Int32)), .val (.int (1 : Int32)), .val (.ref w_NED_YPR_5), .val (.ref w_NED_YPR_5), .val (.int (1 : Int32))] [(.ref w_NED_YPR_5), (.ref w_NED_YPR_5)])) _
          refine st26.trans ?_
          exact kt)
      obtain rfl : (1 : Int32) = r27 := Pr27.1 rfl
      have pre29 : ∀ t, Steps p.tables e below (T26.setTop (mkF m 73 #[.val (.int p0), .val (.int p1), .val (.int (1 : Int32)), .val (.int (1 : Int32)), .val (.ref w_NED_YPR_5), .val (.ref w_NED_YPR_5), .val (.int (1 : Int32))] [(.int (1 : Int32))])) t → Steps p.tables e below (s₁.setTop (entryFrame m #[(.int p0), (.int p1)] maxLocals)) t := fun t kt => pre28 t (by
          show Steps p.tables e below (T26.setTop (mkF m 63 #[.val (.int p0), .val (.int p1), .val (.int (1 : Int32)), .val (.int (1 : Int32)), .val (.ref w_NED_YPR_5), .val (.ref w_NED_YPR_5), .val (.int (1 : Int32))] [(.int (1 : Int32))])) _
          refine XS.iload X26.here hx rfl (hb hby at_63) rfl ?_
          show Steps p.tables e below (T26.setTop (mkF m 65 #[.val (.int p0), .val (.int p1), .val (.int (1 : Int32)), .val (.int (1 : Int32)), .val (.ref w_NED_YPR_5), .val (.ref w_NED_YPR_5), .val (.int (1 : Int32))] [(.int (1 : Int32)), (.int (1 : Int32))])) _
          refine XS.icmpNo X26.here hx rfl (hb hby at_65) rfl (teq (rfl : (1 : Int32) = (1 : Int32))).2 ?_
          show Steps p.tables e below (T26.setTop (mkF m 68 #[.val (.int p0), .val (.int p1), .val (.int (1 : Int32)), .val (.int (1 : Int32)), .val (.ref w_NED_YPR_5), .val (.ref w_NED_YPR_5), .val (.int (1 : Int32))] [])) _
          refine XS.iconst X26.here hx rfl (hb hby at_68) ?_
          show Steps p.tables e below (T26.setTop (mkF m 69 #[.val (.int p0), .val (.int p1), .val (.int (1 : Int32)), .val (.int (1 : Int32)), .val (.ref w_NED_YPR_5), .val (.ref w_NED_YPR_5), .val (.int (1 : Int32))] [(.int (1 : Int32))])) _
          refine XS.goto X26.here hx rfl (pc0 := 69) (pc' := 73) rfl (hb hby at_69) (by decide) (by decide) ?_
          exact kt)
      obtain ⟨fs, hr, hrun, hended, hW, hsame⟩ := X26.leave (v := some (.int (1 : Int32))) (fun h => by rw [Bd.returns] at h; cases h)
      refine ⟨_, _, pre29 _ ?_, hrun, hended, _, _, rfl, ?_, ⟨_, rfl⟩, hW, hsame.mono (by decide) (by decide)⟩
      · show Steps p.tables e below (T26.setTop (mkF m 73 #[.val (.int p0), .val (.int p1), .val (.int (1 : Int32)), .val (.int (1 : Int32)), .val (.ref w_NED_YPR_5), .val (.ref w_NED_YPR_5), .val (.int (1 : Int32))] [(.int (1 : Int32))])) _
        exact retN X26 hx (t := .boolean) Bd.returns (by simp) (hb hby at_73) hr
      · show Q0 Z _ _ _ _ _ _ _ h0 n0 _ T26.heap _
        rw [e26]
        exact ⟨rfl, N26, rfl⟩
    · skip
      obtain ⟨cq30, kq30, q30a, q30b, q30c⟩ := isOf hZ e19 E_5
      obtain ⟨_, _, ⟨T30, L30, k30, n30⟩, -, X30, ⟨Lc30, hQ30, l30, y30, z30⟩, st30⟩ := X19.virtualBack hx (y := (⟨"com/example/rotarium/rotarium/AttitudeConvention", "sharesFramesWith", "(Lcom/example/rotarium/rotarium/AttitudeConvention;)Z"⟩ : MethodName)) (z := (⟨"com/example/rotarium/rotarium/AttitudeConvention", "sharesFramesWith", "(Lcom/example/rotarium/rotarium/AttitudeConvention;)Z"⟩ : MethodName)) hown (mvT hZ (hw _ (List.mem_of_getElem? (i := 8) rfl))) (mvT hZ (hw _ (List.mem_of_getElem? (i := 9) rfl))) (notFace_of_selects (args := #[]) (mvT hZ (hw _ (List.mem_of_getElem? (i := 11) rfl)))) (mvT hZ (hw _ (List.mem_of_getElem? (i := 11) rfl))) (mvT hZ (hw _ (List.mem_of_getElem? (i := 10) rfl))) (by decide) (backOf (W := 0) (rm2 l Z aw hw [] w_NED_YPR_5 w_YUP_HAB_3 (.ref u_northEastDownAxes_9) .null h0 n0 Z0 rfl F_northEastDownAxes_11 rfl F_northEastDownAxes_8) hZ (hw _ (List.mem_of_getElem? (i := 12) rfl)) (hw _ (List.mem_of_getElem? (i := 6) rfl)) (by decide) (by decide)) q30a q30c (g := (mkF m 60 #[.val (.int p0), .val (.int p1), .val (.int (1 : Int32)), .val (.int (2 : Int32)), .val (.ref w_NED_YPR_5), .val (.ref w_YUP_HAB_3), .val (.int (0 : Int32))] [(.ref w_YUP_HAB_3), (.ref w_NED_YPR_5)])) rfl (by rw [hml]; rfl) (Steps.refl _) (argsL := [(.ref w_YUP_HAB_3)]) (rest := []) (lenOf pd_1 rfl) rfl (by show 2 * 0 + _ ≤ _; exact Nat.le_of_eq rfl) (hb hby at_60) (fun _ _ => ⟨rfl, e19, (by decide : 0 + 0 ≤ _), (by decide : 0 + 0 ≤ _)⟩)
      dsimp only [Pt.U, Pt.locs, Pt.cells, Pt.slots] at X30 l30 y30 z30 st30 hQ30
      subst l30 y30 z30
      obtain ⟨⟨r31, rfl, Pr31⟩, Nq30, e30⟩ := hQ30
      have N30 := Fr.app N19 Nq30
      have pre32 : ∀ t, Steps p.tables e below (T30.setTop (mkF m 63 #[.val (.int p0), .val (.int p1), .val (.int (1 : Int32)), .val (.int (2 : Int32)), .val (.ref w_NED_YPR_5), .val (.ref w_YUP_HAB_3), .val (.int (0 : Int32))] [(.int r31)])) t → Steps p.tables e below (s₁.setTop (entryFrame m #[(.int p0), (.int p1)] maxLocals)) t := fun t kt => pre21 t (by
          show Steps p.tables e below (T19.setTop (mkF m 24 #[.val (.int p0), .val (.int p1), .val (.int (1 : Int32)), .val (.int (2 : Int32)), .val (.ref w_NED_YPR_5), .unset, .unset] [(.ref w_YUP_HAB_3)])) _
          refine XS.astore X19.here hx rfl (hb hby at_24) rfl rfl (l' := #[.val (.int p0), .val (.int p1), .val (.int (1 : Int32)), .val (.int (2 : Int32)), .val (.ref w_NED_YPR_5), .val (.ref w_YUP_HAB_3), .unset]) rfl ?_
          show Steps p.tables e below (T19.setTop (mkF m 26 #[.val (.int p0), .val (.int p1), .val (.int (1 : Int32)), .val (.int (2 : Int32)), .val (.ref w_NED_YPR_5), .val (.ref w_YUP_HAB_3), .unset] [])) _
          refine XS.iloadN X19.here hx rfl (hb hby at_26) rfl ?_
          show Steps p.tables e below (T19.setTop (mkF m 27 #[.val (.int p0), .val (.int p1), .val (.int (1 : Int32)), .val (.int (2 : Int32)), .val (.ref w_NED_YPR_5), .val (.ref w_YUP_HAB_3), .unset] [(.int (1 : Int32))])) _
          refine XS.iloadN X19.here hx rfl (hb hby at_27) rfl ?_
          show Steps p.tables e below (T19.setTop (mkF m 28 #[.val (.int p0), .val (.int p1), .val (.int (1 : Int32)), .val (.int (2 : Int32)), .val (.ref w_NED_YPR_5), .val (.ref w_YUP_HAB_3), .unset] [(.int (2 : Int32)), (.int (1 : Int32))])) _
          refine XS.icmpYes X19.here hx rfl (pc0 := 28) (pc' := 37) rfl (hb hby at_28) rfl (feq (by decide : ¬ ((1 : Int32) = (2 : Int32)))).2 (by decide) (by decide) ?_
          show Steps p.tables e below (T19.setTop (mkF m 37 #[.val (.int p0), .val (.int p1), .val (.int (1 : Int32)), .val (.int (2 : Int32)), .val (.ref w_NED_YPR_5), .val (.ref w_YUP_HAB_3), .unset] [])) _
          refine XS.iloadN X19.here hx rfl (hb hby at_37) rfl ?_
          show Steps p.tables e below (T19.setTop (mkF m 38 #[.val (.int p0), .val (.int p1), .val (.int (1 : Int32)), .val (.int (2 : Int32)), .val (.ref w_NED_YPR_5), .val (.ref w_YUP_HAB_3), .unset] [(.int (1 : Int32))])) _
          refine XS.iconst X19.here hx rfl (hb hby at_38) ?_
          show Steps p.tables e below (T19.setTop (mkF m 39 #[.val (.int p0), .val (.int p1), .val (.int (1 : Int32)), .val (.int (2 : Int32)), .val (.ref w_NED_YPR_5), .val (.ref w_YUP_HAB_3), .unset] [(.int (2 : Int32)), (.int (1 : Int32))])) _
          refine XS.icmpNo X19.here hx rfl (hb hby at_39) rfl (feq (by decide : ¬ ((1 : Int32) = (2 : Int32)))).1 ?_
          show Steps p.tables e below (T19.setTop (mkF m 42 #[.val (.int p0), .val (.int p1), .val (.int (1 : Int32)), .val (.int (2 : Int32)), .val (.ref w_NED_YPR_5), .val (.ref w_YUP_HAB_3), .unset] [])) _
          refine XS.iloadN X19.here hx rfl (hb hby at_42) rfl ?_
          show Steps p.tables e below (T19.setTop (mkF m 43 #[.val (.int p0), .val (.int p1), .val (.int (1 : Int32)), .val (.int (2 : Int32)), .val (.ref w_NED_YPR_5), .val (.ref w_YUP_HAB_3), .unset] [(.int (2 : Int32))])) _
          refine XS.iconst X19.here hx rfl (hb hby at_43) ?_
          show Steps p.tables e below (T19.setTop (mkF m 44 #[.val (.int p0), .val (.int p1), .val (.int (1 : Int32)), .val (.int (2 : Int32)), .val (.ref w_NED_YPR_5), .val (.ref w_YUP_HAB_3), .unset] [(.int (2 : Int32)), (.int (2 : Int32))])) _
          refine XS.icmpNo X19.here hx rfl (hb hby at_44) rfl (teq (rfl : (2 : Int32) = (2 : Int32))).2 ?_
          show Steps p.tables e below (T19.setTop (mkF m 47 #[.val (.int p0), .val (.int p1), .val (.int (1 : Int32)), .val (.int (2 : Int32)), .val (.ref w_NED_YPR_5), .val (.ref w_YUP_HAB_3), .unset] [])) _
          refine XS.iconst X19.here hx rfl (hb hby at_47) ?_
          show Steps p.tables e below (T19.setTop (mkF m 48 #[.val (.int p0), .val (.int p1), .val (.int (1 : Int32)), .val (.int (2 : Int32)), .val (.ref w_NED_YPR_5), .val (.ref w_YUP_HAB_3), .unset] [(.int (0 : Int32))])) _
          refine XS.istore X19.here hx rfl (hb hby at_48) rfl (l' := #[.val (.int p0), .val (.int p1), .val (.int (1 : Int32)), .val (.int (2 : Int32)), .val (.ref w_NED_YPR_5), .val (.ref w_YUP_HAB_3), .val (.int (0 : Int32))]) rfl ?_
          show Steps p.tables e below (T19.setTop (mkF m 50 #[.val (.int p0), .val (.int p1), .val (.int (1 : Int32)), .val (.int (2 : Int32)), .val (.ref w_NED_YPR_5), .val (.ref w_YUP_HAB_3), .val (.int (0 : Int32))] [])) _
          refine XS.goto X19.here hx rfl (pc0 := 50) (pc' := 56) rfl (hb hby at_50) (by decide) (by decide) ?_
          show Steps p.tables e below (T19.setTop (mkF m 56 #[.val (.int p0), .val (.int p1), .val (.int (1 : Int32)), .val (.int (2 : Int32)), .val (.ref w_NED_YPR_5), .val (.ref w_YUP_HAB_3), .val (.int (0 : Int32))] [])) _
          refine XS.aload X19.here hx rfl (hb hby at_56) rfl rfl ?_
          show Steps p.tables e below (T19.setTop (mkF m 58 #[.val (.int p0), .val (.int p1), .val (.int (1 : Int32)), .val (.int (2 : Int32)), .val (.ref w_NED_YPR_5), .val (.ref w_YUP_HAB_3), .val (.int (0 : Int32))] [(.ref w_NED_YPR_5)])) _
          refine XS.aload X19.here hx rfl (hb hby at_58) rfl rfl ?_
          show Steps p.tables e below (T19.setTop (mkF m 60 #[.val (.int p0), .val (.int p1), .val (.int (1 : Int32)), .val (.int (2 : Int32)), .val (.ref w_NED_YPR_5), .val (.ref w_YUP_HAB_3), .val (.int (0 : Int32))] [(.ref w_YUP_HAB_3), (.ref w_NED_YPR_5)])) _
          refine st30.trans ?_
          exact kt)
      obtain rfl : (0 : Int32) = r31 := Pr31.2.2.1 (Ne.symm (Fld.ne F_ordinal_6 F_ordinal_7 (by decide))) rfl
      have pre33 : ∀ t, Steps p.tables e below (T30.setTop (mkF m 73 #[.val (.int p0), .val (.int p1), .val (.int (1 : Int32)), .val (.int (2 : Int32)), .val (.ref w_NED_YPR_5), .val (.ref w_YUP_HAB_3), .val (.int (0 : Int32))] [(.int (1 : Int32))])) t → Steps p.tables e below (s₁.setTop (entryFrame m #[(.int p0), (.int p1)] maxLocals)) t := fun t kt => pre32 t (by
          show Steps p.tables e below (T30.setTop (mkF m 63 #[.val (.int p0), .val (.int p1), .val (.int (1 : Int32)), .val (.int (2 : Int32)), .val (.ref w_NED_YPR_5), .val (.ref w_YUP_HAB_3), .val (.int (0 : Int32))] [(.int (0 : Int32))])) _
          refine XS.iload X30.here hx rfl (hb hby at_63) rfl ?_
          show Steps p.tables e below (T30.setTop (mkF m 65 #[.val (.int p0), .val (.int p1), .val (.int (1 : Int32)), .val (.int (2 : Int32)), .val (.ref w_NED_YPR_5), .val (.ref w_YUP_HAB_3), .val (.int (0 : Int32))] [(.int (0 : Int32)), (.int (0 : Int32))])) _
          refine XS.icmpNo X30.here hx rfl (hb hby at_65) rfl (teq (rfl : (0 : Int32) = (0 : Int32))).2 ?_
          show Steps p.tables e below (T30.setTop (mkF m 68 #[.val (.int p0), .val (.int p1), .val (.int (1 : Int32)), .val (.int (2 : Int32)), .val (.ref w_NED_YPR_5), .val (.ref w_YUP_HAB_3), .val (.int (0 : Int32))] [])) _
          refine XS.iconst X30.here hx rfl (hb hby at_68) ?_
          show Steps p.tables e below (T30.setTop (mkF m 69 #[.val (.int p0), .val (.int p1), .val (.int (1 : Int32)), .val (.int (2 : Int32)), .val (.ref w_NED_YPR_5), .val (.ref w_YUP_HAB_3), .val (.int (0 : Int32))] [(.int (1 : Int32))])) _
          refine XS.goto X30.here hx rfl (pc0 := 69) (pc' := 73) rfl (hb hby at_69) (by decide) (by decide) ?_
          exact kt)
      obtain ⟨fs, hr, hrun, hended, hW, hsame⟩ := X30.leave (v := some (.int (1 : Int32))) (fun h => by rw [Bd.returns] at h; cases h)
      refine ⟨_, _, pre33 _ ?_, hrun, hended, _, _, rfl, ?_, ⟨_, rfl⟩, hW, hsame.mono (by decide) (by decide)⟩
      · show Steps p.tables e below (T30.setTop (mkF m 73 #[.val (.int p0), .val (.int p1), .val (.int (1 : Int32)), .val (.int (2 : Int32)), .val (.ref w_NED_YPR_5), .val (.ref w_YUP_HAB_3), .val (.int (0 : Int32))] [(.int (1 : Int32))])) _
        exact retN X30 hx (t := .boolean) Bd.returns (by simp) (hb hby at_73) hr
      · show Q0 Z _ _ _ _ _ _ _ h0 n0 _ T30.heap _
        rw [e30]
        exact ⟨rfl, N30, rfl⟩
  · skip
    obtain ⟨_, _, ⟨T34, L34, k34, n34⟩, -, X34, ⟨Lc34, hQ34, l34, y34, z34⟩, st34⟩ := Jvm.LawKit.callS X1 hx (y := (⟨"com/example/rotarium/rotarium/AttitudeConventionSharesFramesWithPinLaw", "pick", "(I)Lcom/example/rotarium/rotarium/AttitudeConvention;"⟩ : MethodName)) hown (mvT hZ (hw _ (List.mem_of_getElem? (i := 1) rfl))) (mvT hZ (hw _ (List.mem_of_getElem? (i := 2) rfl))) (mvT hZ (hw _ (List.mem_of_getElem? (i := 3) rfl))) (mvT hZ (hw _ (List.mem_of_getElem? (i := 4) rfl))) (by decide) (backOf (W := 0) (rm1 l Z aw hw [] ((p1 &&& (2147483647 : Int32)) % (3 : Int32)) w_INS_ENU_1 w_NED_YPR_5 w_YUP_HAB_3 h0 n0 Z0 (own_rng _ _ 3 rfl (by decide)) S_INS_ENU_0 S_NED_YPR_4 S_YUP_HAB_2) hZ (hw _ (List.mem_of_getElem? (i := 4) rfl)) (hw _ (List.mem_of_getElem? (i := 3) rfl)) (by decide) (by decide)) (g := (mkF m 21 #[.val (.int p0), .val (.int p1), .val (.int (2 : Int32)), .val (.int ((p1 &&& (2147483647 : Int32)) % (3 : Int32))), .val (.ref w_YUP_HAB_3), .unset, .unset] [(.int ((p1 &&& (2147483647 : Int32)) % (3 : Int32)))])) rfl (by rw [hml]; rfl) (argsL := [(.int ((p1 &&& (2147483647 : Int32)) % (3 : Int32)))]) (rest := []) (lenOf pd_0 rfl) rfl (by show 2 * 0 + _ ≤ _; exact Nat.le_of_eq rfl) (hb hby at_21) (fun _ _ => ⟨rfl, e1, (by decide : 0 + 0 ≤ _), (by decide : 0 + 0 ≤ _)⟩)
    dsimp only [Pt.U, Pt.locs, Pt.cells, Pt.slots] at X34 l34 y34 z34 st34 hQ34
    subst l34 y34 z34
    obtain ⟨⟨r35, rfl, Pr35⟩, Nq34, e34⟩ := hQ34
    have N34 := Fr.app N1 Nq34
    have pre36 : ∀ t, Steps p.tables e below (T34.setTop (mkF m 24 #[.val (.int p0), .val (.int p1), .val (.int (2 : Int32)), .val (.int ((p1 &&& (2147483647 : Int32)) % (3 : Int32))), .val (.ref w_YUP_HAB_3), .unset, .unset] [(.ref r35)])) t → Steps p.tables e below (s₁.setTop (entryFrame m #[(.int p0), (.int p1)] maxLocals)) t := fun t kt => pre3 t (by
        show Steps p.tables e below (T1.setTop (mkF m 18 #[.val (.int p0), .val (.int p1), .val (.int (2 : Int32)), .val (.int ((p1 &&& (2147483647 : Int32)) % (3 : Int32))), .unset, .unset, .unset] [(.ref w_YUP_HAB_3)])) _
        refine XS.astore X1.here hx rfl (hb hby at_18) rfl rfl (l' := #[.val (.int p0), .val (.int p1), .val (.int (2 : Int32)), .val (.int ((p1 &&& (2147483647 : Int32)) % (3 : Int32))), .val (.ref w_YUP_HAB_3), .unset, .unset]) rfl ?_
        show Steps p.tables e below (T1.setTop (mkF m 20 #[.val (.int p0), .val (.int p1), .val (.int (2 : Int32)), .val (.int ((p1 &&& (2147483647 : Int32)) % (3 : Int32))), .val (.ref w_YUP_HAB_3), .unset, .unset] [])) _
        refine XS.iloadN X1.here hx rfl (hb hby at_20) rfl ?_
        show Steps p.tables e below (T1.setTop (mkF m 21 #[.val (.int p0), .val (.int p1), .val (.int (2 : Int32)), .val (.int ((p1 &&& (2147483647 : Int32)) % (3 : Int32))), .val (.ref w_YUP_HAB_3), .unset, .unset] [(.int ((p1 &&& (2147483647 : Int32)) % (3 : Int32)))])) _
        refine st34 _ ?_
        exact kt)
    obtain ⟨j, hj⟩ : ∃ z, z = ((p1 &&& (2147483647 : Int32)) % (3 : Int32)) := ⟨_, rfl⟩
    rw [← hj] at pre36 Pr35
    rcases Pr35 with ⟨rfl, rfl⟩ | ⟨rfl, rfl⟩ | ⟨rfl, rfl⟩
    · skip
      obtain ⟨cq37, kq37, q37a, q37b, q37c⟩ := isOf hZ e34 E_3
      obtain ⟨_, _, ⟨T37, L37, k37, n37⟩, -, X37, ⟨Lc37, hQ37, l37, y37, z37⟩, st37⟩ := X34.virtualBack hx (y := (⟨"com/example/rotarium/rotarium/AttitudeConvention", "sharesFramesWith", "(Lcom/example/rotarium/rotarium/AttitudeConvention;)Z"⟩ : MethodName)) (z := (⟨"com/example/rotarium/rotarium/AttitudeConvention", "sharesFramesWith", "(Lcom/example/rotarium/rotarium/AttitudeConvention;)Z"⟩ : MethodName)) hown (mvT hZ (hw _ (List.mem_of_getElem? (i := 8) rfl))) (mvT hZ (hw _ (List.mem_of_getElem? (i := 9) rfl))) (notFace_of_selects (args := #[]) (mvT hZ (hw _ (List.mem_of_getElem? (i := 11) rfl)))) (mvT hZ (hw _ (List.mem_of_getElem? (i := 11) rfl))) (mvT hZ (hw _ (List.mem_of_getElem? (i := 10) rfl))) (by decide) (backOf (W := 0) (rm2 l Z aw hw [] w_YUP_HAB_3 w_INS_ENU_1 .null (.ref u_northEastDownAxes_7) h0 n0 Z0 rfl F_northEastDownAxes_8 rfl F_northEastDownAxes_10) hZ (hw _ (List.mem_of_getElem? (i := 12) rfl)) (hw _ (List.mem_of_getElem? (i := 6) rfl)) (by decide) (by decide)) q37a q37c (g := (mkF m 60 #[.val (.int p0), .val (.int p1), .val (.int (2 : Int32)), .val (.int (0 : Int32)), .val (.ref w_YUP_HAB_3), .val (.ref w_INS_ENU_1), .val (.int (0 : Int32))] [(.ref w_INS_ENU_1), (.ref w_YUP_HAB_3)])) rfl (by rw [hml]; rfl) (Steps.refl _) (argsL := [(.ref w_INS_ENU_1)]) (rest := []) (lenOf pd_1 rfl) rfl (by show 2 * 0 + _ ≤ _; exact Nat.le_of_eq rfl) (hb hby at_60) (fun _ _ => ⟨rfl, e34, (by decide : 0 + 0 ≤ _), (by decide : 0 + 0 ≤ _)⟩)
      dsimp only [Pt.U, Pt.locs, Pt.cells, Pt.slots] at X37 l37 y37 z37 st37 hQ37
      subst l37 y37 z37
      obtain ⟨⟨r38, rfl, Pr38⟩, Nq37, e37⟩ := hQ37
      have N37 := Fr.app N34 Nq37
      have pre39 : ∀ t, Steps p.tables e below (T37.setTop (mkF m 63 #[.val (.int p0), .val (.int p1), .val (.int (2 : Int32)), .val (.int (0 : Int32)), .val (.ref w_YUP_HAB_3), .val (.ref w_INS_ENU_1), .val (.int (0 : Int32))] [(.int r38)])) t → Steps p.tables e below (s₁.setTop (entryFrame m #[(.int p0), (.int p1)] maxLocals)) t := fun t kt => pre36 t (by
          show Steps p.tables e below (T34.setTop (mkF m 24 #[.val (.int p0), .val (.int p1), .val (.int (2 : Int32)), .val (.int (0 : Int32)), .val (.ref w_YUP_HAB_3), .unset, .unset] [(.ref w_INS_ENU_1)])) _
          refine XS.astore X34.here hx rfl (hb hby at_24) rfl rfl (l' := #[.val (.int p0), .val (.int p1), .val (.int (2 : Int32)), .val (.int (0 : Int32)), .val (.ref w_YUP_HAB_3), .val (.ref w_INS_ENU_1), .unset]) rfl ?_
          show Steps p.tables e below (T34.setTop (mkF m 26 #[.val (.int p0), .val (.int p1), .val (.int (2 : Int32)), .val (.int (0 : Int32)), .val (.ref w_YUP_HAB_3), .val (.ref w_INS_ENU_1), .unset] [])) _
          refine XS.iloadN X34.here hx rfl (hb hby at_26) rfl ?_
          show Steps p.tables e below (T34.setTop (mkF m 27 #[.val (.int p0), .val (.int p1), .val (.int (2 : Int32)), .val (.int (0 : Int32)), .val (.ref w_YUP_HAB_3), .val (.ref w_INS_ENU_1), .unset] [(.int (2 : Int32))])) _
          refine XS.iloadN X34.here hx rfl (hb hby at_27) rfl ?_
          show Steps p.tables e below (T34.setTop (mkF m 28 #[.val (.int p0), .val (.int p1), .val (.int (2 : Int32)), .val (.int (0 : Int32)), .val (.ref w_YUP_HAB_3), .val (.ref w_INS_ENU_1), .unset] [(.int (0 : Int32)), (.int (2 : Int32))])) _
          refine XS.icmpYes X34.here hx rfl (pc0 := 28) (pc' := 37) rfl (hb hby at_28) rfl (feq (by decide : ¬ ((2 : Int32) = (0 : Int32)))).2 (by decide) (by decide) ?_
          show Steps p.tables e below (T34.setTop (mkF m 37 #[.val (.int p0), .val (.int p1), .val (.int (2 : Int32)), .val (.int (0 : Int32)), .val (.ref w_YUP_HAB_3), .val (.ref w_INS_ENU_1), .unset] [])) _
          refine XS.iloadN X34.here hx rfl (hb hby at_37) rfl ?_
          show Steps p.tables e below (T34.setTop (mkF m 38 #[.val (.int p0), .val (.int p1), .val (.int (2 : Int32)), .val (.int (0 : Int32)), .val (.ref w_YUP_HAB_3), .val (.ref w_INS_ENU_1), .unset] [(.int (2 : Int32))])) _
          refine XS.iconst X34.here hx rfl (hb hby at_38) ?_
          show Steps p.tables e below (T34.setTop (mkF m 39 #[.val (.int p0), .val (.int p1), .val (.int (2 : Int32)), .val (.int (0 : Int32)), .val (.ref w_YUP_HAB_3), .val (.ref w_INS_ENU_1), .unset] [(.int (2 : Int32)), (.int (2 : Int32))])) _
          refine XS.icmpYes X34.here hx rfl (pc0 := 39) (pc' := 47) rfl (hb hby at_39) rfl (teq (rfl : (2 : Int32) = (2 : Int32))).1 (by decide) (by decide) ?_
          show Steps p.tables e below (T34.setTop (mkF m 47 #[.val (.int p0), .val (.int p1), .val (.int (2 : Int32)), .val (.int (0 : Int32)), .val (.ref w_YUP_HAB_3), .val (.ref w_INS_ENU_1), .unset] [])) _
          refine XS.iconst X34.here hx rfl (hb hby at_47) ?_
          show Steps p.tables e below (T34.setTop (mkF m 48 #[.val (.int p0), .val (.int p1), .val (.int (2 : Int32)), .val (.int (0 : Int32)), .val (.ref w_YUP_HAB_3), .val (.ref w_INS_ENU_1), .unset] [(.int (0 : Int32))])) _
          refine XS.istore X34.here hx rfl (hb hby at_48) rfl (l' := #[.val (.int p0), .val (.int p1), .val (.int (2 : Int32)), .val (.int (0 : Int32)), .val (.ref w_YUP_HAB_3), .val (.ref w_INS_ENU_1), .val (.int (0 : Int32))]) rfl ?_
          show Steps p.tables e below (T34.setTop (mkF m 50 #[.val (.int p0), .val (.int p1), .val (.int (2 : Int32)), .val (.int (0 : Int32)), .val (.ref w_YUP_HAB_3), .val (.ref w_INS_ENU_1), .val (.int (0 : Int32))] [])) _
          refine XS.goto X34.here hx rfl (pc0 := 50) (pc' := 56) rfl (hb hby at_50) (by decide) (by decide) ?_
          show Steps p.tables e below (T34.setTop (mkF m 56 #[.val (.int p0), .val (.int p1), .val (.int (2 : Int32)), .val (.int (0 : Int32)), .val (.ref w_YUP_HAB_3), .val (.ref w_INS_ENU_1), .val (.int (0 : Int32))] [])) _
          refine XS.aload X34.here hx rfl (hb hby at_56) rfl rfl ?_
          show Steps p.tables e below (T34.setTop (mkF m 58 #[.val (.int p0), .val (.int p1), .val (.int (2 : Int32)), .val (.int (0 : Int32)), .val (.ref w_YUP_HAB_3), .val (.ref w_INS_ENU_1), .val (.int (0 : Int32))] [(.ref w_YUP_HAB_3)])) _
          refine XS.aload X34.here hx rfl (hb hby at_58) rfl rfl ?_
          show Steps p.tables e below (T34.setTop (mkF m 60 #[.val (.int p0), .val (.int p1), .val (.int (2 : Int32)), .val (.int (0 : Int32)), .val (.ref w_YUP_HAB_3), .val (.ref w_INS_ENU_1), .val (.int (0 : Int32))] [(.ref w_INS_ENU_1), (.ref w_YUP_HAB_3)])) _
          refine st37.trans ?_
          exact kt)
      obtain rfl : (0 : Int32) = r38 := Pr38.2.1 (Ne.symm (Fld.ne F_ordinal_7 F_ordinal_9 (by decide))) rfl
      have pre40 : ∀ t, Steps p.tables e below (T37.setTop (mkF m 73 #[.val (.int p0), .val (.int p1), .val (.int (2 : Int32)), .val (.int (0 : Int32)), .val (.ref w_YUP_HAB_3), .val (.ref w_INS_ENU_1), .val (.int (0 : Int32))] [(.int (1 : Int32))])) t → Steps p.tables e below (s₁.setTop (entryFrame m #[(.int p0), (.int p1)] maxLocals)) t := fun t kt => pre39 t (by
          show Steps p.tables e below (T37.setTop (mkF m 63 #[.val (.int p0), .val (.int p1), .val (.int (2 : Int32)), .val (.int (0 : Int32)), .val (.ref w_YUP_HAB_3), .val (.ref w_INS_ENU_1), .val (.int (0 : Int32))] [(.int (0 : Int32))])) _
          refine XS.iload X37.here hx rfl (hb hby at_63) rfl ?_
          show Steps p.tables e below (T37.setTop (mkF m 65 #[.val (.int p0), .val (.int p1), .val (.int (2 : Int32)), .val (.int (0 : Int32)), .val (.ref w_YUP_HAB_3), .val (.ref w_INS_ENU_1), .val (.int (0 : Int32))] [(.int (0 : Int32)), (.int (0 : Int32))])) _
          refine XS.icmpNo X37.here hx rfl (hb hby at_65) rfl (teq (rfl : (0 : Int32) = (0 : Int32))).2 ?_
          show Steps p.tables e below (T37.setTop (mkF m 68 #[.val (.int p0), .val (.int p1), .val (.int (2 : Int32)), .val (.int (0 : Int32)), .val (.ref w_YUP_HAB_3), .val (.ref w_INS_ENU_1), .val (.int (0 : Int32))] [])) _
          refine XS.iconst X37.here hx rfl (hb hby at_68) ?_
          show Steps p.tables e below (T37.setTop (mkF m 69 #[.val (.int p0), .val (.int p1), .val (.int (2 : Int32)), .val (.int (0 : Int32)), .val (.ref w_YUP_HAB_3), .val (.ref w_INS_ENU_1), .val (.int (0 : Int32))] [(.int (1 : Int32))])) _
          refine XS.goto X37.here hx rfl (pc0 := 69) (pc' := 73) rfl (hb hby at_69) (by decide) (by decide) ?_
          exact kt)
      obtain ⟨fs, hr, hrun, hended, hW, hsame⟩ := X37.leave (v := some (.int (1 : Int32))) (fun h => by rw [Bd.returns] at h; cases h)
      refine ⟨_, _, pre40 _ ?_, hrun, hended, _, _, rfl, ?_, ⟨_, rfl⟩, hW, hsame.mono (by decide) (by decide)⟩
      · show Steps p.tables e below (T37.setTop (mkF m 73 #[.val (.int p0), .val (.int p1), .val (.int (2 : Int32)), .val (.int (0 : Int32)), .val (.ref w_YUP_HAB_3), .val (.ref w_INS_ENU_1), .val (.int (0 : Int32))] [(.int (1 : Int32))])) _
        exact retN X37 hx (t := .boolean) Bd.returns (by simp) (hb hby at_73) hr
      · show Q0 Z _ _ _ _ _ _ _ h0 n0 _ T37.heap _
        rw [e37]
        exact ⟨rfl, N37, rfl⟩
    · skip
      obtain ⟨cq41, kq41, q41a, q41b, q41c⟩ := isOf hZ e34 E_3
      obtain ⟨_, _, ⟨T41, L41, k41, n41⟩, -, X41, ⟨Lc41, hQ41, l41, y41, z41⟩, st41⟩ := X34.virtualBack hx (y := (⟨"com/example/rotarium/rotarium/AttitudeConvention", "sharesFramesWith", "(Lcom/example/rotarium/rotarium/AttitudeConvention;)Z"⟩ : MethodName)) (z := (⟨"com/example/rotarium/rotarium/AttitudeConvention", "sharesFramesWith", "(Lcom/example/rotarium/rotarium/AttitudeConvention;)Z"⟩ : MethodName)) hown (mvT hZ (hw _ (List.mem_of_getElem? (i := 8) rfl))) (mvT hZ (hw _ (List.mem_of_getElem? (i := 9) rfl))) (notFace_of_selects (args := #[]) (mvT hZ (hw _ (List.mem_of_getElem? (i := 11) rfl)))) (mvT hZ (hw _ (List.mem_of_getElem? (i := 11) rfl))) (mvT hZ (hw _ (List.mem_of_getElem? (i := 10) rfl))) (by decide) (backOf (W := 0) (rm2 l Z aw hw [] w_YUP_HAB_3 w_NED_YPR_5 .null (.ref u_northEastDownAxes_9) h0 n0 Z0 rfl F_northEastDownAxes_8 rfl F_northEastDownAxes_11) hZ (hw _ (List.mem_of_getElem? (i := 12) rfl)) (hw _ (List.mem_of_getElem? (i := 6) rfl)) (by decide) (by decide)) q41a q41c (g := (mkF m 60 #[.val (.int p0), .val (.int p1), .val (.int (2 : Int32)), .val (.int (1 : Int32)), .val (.ref w_YUP_HAB_3), .val (.ref w_NED_YPR_5), .val (.int (0 : Int32))] [(.ref w_NED_YPR_5), (.ref w_YUP_HAB_3)])) rfl (by rw [hml]; rfl) (Steps.refl _) (argsL := [(.ref w_NED_YPR_5)]) (rest := []) (lenOf pd_1 rfl) rfl (by show 2 * 0 + _ ≤ _; exact Nat.le_of_eq rfl) (hb hby at_60) (fun _ _ => ⟨rfl, e34, (by decide : 0 + 0 ≤ _), (by decide : 0 + 0 ≤ _)⟩)
      dsimp only [Pt.U, Pt.locs, Pt.cells, Pt.slots] at X41 l41 y41 z41 st41 hQ41
      subst l41 y41 z41
      obtain ⟨⟨r42, rfl, Pr42⟩, Nq41, e41⟩ := hQ41
      have N41 := Fr.app N34 Nq41
      have pre43 : ∀ t, Steps p.tables e below (T41.setTop (mkF m 63 #[.val (.int p0), .val (.int p1), .val (.int (2 : Int32)), .val (.int (1 : Int32)), .val (.ref w_YUP_HAB_3), .val (.ref w_NED_YPR_5), .val (.int (0 : Int32))] [(.int r42)])) t → Steps p.tables e below (s₁.setTop (entryFrame m #[(.int p0), (.int p1)] maxLocals)) t := fun t kt => pre36 t (by
          show Steps p.tables e below (T34.setTop (mkF m 24 #[.val (.int p0), .val (.int p1), .val (.int (2 : Int32)), .val (.int (1 : Int32)), .val (.ref w_YUP_HAB_3), .unset, .unset] [(.ref w_NED_YPR_5)])) _
          refine XS.astore X34.here hx rfl (hb hby at_24) rfl rfl (l' := #[.val (.int p0), .val (.int p1), .val (.int (2 : Int32)), .val (.int (1 : Int32)), .val (.ref w_YUP_HAB_3), .val (.ref w_NED_YPR_5), .unset]) rfl ?_
          show Steps p.tables e below (T34.setTop (mkF m 26 #[.val (.int p0), .val (.int p1), .val (.int (2 : Int32)), .val (.int (1 : Int32)), .val (.ref w_YUP_HAB_3), .val (.ref w_NED_YPR_5), .unset] [])) _
          refine XS.iloadN X34.here hx rfl (hb hby at_26) rfl ?_
          show Steps p.tables e below (T34.setTop (mkF m 27 #[.val (.int p0), .val (.int p1), .val (.int (2 : Int32)), .val (.int (1 : Int32)), .val (.ref w_YUP_HAB_3), .val (.ref w_NED_YPR_5), .unset] [(.int (2 : Int32))])) _
          refine XS.iloadN X34.here hx rfl (hb hby at_27) rfl ?_
          show Steps p.tables e below (T34.setTop (mkF m 28 #[.val (.int p0), .val (.int p1), .val (.int (2 : Int32)), .val (.int (1 : Int32)), .val (.ref w_YUP_HAB_3), .val (.ref w_NED_YPR_5), .unset] [(.int (1 : Int32)), (.int (2 : Int32))])) _
          refine XS.icmpYes X34.here hx rfl (pc0 := 28) (pc' := 37) rfl (hb hby at_28) rfl (feq (by decide : ¬ ((2 : Int32) = (1 : Int32)))).2 (by decide) (by decide) ?_
          show Steps p.tables e below (T34.setTop (mkF m 37 #[.val (.int p0), .val (.int p1), .val (.int (2 : Int32)), .val (.int (1 : Int32)), .val (.ref w_YUP_HAB_3), .val (.ref w_NED_YPR_5), .unset] [])) _
          refine XS.iloadN X34.here hx rfl (hb hby at_37) rfl ?_
          show Steps p.tables e below (T34.setTop (mkF m 38 #[.val (.int p0), .val (.int p1), .val (.int (2 : Int32)), .val (.int (1 : Int32)), .val (.ref w_YUP_HAB_3), .val (.ref w_NED_YPR_5), .unset] [(.int (2 : Int32))])) _
          refine XS.iconst X34.here hx rfl (hb hby at_38) ?_
          show Steps p.tables e below (T34.setTop (mkF m 39 #[.val (.int p0), .val (.int p1), .val (.int (2 : Int32)), .val (.int (1 : Int32)), .val (.ref w_YUP_HAB_3), .val (.ref w_NED_YPR_5), .unset] [(.int (2 : Int32)), (.int (2 : Int32))])) _
          refine XS.icmpYes X34.here hx rfl (pc0 := 39) (pc' := 47) rfl (hb hby at_39) rfl (teq (rfl : (2 : Int32) = (2 : Int32))).1 (by decide) (by decide) ?_
          show Steps p.tables e below (T34.setTop (mkF m 47 #[.val (.int p0), .val (.int p1), .val (.int (2 : Int32)), .val (.int (1 : Int32)), .val (.ref w_YUP_HAB_3), .val (.ref w_NED_YPR_5), .unset] [])) _
          refine XS.iconst X34.here hx rfl (hb hby at_47) ?_
          show Steps p.tables e below (T34.setTop (mkF m 48 #[.val (.int p0), .val (.int p1), .val (.int (2 : Int32)), .val (.int (1 : Int32)), .val (.ref w_YUP_HAB_3), .val (.ref w_NED_YPR_5), .unset] [(.int (0 : Int32))])) _
          refine XS.istore X34.here hx rfl (hb hby at_48) rfl (l' := #[.val (.int p0), .val (.int p1), .val (.int (2 : Int32)), .val (.int (1 : Int32)), .val (.ref w_YUP_HAB_3), .val (.ref w_NED_YPR_5), .val (.int (0 : Int32))]) rfl ?_
          show Steps p.tables e below (T34.setTop (mkF m 50 #[.val (.int p0), .val (.int p1), .val (.int (2 : Int32)), .val (.int (1 : Int32)), .val (.ref w_YUP_HAB_3), .val (.ref w_NED_YPR_5), .val (.int (0 : Int32))] [])) _
          refine XS.goto X34.here hx rfl (pc0 := 50) (pc' := 56) rfl (hb hby at_50) (by decide) (by decide) ?_
          show Steps p.tables e below (T34.setTop (mkF m 56 #[.val (.int p0), .val (.int p1), .val (.int (2 : Int32)), .val (.int (1 : Int32)), .val (.ref w_YUP_HAB_3), .val (.ref w_NED_YPR_5), .val (.int (0 : Int32))] [])) _
          refine XS.aload X34.here hx rfl (hb hby at_56) rfl rfl ?_
          show Steps p.tables e below (T34.setTop (mkF m 58 #[.val (.int p0), .val (.int p1), .val (.int (2 : Int32)), .val (.int (1 : Int32)), .val (.ref w_YUP_HAB_3), .val (.ref w_NED_YPR_5), .val (.int (0 : Int32))] [(.ref w_YUP_HAB_3)])) _
          refine XS.aload X34.here hx rfl (hb hby at_58) rfl rfl ?_
          show Steps p.tables e below (T34.setTop (mkF m 60 #[.val (.int p0), .val (.int p1), .val (.int (2 : Int32)), .val (.int (1 : Int32)), .val (.ref w_YUP_HAB_3), .val (.ref w_NED_YPR_5), .val (.int (0 : Int32))] [(.ref w_NED_YPR_5), (.ref w_YUP_HAB_3)])) _
          refine st41.trans ?_
          exact kt)
      obtain rfl : (0 : Int32) = r42 := Pr42.2.1 (Ne.symm (Fld.ne F_ordinal_7 F_ordinal_6 (by decide))) rfl
      have pre44 : ∀ t, Steps p.tables e below (T41.setTop (mkF m 73 #[.val (.int p0), .val (.int p1), .val (.int (2 : Int32)), .val (.int (1 : Int32)), .val (.ref w_YUP_HAB_3), .val (.ref w_NED_YPR_5), .val (.int (0 : Int32))] [(.int (1 : Int32))])) t → Steps p.tables e below (s₁.setTop (entryFrame m #[(.int p0), (.int p1)] maxLocals)) t := fun t kt => pre43 t (by
          show Steps p.tables e below (T41.setTop (mkF m 63 #[.val (.int p0), .val (.int p1), .val (.int (2 : Int32)), .val (.int (1 : Int32)), .val (.ref w_YUP_HAB_3), .val (.ref w_NED_YPR_5), .val (.int (0 : Int32))] [(.int (0 : Int32))])) _
          refine XS.iload X41.here hx rfl (hb hby at_63) rfl ?_
          show Steps p.tables e below (T41.setTop (mkF m 65 #[.val (.int p0), .val (.int p1), .val (.int (2 : Int32)), .val (.int (1 : Int32)), .val (.ref w_YUP_HAB_3), .val (.ref w_NED_YPR_5), .val (.int (0 : Int32))] [(.int (0 : Int32)), (.int (0 : Int32))])) _
          refine XS.icmpNo X41.here hx rfl (hb hby at_65) rfl (teq (rfl : (0 : Int32) = (0 : Int32))).2 ?_
          show Steps p.tables e below (T41.setTop (mkF m 68 #[.val (.int p0), .val (.int p1), .val (.int (2 : Int32)), .val (.int (1 : Int32)), .val (.ref w_YUP_HAB_3), .val (.ref w_NED_YPR_5), .val (.int (0 : Int32))] [])) _
          refine XS.iconst X41.here hx rfl (hb hby at_68) ?_
          show Steps p.tables e below (T41.setTop (mkF m 69 #[.val (.int p0), .val (.int p1), .val (.int (2 : Int32)), .val (.int (1 : Int32)), .val (.ref w_YUP_HAB_3), .val (.ref w_NED_YPR_5), .val (.int (0 : Int32))] [(.int (1 : Int32))])) _
          refine XS.goto X41.here hx rfl (pc0 := 69) (pc' := 73) rfl (hb hby at_69) (by decide) (by decide) ?_
          exact kt)
      obtain ⟨fs, hr, hrun, hended, hW, hsame⟩ := X41.leave (v := some (.int (1 : Int32))) (fun h => by rw [Bd.returns] at h; cases h)
      refine ⟨_, _, pre44 _ ?_, hrun, hended, _, _, rfl, ?_, ⟨_, rfl⟩, hW, hsame.mono (by decide) (by decide)⟩
      · show Steps p.tables e below (T41.setTop (mkF m 73 #[.val (.int p0), .val (.int p1), .val (.int (2 : Int32)), .val (.int (1 : Int32)), .val (.ref w_YUP_HAB_3), .val (.ref w_NED_YPR_5), .val (.int (0 : Int32))] [(.int (1 : Int32))])) _
        exact retN X41 hx (t := .boolean) Bd.returns (by simp) (hb hby at_73) hr
      · show Q0 Z _ _ _ _ _ _ _ h0 n0 _ T41.heap _
        rw [e41]
        exact ⟨rfl, N41, rfl⟩
    · skip
      obtain ⟨cq45, kq45, q45a, q45b, q45c⟩ := isOf hZ e34 E_3
      obtain ⟨_, _, ⟨T45, L45, k45, n45⟩, -, X45, ⟨Lc45, hQ45, l45, y45, z45⟩, st45⟩ := X34.virtualBack hx (y := (⟨"com/example/rotarium/rotarium/AttitudeConvention", "sharesFramesWith", "(Lcom/example/rotarium/rotarium/AttitudeConvention;)Z"⟩ : MethodName)) (z := (⟨"com/example/rotarium/rotarium/AttitudeConvention", "sharesFramesWith", "(Lcom/example/rotarium/rotarium/AttitudeConvention;)Z"⟩ : MethodName)) hown (mvT hZ (hw _ (List.mem_of_getElem? (i := 8) rfl))) (mvT hZ (hw _ (List.mem_of_getElem? (i := 9) rfl))) (notFace_of_selects (args := #[]) (mvT hZ (hw _ (List.mem_of_getElem? (i := 11) rfl)))) (mvT hZ (hw _ (List.mem_of_getElem? (i := 11) rfl))) (mvT hZ (hw _ (List.mem_of_getElem? (i := 10) rfl))) (by decide) (backOf (W := 0) (rm2 l Z aw hw [] w_YUP_HAB_3 w_YUP_HAB_3 .null .null h0 n0 Z0 rfl F_northEastDownAxes_8 rfl F_northEastDownAxes_8) hZ (hw _ (List.mem_of_getElem? (i := 12) rfl)) (hw _ (List.mem_of_getElem? (i := 6) rfl)) (by decide) (by decide)) q45a q45c (g := (mkF m 60 #[.val (.int p0), .val (.int p1), .val (.int (2 : Int32)), .val (.int (2 : Int32)), .val (.ref w_YUP_HAB_3), .val (.ref w_YUP_HAB_3), .val (.int (1 : Int32))] [(.ref w_YUP_HAB_3), (.ref w_YUP_HAB_3)])) rfl (by rw [hml]; rfl) (Steps.refl _) (argsL := [(.ref w_YUP_HAB_3)]) (rest := []) (lenOf pd_1 rfl) rfl (by show 2 * 0 + _ ≤ _; exact Nat.le_of_eq rfl) (hb hby at_60) (fun _ _ => ⟨rfl, e34, (by decide : 0 + 0 ≤ _), (by decide : 0 + 0 ≤ _)⟩)
      dsimp only [Pt.U, Pt.locs, Pt.cells, Pt.slots] at X45 l45 y45 z45 st45 hQ45
      subst l45 y45 z45
      obtain ⟨⟨r46, rfl, Pr46⟩, Nq45, e45⟩ := hQ45
      have N45 := Fr.app N34 Nq45
      have pre47 : ∀ t, Steps p.tables e below (T45.setTop (mkF m 63 #[.val (.int p0), .val (.int p1), .val (.int (2 : Int32)), .val (.int (2 : Int32)), .val (.ref w_YUP_HAB_3), .val (.ref w_YUP_HAB_3), .val (.int (1 : Int32))] [(.int r46)])) t → Steps p.tables e below (s₁.setTop (entryFrame m #[(.int p0), (.int p1)] maxLocals)) t := fun t kt => pre36 t (by
          show Steps p.tables e below (T34.setTop (mkF m 24 #[.val (.int p0), .val (.int p1), .val (.int (2 : Int32)), .val (.int (2 : Int32)), .val (.ref w_YUP_HAB_3), .unset, .unset] [(.ref w_YUP_HAB_3)])) _
          refine XS.astore X34.here hx rfl (hb hby at_24) rfl rfl (l' := #[.val (.int p0), .val (.int p1), .val (.int (2 : Int32)), .val (.int (2 : Int32)), .val (.ref w_YUP_HAB_3), .val (.ref w_YUP_HAB_3), .unset]) rfl ?_
          show Steps p.tables e below (T34.setTop (mkF m 26 #[.val (.int p0), .val (.int p1), .val (.int (2 : Int32)), .val (.int (2 : Int32)), .val (.ref w_YUP_HAB_3), .val (.ref w_YUP_HAB_3), .unset] [])) _
          refine XS.iloadN X34.here hx rfl (hb hby at_26) rfl ?_
          show Steps p.tables e below (T34.setTop (mkF m 27 #[.val (.int p0), .val (.int p1), .val (.int (2 : Int32)), .val (.int (2 : Int32)), .val (.ref w_YUP_HAB_3), .val (.ref w_YUP_HAB_3), .unset] [(.int (2 : Int32))])) _
          refine XS.iloadN X34.here hx rfl (hb hby at_27) rfl ?_
          show Steps p.tables e below (T34.setTop (mkF m 28 #[.val (.int p0), .val (.int p1), .val (.int (2 : Int32)), .val (.int (2 : Int32)), .val (.ref w_YUP_HAB_3), .val (.ref w_YUP_HAB_3), .unset] [(.int (2 : Int32)), (.int (2 : Int32))])) _
          refine XS.icmpNo X34.here hx rfl (hb hby at_28) rfl (teq (rfl : (2 : Int32) = (2 : Int32))).2 ?_
          show Steps p.tables e below (T34.setTop (mkF m 31 #[.val (.int p0), .val (.int p1), .val (.int (2 : Int32)), .val (.int (2 : Int32)), .val (.ref w_YUP_HAB_3), .val (.ref w_YUP_HAB_3), .unset] [])) _
          refine XS.iconst X34.here hx rfl (hb hby at_31) ?_
          show Steps p.tables e below (T34.setTop (mkF m 32 #[.val (.int p0), .val (.int p1), .val (.int (2 : Int32)), .val (.int (2 : Int32)), .val (.ref w_YUP_HAB_3), .val (.ref w_YUP_HAB_3), .unset] [(.int (1 : Int32))])) _
          refine XS.istore X34.here hx rfl (hb hby at_32) rfl (l' := #[.val (.int p0), .val (.int p1), .val (.int (2 : Int32)), .val (.int (2 : Int32)), .val (.ref w_YUP_HAB_3), .val (.ref w_YUP_HAB_3), .val (.int (1 : Int32))]) rfl ?_
          show Steps p.tables e below (T34.setTop (mkF m 34 #[.val (.int p0), .val (.int p1), .val (.int (2 : Int32)), .val (.int (2 : Int32)), .val (.ref w_YUP_HAB_3), .val (.ref w_YUP_HAB_3), .val (.int (1 : Int32))] [])) _
          refine XS.goto X34.here hx rfl (pc0 := 34) (pc' := 56) rfl (hb hby at_34) (by decide) (by decide) ?_
          show Steps p.tables e below (T34.setTop (mkF m 56 #[.val (.int p0), .val (.int p1), .val (.int (2 : Int32)), .val (.int (2 : Int32)), .val (.ref w_YUP_HAB_3), .val (.ref w_YUP_HAB_3), .val (.int (1 : Int32))] [])) _
          refine XS.aload X34.here hx rfl (hb hby at_56) rfl rfl ?_
          show Steps p.tables e below (T34.setTop (mkF m 58 #[.val (.int p0), .val (.int p1), .val (.int (2 : Int32)), .val (.int (2 : Int32)), .val (.ref w_YUP_HAB_3), .val (.ref w_YUP_HAB_3), .val (.int (1 : Int32))] [(.ref w_YUP_HAB_3)])) _
          refine XS.aload X34.here hx rfl (hb hby at_58) rfl rfl ?_
          show Steps p.tables e below (T34.setTop (mkF m 60 #[.val (.int p0), .val (.int p1), .val (.int (2 : Int32)), .val (.int (2 : Int32)), .val (.ref w_YUP_HAB_3), .val (.ref w_YUP_HAB_3), .val (.int (1 : Int32))] [(.ref w_YUP_HAB_3), (.ref w_YUP_HAB_3)])) _
          refine st45.trans ?_
          exact kt)
      obtain rfl : (1 : Int32) = r46 := Pr46.1 rfl
      have pre48 : ∀ t, Steps p.tables e below (T45.setTop (mkF m 73 #[.val (.int p0), .val (.int p1), .val (.int (2 : Int32)), .val (.int (2 : Int32)), .val (.ref w_YUP_HAB_3), .val (.ref w_YUP_HAB_3), .val (.int (1 : Int32))] [(.int (1 : Int32))])) t → Steps p.tables e below (s₁.setTop (entryFrame m #[(.int p0), (.int p1)] maxLocals)) t := fun t kt => pre47 t (by
          show Steps p.tables e below (T45.setTop (mkF m 63 #[.val (.int p0), .val (.int p1), .val (.int (2 : Int32)), .val (.int (2 : Int32)), .val (.ref w_YUP_HAB_3), .val (.ref w_YUP_HAB_3), .val (.int (1 : Int32))] [(.int (1 : Int32))])) _
          refine XS.iload X45.here hx rfl (hb hby at_63) rfl ?_
          show Steps p.tables e below (T45.setTop (mkF m 65 #[.val (.int p0), .val (.int p1), .val (.int (2 : Int32)), .val (.int (2 : Int32)), .val (.ref w_YUP_HAB_3), .val (.ref w_YUP_HAB_3), .val (.int (1 : Int32))] [(.int (1 : Int32)), (.int (1 : Int32))])) _
          refine XS.icmpNo X45.here hx rfl (hb hby at_65) rfl (teq (rfl : (1 : Int32) = (1 : Int32))).2 ?_
          show Steps p.tables e below (T45.setTop (mkF m 68 #[.val (.int p0), .val (.int p1), .val (.int (2 : Int32)), .val (.int (2 : Int32)), .val (.ref w_YUP_HAB_3), .val (.ref w_YUP_HAB_3), .val (.int (1 : Int32))] [])) _
          refine XS.iconst X45.here hx rfl (hb hby at_68) ?_
          show Steps p.tables e below (T45.setTop (mkF m 69 #[.val (.int p0), .val (.int p1), .val (.int (2 : Int32)), .val (.int (2 : Int32)), .val (.ref w_YUP_HAB_3), .val (.ref w_YUP_HAB_3), .val (.int (1 : Int32))] [(.int (1 : Int32))])) _
          refine XS.goto X45.here hx rfl (pc0 := 69) (pc' := 73) rfl (hb hby at_69) (by decide) (by decide) ?_
          exact kt)
      obtain ⟨fs, hr, hrun, hended, hW, hsame⟩ := X45.leave (v := some (.int (1 : Int32))) (fun h => by rw [Bd.returns] at h; cases h)
      refine ⟨_, _, pre48 _ ?_, hrun, hended, _, _, rfl, ?_, ⟨_, rfl⟩, hW, hsame.mono (by decide) (by decide)⟩
      · show Steps p.tables e below (T45.setTop (mkF m 73 #[.val (.int p0), .val (.int p1), .val (.int (2 : Int32)), .val (.int (2 : Int32)), .val (.ref w_YUP_HAB_3), .val (.ref w_YUP_HAB_3), .val (.int (1 : Int32))] [(.int (1 : Int32))])) _
        exact retN X45 hx (t := .boolean) Bd.returns (by simp) (hb hby at_73) hr
      · show Q0 Z _ _ _ _ _ _ _ h0 n0 _ T45.heap _
        rw [e45]
        exact ⟨rfl, N45, rfl⟩
set_option maxRecDepth 65536 in
set_option maxHeartbeats 40000000 in
theorem comes_1 {Post : Tables → Env → Array Value → State → Outcome → State → Prop} (hpost : ∀ tb e args s v u, (limb_1_1.after args s (.returned v) u = true ∧ limb_1_2.after args s (.returned v) u = true ∧ True) → FrameEnd s (.returned v) u (Jvm.fieldLocs frame_1_writes args s ++ Jvm.arrayLocs frame_1_arrays args s ++ Jvm.staticLocs frame_1_statics s) 0 0 → Post tb e args s (.returned v) u) :
    ArmFor flags0 classFile x code maxLocals ret World_1 tables_1 room_1 Calls_1 rest_1 Pre_1 Post := by
  intro l hfl _ _ p e ha hc hk s m args below hf hA hF happ hP
  obtain ⟨hcalls, hrest, hpre⟩ := hP
  obtain ⟨-, -, -, hnamed, -, -, -, hat⟩ := (Spec.applies_iff hf).mp happ
  obtain ⟨hg, hn⟩ := and_e (Cond.before_iff.mp (show (Jvm.Cond.and given_1 narrow_1).before args s = true from hpre))
  obtain ⟨hg0, hgr0⟩ := and_e hg
  obtain ⟨hg1, hgr1⟩ := and_e hgr0
  obtain ⟨w0, w1, rfl⟩ : ∃ w0 w1 : Value, args = #[w0, w1] := by
    have hs : args.size = 2 := by simpa [Cond.value, given_1] using hg0
    obtain ⟨L⟩ := args
    match L, hs with
    | [w0, w1], _ => exact ⟨w0, w1, rfl⟩
  have hw := fun d (hd : d ∈ tables_1) => atoms_spec (ws := Jvm.Cond.code x code maxLocals ret :: tables_1) hat d (List.mem_cons_of_mem _ hd)
  have hfit : Fit s := fun {y c} hc i hi => by
    obtain ⟨ha, rfl⟩ := Array.getElem?_eq_some_iff.mp hc
    have q := List.all_eq_true.mp ((Array.all_eq_true_iff_forall_mem.mp hF) _ (Array.getElem_mem ha)) i (List.mem_range.mpr hi)
    simpa [Array.getElem?_eq_getElem hi] using q
  obtain ⟨i0, ei0⟩ := is_v hg1
  obtain rfl : w0 = (.int i0) := Option.some.inj ei0
  obtain ⟨i1, ei1⟩ := is_v hgr1
  obtain rfl : w1 = (.int i1) := Option.some.inj ei1
  obtain ⟨hn0, hr0⟩ := and_e hn
  obtain ⟨hn1, hr1⟩ := and_e hr0
  obtain ⟨hn2, hr2⟩ := and_e hr1
  obtain ⟨hn3, hr3⟩ := and_e hr2
  obtain ⟨hn4, hr4⟩ := and_e hr3
  obtain ⟨hn5, hr5⟩ := and_e hr4
  obtain ⟨hn6, hr6⟩ := and_e hr5
  obtain ⟨hn7, hr7⟩ := and_e hr6
  obtain ⟨hn8, hr8⟩ := and_e hr7
  obtain ⟨hn9, hr9⟩ := and_e hr8
  obtain ⟨w_INS_ENU_1, ev2⟩ := exa_v hn0
  have S_INS_ENU_0 : Sta s s.heap "com/example/rotarium/rotarium/AttitudeConvention" "INS_ENU" "Lcom/example/rotarium/rotarium/AttitudeConvention;" (.ref w_INS_ENU_1) := Sta.start ev2 (Or.inr ⟨(hw _ (List.mem_of_getElem? (i := 6) rfl)), (hw _ (List.mem_of_getElem? (i := 7) rfl))⟩)
  have E_1 : Exa s s.heap w_INS_ENU_1 "com/example/rotarium/rotarium/AttitudeConvention" := Exa.start ev2 hn0
  obtain ⟨w_YUP_HAB_3, ev4⟩ := exa_v hn1
  have S_YUP_HAB_2 : Sta s s.heap "com/example/rotarium/rotarium/AttitudeConvention" "YUP_HAB" "Lcom/example/rotarium/rotarium/AttitudeConvention;" (.ref w_YUP_HAB_3) := Sta.start ev4 (Or.inr ⟨(hw _ (List.mem_of_getElem? (i := 6) rfl)), (hw _ (List.mem_of_getElem? (i := 14) rfl))⟩)
  have E_3 : Exa s s.heap w_YUP_HAB_3 "com/example/rotarium/rotarium/AttitudeConvention" := Exa.start ev4 hn1
  obtain ⟨w_NED_YPR_5, ev6⟩ := exa_v hn2
  have S_NED_YPR_4 : Sta s s.heap "com/example/rotarium/rotarium/AttitudeConvention" "NED_YPR" "Lcom/example/rotarium/rotarium/AttitudeConvention;" (.ref w_NED_YPR_5) := Sta.start ev6 (Or.inr ⟨(hw _ (List.mem_of_getElem? (i := 6) rfl)), (hw _ (List.mem_of_getElem? (i := 16) rfl))⟩)
  have E_5 : Exa s s.heap w_NED_YPR_5 "com/example/rotarium/rotarium/AttitudeConvention" := Exa.start ev6 hn2
  have F_ordinal_6 : Fld s s.heap w_NED_YPR_5 "java/lang/Enum" "ordinal" "I" (.int (1 : Int32)) := Fld.start ((fld_at ev6).symm.trans (own_eqI hn3))
  have F_ordinal_7 : Fld s s.heap w_YUP_HAB_3 "java/lang/Enum" "ordinal" "I" (.int (2 : Int32)) := Fld.start ((fld_at ev4).symm.trans (own_eqI hn4))
  have F_northEastDownAxes_8 : Fld s s.heap w_YUP_HAB_3 "com/example/rotarium/rotarium/AttitudeConvention" "northEastDownAxes" "[I" .null := Fld.start ((fld_at ev4).symm.trans (null_v hn5))
  have F_ordinal_9 : Fld s s.heap w_INS_ENU_1 "java/lang/Enum" "ordinal" "I" (.int (0 : Int32)) := Fld.start ((fld_at ev2).symm.trans (own_eqI hn6))
  obtain ⟨u_northEastDownAxes_7, ev8⟩ := arr_v hn7
  have F_northEastDownAxes_10 : Fld s s.heap w_INS_ENU_1 "com/example/rotarium/rotarium/AttitudeConvention" "northEastDownAxes" "[I" (.ref u_northEastDownAxes_7) := Fld.start ((fld_at ev2).symm.trans ev8)
  obtain ⟨u_northEastDownAxes_9, ev10⟩ := arr_v hn9
  have F_northEastDownAxes_11 : Fld s s.heap w_NED_YPR_5 "com/example/rotarium/rotarium/AttitudeConvention" "northEastDownAxes" "[I" (.ref u_northEastDownAxes_9) := Fld.start ((fld_at ev6).symm.trans ev10)
  obtain ⟨n, o, h1, h2, h3, _, L, rfl, ⟨rfl, N, -⟩, hq⟩ := rm0 l s _ hw tables_1 i0 i1 w_INS_ENU_1 w_YUP_HAB_3 w_NED_YPR_5 u_northEastDownAxes_7 u_northEastDownAxes_9 s.heap s.heap.size (Nat.le_refl _) S_INS_ENU_0 E_1 S_YUP_HAB_2 E_3 S_NED_YPR_4 E_5 F_ordinal_6 F_ordinal_7 F_northEastDownAxes_8 F_ordinal_9 F_northEastDownAxes_10 F_northEastDownAxes_11 p e ha hc hk s m _ below hf ((Spec.applies_iff_loose hf).mp happ).1 ⟨rfl, State.Warmed39.refl s, rfl⟩ trivial
  refine ⟨n, _, h1, h2, h3, hpost _ _ _ _ _ _ ⟨Cond.after_iff.mpr rfl, Cond.after_iff.mpr (eq_i res_at (Term.int_eval (1)) rfl), trivial⟩ ⟨hq.1, hq.2.1, (hq.2.2.sift fun y hy => Or.inr (N y hy)).mono (by decide) (by decide)⟩⟩
theorem main_1_1 : Claimed_1_1 := comes_1 fun _ _ _ _ _ _ h hF => ⟨h.1, hF⟩
theorem main_1_2 : Claimed_1_2 := comes_1 fun _ _ _ _ _ _ h hF => ⟨h.2.1, hF⟩
end Jvm.Pilot.@@N@@
namespace Jvm.Pilot.@@N@@
open Jvm Jvm.ClassFile Sem Op Lib Jvm.Free Jvm.Stand Jvm.Pilot.@@N@@.Jvm.D
/-! MADE BY PROGRAM (witnessworld.py) out of the Statement's table words and the real class files: 12 classes; the members and pool entries that the words name. The judged class is class 1, her method 2. -/
namespace start1
open Jvm.ClassFile
def u (s : String) : CpInfo := .utf8 (stringToUtf16 s)
/-- a pool by its gaps: so many unusable entries, then the entry; so many at the end -/
def gap : Nat → List CpInfo → List CpInfo
  | 0, r => r
  | n + 1, r => .unusable :: gap n r
def poolList (es : List (Nat × CpInfo)) (last : Nat) : List CpInfo := es.foldr (fun e r => gap e.1 (e.2 :: r)) (gap last [])
def pool (es : List (Nat × CpInfo)) (last : Nat) : Array CpInfo := ⟨poolList es last⟩
def fileOf (pool : Array CpInfo) (this : Nat) (attrs : Array Attribute := #[]) (ms : Array MethodInfo := #[]) (fl : Nat := 33) (sup : Nat := 0) (ifs : Array Nat := #[]) (fds : Array FieldInfo := #[]) : ClassFile where
  minorVersion := 0
  majorVersion := 65
  constantPool := pool
  accessFlags := fl
  thisClass := this
  superClass := sup
  interfaces := ifs
  fields := fds
  methods := ms
  attributes := attrs
def plain (name : String) (sup : Option ClassId) : Class where
  name := name
  kind := .ordinary
  loader := none
  accessFlags := 33
  super := sup
  interfaces := #[]
  cf := none
  fields := #[]
  methods := #[]
  instanceTypes := #[]
  staticTypes := #[]
  resolved := #[]
  callSites := []
  init := .initialized
  statics := none
  mirror := none

def pool0 : Array CpInfo := pool [(5, u "<init>"), (0, u "()V"), (1, .class_ 10), (1, u "java/lang/Object")] 113

def k0m0 : Method := { name := "<init>", desc := "()V", sig := { parameters := [], returnType := none }, accessFlags := 1, code := none }
/-- java/lang/Object -/
def k0 : Class := { plain "java/lang/Object" none with
  accessFlags := 33
  interfaces := #[]
  cf := some (fileOf pool0 8 #[] #[{ accessFlags := 1, nameIndex := 5, descriptorIndex := 6, attributes := #[] }] 33 0 #[] #[])
  fields := #[]
  methods := #[k0m0]
  instanceTypes := #[]
  staticTypes := #[]
  resolved := Array.replicate 124 none
  statics := none }

def pool1 : Array CpInfo := pool [(2, .class_ 4), (1, u "java/lang/Object"), (0, u "<init>"), (0, u "()V"), (0, .fieldref 8 9), (0, .class_ 10), (0, .nameAndType 11 12), (0, u "com/example/rotarium/rotarium/AttitudeConvention"), (0, u "INS_ENU"), (0, u "Lcom/example/rotarium/rotarium/AttitudeConvention;"), (0, .fieldref 8 14), (0, .nameAndType 15 12), (0, u "NED_YPR"), (0, .fieldref 8 17), (0, .nameAndType 18 12), (0, u "YUP_HAB"), (0, .integer 2147483647), (0, .methodref 21 22), (0, .class_ 23), (0, .nameAndType 24 25), (0, u "com/example/rotarium/rotarium/AttitudeConventionSharesFramesWithPinLaw"), (0, u "pick"), (0, u "(I)Lcom/example/rotarium/rotarium/AttitudeConvention;"), (0, .methodref 8 27), (0, .nameAndType 28 29), (0, u "sharesFramesWith"), (0, u "(Lcom/example/rotarium/rotarium/AttitudeConvention;)Z"), (3, u "law"), (0, u "(II)Z")] 2

def k1m0 : Method := { name := "<init>", desc := "()V", sig := { parameters := [], returnType := none }, accessFlags := 2, code := none }
def k1c1 : Code := { maxStack := 2, maxLocals := 1, code := method_2_code, exceptionTable := #[], attributes := #[] }
def k1m1 : Method := { name := "pick", desc := "(I)Lcom/example/rotarium/rotarium/AttitudeConvention;", sig := { parameters := [.int], returnType := some (.object "com/example/rotarium/rotarium/AttitudeConvention") }, accessFlags := 10, code := some k1c1 }
def k1c2 : Code := { maxStack := 2, maxLocals := 7, code := code, exceptionTable := #[], attributes := #[] }
def k1m2 : Method := { name := "law", desc := "(II)Z", sig := { parameters := [.int, .int], returnType := some .boolean }, accessFlags := 9, code := some k1c2 }
/-- com/example/rotarium/rotarium/AttitudeConventionSharesFramesWithPinLaw -/
def k1 : Class := { plain "com/example/rotarium/rotarium/AttitudeConventionSharesFramesWithPinLaw" (some 0) with
  accessFlags := 49
  interfaces := #[]
  cf := some (fileOf pool1 21 #[] #[{ accessFlags := 2, nameIndex := 5, descriptorIndex := 6, attributes := #[] }, { accessFlags := 10, nameIndex := 24, descriptorIndex := 25, attributes := #[] }, { accessFlags := 9, nameIndex := 33, descriptorIndex := 34, attributes := #[] }] 49 2 #[] #[])
  fields := #[]
  methods := #[k1m0, k1m1, k1m2]
  instanceTypes := #[]
  staticTypes := #[]
  resolved := Array.replicate 37 none
  statics := none }

def pool2 : Array CpInfo := pool [(1, .class_ 2), (0, u "java/lang/constant/Constable"), (0, .class_ 4), (0, u "java/lang/Object")] 6

/-- java/lang/constant/Constable -/
def k2 : Class := { plain "java/lang/constant/Constable" (some 0) with
  accessFlags := 1537
  interfaces := #[]
  cf := some (fileOf pool2 1 #[] #[] 1537 3 #[] #[])
  fields := #[]
  methods := #[]
  instanceTypes := #[]
  staticTypes := #[]
  resolved := Array.replicate 11 none
  statics := none }

def pool3 : Array CpInfo := pool [(1, .class_ 2), (0, u "java/lang/Comparable"), (0, .class_ 4), (0, u "java/lang/Object")] 7

/-- java/lang/Comparable -/
def k3 : Class := { plain "java/lang/Comparable" (some 0) with
  accessFlags := 1537
  interfaces := #[]
  cf := some (fileOf pool3 1 #[] #[] 1537 3 #[] #[])
  fields := #[]
  methods := #[]
  instanceTypes := #[]
  staticTypes := #[]
  resolved := Array.replicate 12 none
  statics := none }

def pool4 : Array CpInfo := pool [(1, .class_ 2), (0, u "java/io/Serializable"), (0, .class_ 4), (0, u "java/lang/Object")] 2

/-- java/io/Serializable -/
def k4 : Class := { plain "java/io/Serializable" (some 0) with
  accessFlags := 1537
  interfaces := #[]
  cf := some (fileOf pool4 1 #[] #[] 1537 3 #[] #[])
  fields := #[]
  methods := #[]
  instanceTypes := #[]
  staticTypes := #[]
  resolved := Array.replicate 7 none
  statics := none }

def pool5 : Array CpInfo := pool [(2, .class_ 4), (1, u "java/lang/Enum"), (0, u "name"), (0, u "Ljava/lang/String;"), (2, u "ordinal"), (0, u "I"), (1, .class_ 14), (1, u "java/lang/Object"), (4, u "hash"), (86, .class_ 108), (1, u "java/lang/Enum$EnumDesc"), (2, .class_ 112), (0, u "java/lang/constant/Constable"), (0, .class_ 114), (0, u "java/lang/Comparable"), (0, .class_ 116), (0, u "java/io/Serializable")] 87

/-- java/lang/Enum -/
def k5 : Class := { plain "java/lang/Enum" (some 0) with
  accessFlags := 1057
  interfaces := #[2, 3, 4]
  cf := some (fileOf pool5 2 #[.nestMembers #[106]] #[] 1057 12 #[111, 113, 115] #[{ accessFlags := 18, nameIndex := 5, descriptorIndex := 6, attributes := #[] }, { accessFlags := 18, nameIndex := 9, descriptorIndex := 10, attributes := #[] }, { accessFlags := 2, nameIndex := 19, descriptorIndex := 10, attributes := #[] }])
  fields := #[{ name := "name", type := (.object "java/lang/String"), accessFlags := 18, slot := 0, constantValue := 0 }, { name := "ordinal", type := .int, accessFlags := 18, slot := 1, constantValue := 0 }, { name := "hash", type := .int, accessFlags := 2, slot := 2, constantValue := 0 }]
  methods := #[]
  instanceTypes := #[(.object "java/lang/String"), .int, .int]
  staticTypes := #[]
  resolved := Array.replicate 204 none
  statics := none }

def pool6 : Array CpInfo := pool [(1, .class_ 2), (0, u "com/example/rotarium/rotarium/AttitudeConvention"), (2, u "INS_ENU"), (0, u "Lcom/example/rotarium/rotarium/AttitudeConvention;"), (2, u "NED_YPR"), (2, u "YUP_HAB"), (2, u "$VALUES"), (0, u "[Lcom/example/rotarium/rotarium/AttitudeConvention;"), (6, .class_ 25), (1, u "java/lang/Enum"), (8, u "sequence"), (0, u "Lcom/example/rotarium/rotarium/EulerSequence;"), (2, u "firstAngleSign"), (0, u "D"), (2, u "firstAngleIsCompassHeading"), (0, u "Z"), (0, .fieldref 1 45), (0, .nameAndType 46 47), (0, u "northEastDownAxes"), (0, u "[I"), (38, u "sharesFramesWith"), (0, u "(Lcom/example/rotarium/rotarium/AttitudeConvention;)Z")] 99

def k6c0 : Code := { maxStack := 2, maxLocals := 2, code := prog_2_method_8_code, exceptionTable := #[], attributes := #[] }
def k6m0 : Method := { name := "sharesFramesWith", desc := "(Lcom/example/rotarium/rotarium/AttitudeConvention;)Z", sig := { parameters := [(.object "com/example/rotarium/rotarium/AttitudeConvention")], returnType := some .boolean }, accessFlags := 1, code := some k6c0 }
/-- com/example/rotarium/rotarium/AttitudeConvention -/
def k6 : Class := { plain "com/example/rotarium/rotarium/AttitudeConvention" (some 5) with
  accessFlags := 16433
  interfaces := #[]
  cf := some (fileOf pool6 1 #[] #[{ accessFlags := 1, nameIndex := 86, descriptorIndex := 87, attributes := #[] }] 16433 23 #[] #[{ accessFlags := 16409, nameIndex := 5, descriptorIndex := 6, attributes := #[] }, { accessFlags := 16409, nameIndex := 9, descriptorIndex := 6, attributes := #[] }, { accessFlags := 16409, nameIndex := 12, descriptorIndex := 6, attributes := #[] }, { accessFlags := 18, nameIndex := 34, descriptorIndex := 35, attributes := #[] }, { accessFlags := 18, nameIndex := 38, descriptorIndex := 39, attributes := #[] }, { accessFlags := 18, nameIndex := 42, descriptorIndex := 43, attributes := #[] }, { accessFlags := 18, nameIndex := 46, descriptorIndex := 47, attributes := #[] }, { accessFlags := 4122, nameIndex := 15, descriptorIndex := 16, attributes := #[] }])
  fields := #[{ name := "INS_ENU", type := (.object "com/example/rotarium/rotarium/AttitudeConvention"), accessFlags := 16409, slot := 0, constantValue := 0 }, { name := "NED_YPR", type := (.object "com/example/rotarium/rotarium/AttitudeConvention"), accessFlags := 16409, slot := 1, constantValue := 0 }, { name := "YUP_HAB", type := (.object "com/example/rotarium/rotarium/AttitudeConvention"), accessFlags := 16409, slot := 2, constantValue := 0 }, { name := "sequence", type := (.object "com/example/rotarium/rotarium/EulerSequence"), accessFlags := 18, slot := 3, constantValue := 0 }, { name := "firstAngleSign", type := .double, accessFlags := 18, slot := 4, constantValue := 0 }, { name := "firstAngleIsCompassHeading", type := .boolean, accessFlags := 18, slot := 5, constantValue := 0 }, { name := "northEastDownAxes", type := (.array .int), accessFlags := 18, slot := 6, constantValue := 0 }, { name := "$VALUES", type := (.array (.object "com/example/rotarium/rotarium/AttitudeConvention")), accessFlags := 4122, slot := 3, constantValue := 0 }]
  methods := #[k6m0]
  instanceTypes := #[(.object "java/lang/String"), .int, .int, (.object "com/example/rotarium/rotarium/EulerSequence"), .double, .boolean, (.array .int)]
  staticTypes := #[(.object "com/example/rotarium/rotarium/AttitudeConvention"), (.object "com/example/rotarium/rotarium/AttitudeConvention"), (.object "com/example/rotarium/rotarium/AttitudeConvention"), (.array (.object "com/example/rotarium/rotarium/AttitudeConvention"))]
  resolved := Array.replicate 187 none
  statics := some 0 }

def pool7 : Array CpInfo := pool [(1, u "java/lang/Cloneable"), (0, .class_ 1), (0, u "java/lang/Object"), (0, .class_ 3)] 3

/-- java/lang/Cloneable -/
def k7 : Class := { plain "java/lang/Cloneable" (some 0) with
  accessFlags := 1537
  interfaces := #[]
  cf := some (fileOf pool7 2 #[] #[] 1537 4 #[] #[])
  fields := #[]
  methods := #[]
  instanceTypes := #[]
  staticTypes := #[]
  resolved := Array.replicate 8 none
  statics := none }

/-- the primitive byte -/
def k8 : Class := { plain "byte" none with kind := .primitive 'B', accessFlags := 0x411 }
/-- [B -/
def k9 : Class := { plain "[B" (some 0) with kind := .array 8 .byte, interfaces := #[7, 4], accessFlags := 1041 }

/-- the primitive int -/
def k10 : Class := { plain "int" none with kind := .primitive 'I', accessFlags := 0x411 }
/-- [I -/
def k11 : Class := { plain "[I" (some 0) with kind := .array 10 .int, interfaces := #[7, 4], accessFlags := 1041 }

def heap : Heap := #[{ cls := 6, slots := #[.ref 2, .ref 5, .ref 3, .null], vm := .statics 6 },
  { cls := 11, slots := #[.int 0, .int 0, .int 0], vm := .none },
  { cls := 6, slots := #[.null, .int 0, .int 0, .null, .double 0, .int 0, .ref 1], vm := .none },
  { cls := 6, slots := #[.null, .int 2, .int 0, .null, .double 0, .int 0, .null], vm := .none },
  { cls := 11, slots := #[.int 0, .int 0, .int 0], vm := .none },
  { cls := 6, slots := #[.null, .int 1, .int 0, .null, .double 0, .int 0, .ref 4], vm := .none }]
def classes : Array Class := #[k0, k1, k2, k3, k4, k5, k6, k7, k8, k9, k10, k11]
def interned : List (Array UInt16 × Addr) := []
def slotsUsed : Nat := 31
def theMethod : MethodId := ⟨1, 2⟩
def args0 : Array Value := #[.int 5, .int 4]
def aboutOver (below : List Frame) : State where
  vm := { classes := classes, interned := interned.toArray }
  heap := heap
  slotsUsed := slotsUsed
  threads := #[{ frames := .invoking theMethod args0 :: below }]
def below0 : List Frame := [.native { method := ⟨0, 0⟩, args := #[] }]
def about1 : State := aboutOver below0
def p0 : Program := .bare "" "" ""
def e0 : Env := launch0.env 0 0 0
theorem w_frames : about1.frames = Frame.invoking theMethod args0 :: below0 := rfl
set_option maxRecDepth 65536 in
theorem w_args : argsFit about1.vm theMethod args0 = true := by decide +kernel
set_option maxRecDepth 65536 in
theorem w_heap : heapFits about1 = true := by decide +kernel
set_option maxRecDepth 65536 in
theorem w_runnable : about1.curStatus? = some .runnable := by decide +kernel
set_option maxRecDepth 65536 in
theorem w_alone : about1.alone = true := by decide +kernel
set_option maxRecDepth 65536 in
theorem w_named : about1.methodNamed? x = some theMethod := by decide +kernel
set_option maxRecDepth 65536 in
theorem w_hears : about1.hears theMethod below0 = true := by decide +kernel
set_option maxRecDepth 65536 in
theorem w_ripe : about1.ripe theMethod args0 below0 = true := by decide +kernel
theorem w_running : about1.status = .running := rfl
set_option maxRecDepth 65536 in
theorem w_room : about1.hasRoom e0.platform room_1 = true :=
  launch0.hasRoom_least _ room_1 (by decide +kernel) (by decide +kernel) (by decide +kernel) (by decide +kernel) (by decide +kernel) (by decide +kernel)
theorem allAtoms_all (ts : List Jvm.Cond) (a : Array Jvm.Value) (st : Jvm.State) : (allAtoms ts).before a st = ts.all (fun c => c.before a st) := by
  induction ts with
  | nil => rfl
  | cons c t ih =>
    show (Jvm.Cond.and c (allAtoms t)).before a st = _
    rw [Jvm.Cond.before_and, ih, List.all_cons]
def words1 : List Jvm.Cond := Jvm.Cond.code x code maxLocals ret :: tables_1
/-- a 'code' word, met by the world's own term for the bytes: nothing is compared byte by byte -/
theorem code_word {y : MethodName} {bytes : ByteArray} {mx : Nat} {rt : Option FieldType} {a : Array Value} {s : State} {m : MethodId} {meth : Method} {c : Code} (h1 : s.methodNamed? y = some m) (h2 : s.vm.method? m = some meth) (h3 : meth.code = some c) (h4 : c.code = bytes)
    (h5 : (c.maxLocals == mx && c.exceptionTable.isEmpty && decide (c.maxStack ≤ mostOperands) && decide (meth.sig.returnType = rt) && !meth.locks && decide (parseMethodDescriptor y.desc = some meth.sig)) = true) : (Jvm.Cond.code y bytes mx rt).before a s = true := by
  simp only [Bool.and_eq_true, beq_iff_eq, Bool.not_eq_true', decide_eq_true_eq] at h5
  obtain ⟨⟨⟨⟨⟨g1, g2⟩, g3⟩, g4⟩, g5⟩, g6⟩ := h5
  simp [Cond.before, Cond.holds, Cond.value, h1, h2, h3, h4, g1, g2, g3, g4, g5, g6]
def isCode : Jvm.Cond → Bool
  | .code _ _ _ _ => true
  | _ => false
theorem all_split {L : List Jvm.Cond} {P : Jvm.Cond → Bool} (h1 : L.all (fun c => isCode c || P c) = true) (h2 : ∀ c ∈ L.filter isCode, P c = true) : L.all P = true := by
  refine List.all_eq_true.mpr fun c hc => ?_
  have h := List.all_eq_true.mp h1 c hc
  rcases Bool.eq_false_or_eq_true (isCode c) with hi | hi
  · exact h2 c (List.mem_filter.mpr ⟨hc, hi⟩)
  · simpa [hi] using h
set_option maxRecDepth 65536 in
theorem w_c0 : (Jvm.Cond.code x code maxLocals ret).before args0 about1 = true := code_word (m := ⟨1, 2⟩) (meth := k1m2) (c := k1c2) (by decide +kernel) rfl rfl rfl (by decide +kernel)
set_option maxRecDepth 65536 in
theorem w_c1 : (Jvm.Cond.code ({ cls := "com/example/rotarium/rotarium/AttitudeConventionSharesFramesWithPinLaw", name := "pick", desc := "(I)Lcom/example/rotarium/rotarium/AttitudeConvention;" } : Jvm.MethodName) method_2_code (1 : Nat) (Option.some (Jvm.ClassFile.FieldType.object "com/example/rotarium/rotarium/AttitudeConvention"))).before args0 about1 = true := code_word (m := ⟨1, 1⟩) (meth := k1m1) (c := k1c1) (by decide +kernel) rfl rfl rfl (by decide +kernel)
set_option maxRecDepth 65536 in
theorem w_c2 : (Jvm.Cond.code ({ cls := "com/example/rotarium/rotarium/AttitudeConvention", name := "sharesFramesWith", desc := "(Lcom/example/rotarium/rotarium/AttitudeConvention;)Z" } : Jvm.MethodName) prog_2_method_8_code (2 : Nat) (Option.some Jvm.ClassFile.FieldType.boolean)).before args0 about1 = true := code_word (m := ⟨6, 0⟩) (meth := k6m0) (c := k6c0) (by decide +kernel) rfl rfl rfl (by decide +kernel)
def codes1 : List Jvm.Cond := [Jvm.Cond.code x code maxLocals ret, Jvm.Cond.code ({ cls := "com/example/rotarium/rotarium/AttitudeConventionSharesFramesWithPinLaw", name := "pick", desc := "(I)Lcom/example/rotarium/rotarium/AttitudeConvention;" } : Jvm.MethodName) method_2_code (1 : Nat) (Option.some (Jvm.ClassFile.FieldType.object "com/example/rotarium/rotarium/AttitudeConvention")), Jvm.Cond.code ({ cls := "com/example/rotarium/rotarium/AttitudeConvention", name := "sharesFramesWith", desc := "(Lcom/example/rotarium/rotarium/AttitudeConvention;)Z" } : Jvm.MethodName) prog_2_method_8_code (2 : Nat) (Option.some Jvm.ClassFile.FieldType.boolean)]
set_option maxRecDepth 65536 in
theorem codes_eq : words1.filter isCode = codes1 := rfl
theorem w_codes : ∀ c ∈ words1.filter isCode, c.before args0 about1 = true := by
  rw [codes_eq]
  intro c hc
  simp only [codes1, List.mem_cons, List.not_mem_nil, or_false] at hc
  rcases hc with rfl | rfl | rfl
  · exact w_c0
  · exact w_c1
  · exact w_c2
set_option maxRecDepth 65536 in
theorem w_t1 : words1.all (fun c => isCode c || c.before args0 about1) = true := by decide +kernel
theorem w_tables : (allAtoms (Jvm.Cond.code x code maxLocals ret :: tables_1)).before args0 about1 = true := by
  rw [allAtoms_all]
  show words1.all (fun c => c.before args0 about1) = true
  refine all_split ?_ w_codes
  rw [w_t1]
set_option maxRecDepth 65536 in
theorem w_case : (Jvm.Cond.and given_1 narrow_1).before args0 about1 = true := by decide +kernel
theorem w_applies : (headSpec (Jvm.Cond.code x code maxLocals ret :: tables_1) room_1).applies x e0.platform about1 = true :=
  (Spec.applies_iff w_frames).mpr ⟨w_running, w_runnable, w_alone, w_named, w_hears, w_ripe, w_room, w_tables⟩
theorem atStart : AtStart classFile x code maxLocals ret World_1 tables_1 room_1 Calls_1 rest_1 Pre_1 launch0 p0 e0 about1 theMethod args0 below0 :=
  ⟨lists_1, trivial, launch0.admits_env _ _ _, launch0.least_env, fairChoices_fair.cas, fairChoices_fair.clock, w_frames, w_args, w_heap, w_applies, trivial, trivial, w_case⟩
end start1
theorem witness_1 : WitnessClaimed_1 := ⟨start1.p0, start1.e0, start1.about1, start1.theMethod, start1.args0, start1.below0, start1.atStart⟩
end Jvm.Pilot.@@N@@
