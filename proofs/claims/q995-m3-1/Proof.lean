import JvmDerived
import JvmDerived.Pilot.@@N@@Statement
import JvmDerived.Pilot.@@N@@Code
set_option linter.unusedVariables false
set_option linter.unusedSimpArgs false
namespace Jvm.RoadKit
open Sem ClassFile Op Lib Jvm.Stand Jvm.Free Jvm.LawKit
section New
variable {p : Program} {l : Launch} {e : Env} {R : Room} {s : State} {m : MethodId} {args : Array Value} {below : List Frame} {meth : Method} {c : Code} {T : State} {locs : List Loc} {cells slots : Nat}
theorem retI (X : Stand p l e R s m args below meth c T locs cells slots) (hx : p.tables.exec = Jvm.exec) {pc : Nat} {Ls : Array Slot} {z : Int32} {rest : List Value} (hret : meth.sig.returnType = some .int) (hd : decode c.code pc = .ok (.ireturn, 1)) {fs : List Frame}
    (hl : ∀ (f : JFrame) (acts : List Action), f.method = m → f.locked = none → f.entered = [] → (doReturn e (T.setTop f) acts (some (.int z))).1 = T.setFrames fs) : Steps p.tables e below (T.setTop (mkF m pc Ls (.int z :: rest))) (T.setFrames fs) := by
  have hm' : T.vm.method? m = some meth := X.method'
  have hn : narrow .int (.int z) = .int z := rfl
  show Steps p.tables e below (T.setTop { method := m, pc := pc, locals := Ls, stack := _ :: rest, locked := none }) _
  jvm_step X.here [X.here.top, hx, hd, hm', hret, hn]
  first | (intro acts; rw [hl _ acts rfl rfl rfl]) | rw [hl _ _ rfl rfl rfl]
  exact Steps.refl _
end New
end Jvm.RoadKit
namespace Jvm.Pilot.@@N@@
open Jvm Jvm.ClassFile Sem Op Lib Jvm.Free Jvm.Stand Jvm.LawKit Jvm.RoadKit Bundle Jvm.Pilot.@@N@@.Jvm.D
theorem own_eqI {t : Term} {args : Array Value} {first s : State} {o : Option Outcome} {idx : List Nat} {k : Int32} (h : (Jvm.Cond.eq t (.int k)).value args first o s idx = some true) : t.eval args first o idx s = some (.int k) := by
  cases ht : t.eval args first o idx s with
  | none => simp [Cond.value, ht] at h
  | some x => cases x <;> simp [Cond.value, ht, Term.eval] at h ⊢ <;> exact h
theorem own_eqJ {t : Term} {args : Array Value} {first s : State} {o : Option Outcome} {idx : List Nat} {k : Int64} (h : (Jvm.Cond.eq t (.long k)).value args first o s idx = some true) : t.eval args first o idx s = some (.long k) := by
  cases ht : t.eval args first o idx s with
  | none => simp [Cond.value, ht] at h
  | some x => cases x <;> simp [Cond.value, ht, Term.eval] at h ⊢ <;> exact h
theorem own_eqR {t u : Term} {args : Array Value} {first s : State} {o : Option Outcome} {idx : List Nat} {x : Addr} (h : (Jvm.Cond.eq t u).value args first o s idx = some true) (hu : u.eval args first o idx s = some (.ref x)) : t.eval args first o idx s = some (.ref x) := by
  cases ht : t.eval args first o idx s with
  | none => simp [Cond.value, ht] at h
  | some z => cases z <;> simp [Cond.value, ht, hu] at h ⊢ <;> exact h
theorem cat_of {v : Value} (h : v.isRef = true) : v.category = 1 := by rcases ref_cases h with rfl | ⟨a, rfl⟩ <;> rfl
theorem own_fits {n : String} {v : Value} (h : v.isRef = true) : fits (.object n) v = true := by rcases ref_cases h with rfl | ⟨a, rfl⟩ <;> rfl
theorem own_exa_ns {Z : State} {h : Heap} {a : Addr} {C : String} (E : Exa Z h a C) : ∀ c : Cell, h[a]? = some c → c.vm.isStatics = false := fun c hc => by
  obtain ⟨cell, k, h1, -, -, h4, -⟩ := E
  cases h1.symm.trans hc; exact h4
theorem own_sta_keep {Z : State} {h h' : Heap} {ws : List Addr} {C n d : String} {v : Value} (F : Sta Z h C n d v) (K : Keep h h' ws) (q : ∀ x ∈ ws, ∀ c : Cell, h[x]? = some c → c.vm.isStatics = false) : Sta Z h' C n d v := by
  obtain ⟨cf, i, k, f, st, cell, h1, h2, h3, h4, h5, h6, r⟩ := F
  refine ⟨cf, i, k, f, st, cell, h1, h2, h3, h4, K.2.1 st cell h5 (fun hm => ?_), h6, r⟩
  have := q st hm cell h5
  rw [h6] at this; cases this
theorem own_rng (x y : Int32) (d : Int) (hy : y.toInt = d) (hd : 0 < d) : 0 ≤ ((x &&& 2147483647) % y).toInt ∧ ((x &&& 2147483647) % y).toInt < d := by
  have h := c_and x 2147483647 (by decide)
  have g := (c_irem (x &&& 2147483647) y d hy).1 h.1
  rw [g]; exact ⟨Int.emod_nonneg _ (by omega), Int.emod_lt_of_pos _ hd⟩
theorem own_dis {i : Int32} (h : 0 ≤ i.toInt ∧ i.toInt < 12) : (0 : Int32) = i ∨ (1 : Int32) = i ∨ (2 : Int32) = i ∨ (3 : Int32) = i ∨ (4 : Int32) = i ∨ (5 : Int32) = i ∨ (6 : Int32) = i ∨ (7 : Int32) = i ∨ (8 : Int32) = i ∨ (9 : Int32) = i ∨ (10 : Int32) = i ∨ (11 : Int32) = i := by
  have hd : ∀ n : Fin 12, ((0 : Int32) = n.val.toInt32 ∨ (1 : Int32) = n.val.toInt32 ∨ (2 : Int32) = n.val.toInt32 ∨ (3 : Int32) = n.val.toInt32 ∨ (4 : Int32) = n.val.toInt32 ∨ (5 : Int32) = n.val.toInt32 ∨ (6 : Int32) = n.val.toInt32 ∨ (7 : Int32) = n.val.toInt32 ∨ (8 : Int32) = n.val.toInt32 ∨ (9 : Int32) = n.val.toInt32 ∨ (10 : Int32) = n.val.toInt32 ∨ (11 : Int32) = n.val.toInt32) := by decide
  have e : i.toInt.toNat.toInt32 = i := by
    apply Int32.toInt_inj.mp
    rw [len_toInt (by omega)]
    omega
  have g := hd ⟨i.toInt.toNat, by omega⟩
  simp only [e] at g
  exact g
theorem pn_0 : plainName "com/example/rotarium/rotarium/EulerSequence" = true := by first | (simp [plainName, overriddenIn]; done) | decide +kernel
theorem d1_0 : decode prog_5_method_9_code 0 = .ok (.aload_n 0, 1) := by decide +kernel
theorem d1_1 : decode prog_5_method_9_code 1 = .ok (.getfield 69, 3) := by decide +kernel
theorem d1_4 : decode prog_5_method_9_code 4 = .ok (.aload_n 0, 1) := by decide +kernel
theorem d1_5 : decode prog_5_method_9_code 5 = .ok (.getfield 76, 3) := by decide +kernel
theorem d1_8 : decode prog_5_method_9_code 8 = .ok (.if_icmp .ne 7, 3) := by decide +kernel
theorem d1_11 : decode prog_5_method_9_code 11 = .ok (.iconst 1, 1) := by decide +kernel
theorem d1_12 : decode prog_5_method_9_code 12 = .ok (.goto 4, 3) := by decide +kernel
theorem d1_15 : decode prog_5_method_9_code 15 = .ok (.iconst 0, 1) := by decide +kernel
theorem d1_16 : decode prog_5_method_9_code 16 = .ok (.ireturn, 1) := by decide +kernel
theorem ef_1 (m : MethodId) (x0 : Addr)  : entryFrame m #[(.ref x0)] 1 = mkF m 0 #[.val (.ref x0)] [] := by first | (simp [entryFrame, mkF, argsToLocals, Value.category]; done) | rfl
def Q1 (Z : State) (a0 : Addr) (w_firstAxis_0 : Int32) (w_lastAxis_1 : Int32) (h0 : Heap) (n0 : Nat) (v : Option Value) (h : Heap) (L : List Loc) : Prop := (∃ r : Int32, v = some (.int r) ∧ ((w_firstAxis_0 = w_lastAxis_1 → (1 : Int32) = r) ∧ (¬ w_firstAxis_0 = w_lastAxis_1 → (0 : Int32) = r))) ∧ Fr n0 L ∧ h = h0
set_option maxRecDepth 65536 in
set_option maxHeartbeats 40000000 in
theorem rm1 (l : Launch) (Z : State) (aw : Array Value) (hw : ∀ d ∈ tables_1, d.before aw Z = true) (ws : List Jvm.Cond) (a0 : Addr) (w_firstAxis_0 : Int32) (w_lastAxis_1 : Int32) (h0 : Heap) (n0 : Nat) (Z0 : n0 ≤ h0.size) (Ff_firstAxis_0 : Fld Z h0 a0 "com/example/rotarium/rotarium/EulerSequence" "firstAxis" "I" (.int w_firstAxis_0)) (Ff_lastAxis_1 : Fld Z h0 a0 "com/example/rotarium/rotarium/EulerSequence" "lastAxis" "I" (.int w_lastAxis_1)) :
    MetFree l (⟨"com/example/rotarium/rotarium/EulerSequence", "isProperEuler", "()Z"⟩ : MethodName) (head1 (Jvm.Cond.code (⟨"com/example/rotarium/rotarium/EulerSequence", "isProperEuler", "()Z"⟩ : MethodName) prog_5_method_9_code 1 (some .boolean) :: ws) ({ frames := 0, cells := 0, slots := 0, locals := 0 } : Room)) (fun a U => a = #[(.ref a0)] ∧ Z.Warmed39 U.vm ∧ U.heap = h0) (fun _ _ _ _ _ => True) (fun _ U o U' => ∃ v L, o = .returned v ∧ Q1 Z a0 w_firstAxis_0 w_lastAxis_1 h0 n0 v U'.heap L ∧ FrameEnd U o U' L ({ frames := 0, cells := 0, slots := 0, locals := 0 } : Room).cells ({ frames := 0, cells := 0, slots := 0, locals := 0 } : Room).slots) := by
  refine MetFree.of_bodySF (plainFor_of_name pn_0) hisR ?_
  intro p e s m args below meth c s₁ Bd hml0 hP hK
  obtain ⟨rfl, hZ, hh⟩ := hP
  have hx := Bd.exec
  have hby := Bd.bytes
  have hml : c.maxLocals = 1 := hml0
  have hown : s.vm.findClass "com/example/rotarium/rotarium/EulerSequence" = some m.cls := findClass_of_methodNamed Bd.named
  have hnm := (name_of_methodNamed Bd.named Bd.method).1
  have X0 : Stand p l e ({ frames := 0, cells := 0, slots := 0, locals := 0 } : Room) s m #[(.ref a0)] below meth c s₁ [] 0 0 := Stand.of_body Bd
  have e0 : s₁.heap = h0 := by rw [← hh, Bd.state]; rfl
  have N0 := Fr.nil n0
  have pre0 : ∀ t, Steps p.tables e below (s₁.setTop (mkF m 0 #[.val (.ref a0)] [])) t → Steps p.tables e below (s₁.setTop (entryFrame m #[(.ref a0)] 1)) t := fun t k => castTop (ef_1 m a0 ) k
  obtain ⟨T1, X1, e1, st1⟩ := getF X0 hx hZ hown (host := "") (Or.inl (hw _ (List.mem_of_getElem? (i := 34) rfl))) Via.refl e0 Ff_firstAxis_0 (g := (mkF m 1 #[.val (.ref a0)] [(.ref a0)])) rfl rfl (hb hby d1_1)
  obtain ⟨T2, X2, e2, st2⟩ := getF X1 hx hZ hown (host := "") (Or.inl (hw _ (List.mem_of_getElem? (i := 36) rfl))) Via.refl e1 Ff_lastAxis_1 (g := (mkF m 5 #[.val (.ref a0)] [(.ref a0), (.int w_firstAxis_0)])) rfl rfl (hb hby d1_5)
  have pre3 : ∀ t, Steps p.tables e below (T2.setTop (mkF m 8 #[.val (.ref a0)] [(.int w_lastAxis_1), (.int w_firstAxis_0)])) t → Steps p.tables e below (s₁.setTop (entryFrame m #[(.ref a0)] 1)) t := fun t kt => pre0 t (by
      show Steps p.tables e below (s₁.setTop (mkF m 0 #[.val (.ref a0)] [])) _
      refine XS.aloadN X0.here hx rfl (hb hby d1_0) rfl rfl ?_
      show Steps p.tables e below (s₁.setTop (mkF m 1 #[.val (.ref a0)] [(.ref a0)])) _
      refine st1 _ ?_
      show Steps p.tables e below (T1.setTop (mkF m 4 #[.val (.ref a0)] [(.int w_firstAxis_0)])) _
      refine XS.aloadN X1.here hx rfl (hb hby d1_4) rfl rfl ?_
      show Steps p.tables e below (T1.setTop (mkF m 5 #[.val (.ref a0)] [(.ref a0), (.int w_firstAxis_0)])) _
      refine st2 _ ?_
      exact kt)
  by_cases hc4 : w_firstAxis_0 = w_lastAxis_1
  · skip
    have pre5 : ∀ t, Steps p.tables e below (T2.setTop (mkF m 16 #[.val (.ref a0)] [(.int (1 : Int32))])) t → Steps p.tables e below (s₁.setTop (entryFrame m #[(.ref a0)] 1)) t := fun t kt => pre3 t (by
        show Steps p.tables e below (T2.setTop (mkF m 8 #[.val (.ref a0)] [(.int w_lastAxis_1), (.int w_firstAxis_0)])) _
        refine XS.icmpNo X2.here hx rfl (hb hby d1_8) rfl (teq hc4).2 ?_
        show Steps p.tables e below (T2.setTop (mkF m 11 #[.val (.ref a0)] [])) _
        refine XS.iconst X2.here hx rfl (hb hby d1_11) ?_
        show Steps p.tables e below (T2.setTop (mkF m 12 #[.val (.ref a0)] [(.int (1 : Int32))])) _
        refine XS.goto X2.here hx rfl (pc0 := 12) (pc' := 16) rfl (hb hby d1_12) (by decide) (by decide) ?_
        exact kt)
    obtain ⟨fs, hr, hrun, hended, hW, hsame⟩ := X2.leave (v := some (.int (1 : Int32))) (fun h => by rw [Bd.returns] at h; cases h)
    refine ⟨_, _, pre5 _ ?_, hrun, hended, _, _, rfl, ?_, ⟨_, rfl⟩, hW, hsame.mono (by decide) (by decide)⟩
    · show Steps p.tables e below (T2.setTop (mkF m 16 #[.val (.ref a0)] [(.int (1 : Int32))])) _
      exact retN X2 hx (t := .boolean) Bd.returns (by simp) (hb hby d1_16) hr
    · show Q1 Z _ _ _ h0 n0 _ T2.heap _
      rw [e2]
      exact ⟨⟨_, rfl, by simp [hc4]⟩, N0, rfl⟩
  · skip
    have pre6 : ∀ t, Steps p.tables e below (T2.setTop (mkF m 16 #[.val (.ref a0)] [(.int (0 : Int32))])) t → Steps p.tables e below (s₁.setTop (entryFrame m #[(.ref a0)] 1)) t := fun t kt => pre3 t (by
        show Steps p.tables e below (T2.setTop (mkF m 8 #[.val (.ref a0)] [(.int w_lastAxis_1), (.int w_firstAxis_0)])) _
        refine XS.icmpYes X2.here hx rfl (pc0 := 8) (pc' := 15) rfl (hb hby d1_8) rfl (feq hc4).2 (by decide) (by decide) ?_
        show Steps p.tables e below (T2.setTop (mkF m 15 #[.val (.ref a0)] [])) _
        refine XS.iconst X2.here hx rfl (hb hby d1_15) ?_
        exact kt)
    obtain ⟨fs, hr, hrun, hended, hW, hsame⟩ := X2.leave (v := some (.int (0 : Int32))) (fun h => by rw [Bd.returns] at h; cases h)
    refine ⟨_, _, pre6 _ ?_, hrun, hended, _, _, rfl, ?_, ⟨_, rfl⟩, hW, hsame.mono (by decide) (by decide)⟩
    · show Steps p.tables e below (T2.setTop (mkF m 16 #[.val (.ref a0)] [(.int (0 : Int32))])) _
      exact retN X2 hx (t := .boolean) Bd.returns (by simp) (hb hby d1_16) hr
    · show Q1 Z _ _ _ h0 n0 _ T2.heap _
      rw [e2]
      exact ⟨⟨_, rfl, by simp [hc4]⟩, N0, rfl⟩
theorem pd_0 : parseMethodDescriptor "()Z" = some ⟨[], some .boolean⟩ := by decide +kernel
theorem pn_1 : plainName "com/example/rotarium/rotarium/EulerSequenceIsProperEulerPinLaw" = true := by first | (simp [plainName, overriddenIn]; done) | decide +kernel
theorem ef_0 (m : MethodId) (x0 : Int32)  : entryFrame m #[(.int x0)] maxLocals = mkF m 0 #[.val (.int x0), .unset, .unset, .unset] [] := by first | (simp [entryFrame, mkF, argsToLocals, Value.category, maxLocals]; done) | rfl
def Q0 (Z : State) (p0 : Int32) (w_XYZ_1 : Addr) (w_XZY_3 : Addr) (w_YXZ_5 : Addr) (w_YZX_7 : Addr) (w_ZXY_9 : Addr) (w_ZYX_11 : Addr) (w_XYX_13 : Addr) (w_XZX_15 : Addr) (w_YXY_17 : Addr) (w_YZY_19 : Addr) (w_ZXZ_21 : Addr) (w_ZYZ_23 : Addr) (h0 : Heap) (n0 : Nat) (v : Option Value) (h : Heap) (L : List Loc) : Prop := v = some (.int (1 : Int32)) ∧ Fr n0 L ∧ (True)
set_option maxRecDepth 65536 in
set_option maxHeartbeats 40000000 in
theorem rm0 (l : Launch) (Z : State) (aw : Array Value) (hw : ∀ d ∈ tables_1, d.before aw Z = true) (ws : List Jvm.Cond) (p0 : Int32) (w_XYZ_1 : Addr) (w_XZY_3 : Addr) (w_YXZ_5 : Addr) (w_YZX_7 : Addr) (w_ZXY_9 : Addr) (w_ZYX_11 : Addr) (w_XYX_13 : Addr) (w_XZX_15 : Addr) (w_YXY_17 : Addr) (w_YZY_19 : Addr) (w_ZXZ_21 : Addr) (w_ZYZ_23 : Addr) (h0 : Heap) (n0 : Nat) (Z0 : n0 ≤ h0.size) (S_XYZ_0 : Sta Z h0 "com/example/rotarium/rotarium/EulerSequence" "XYZ" "Lcom/example/rotarium/rotarium/EulerSequence;" (.ref w_XYZ_1)) (E_1 : Exa Z h0 w_XYZ_1 "com/example/rotarium/rotarium/EulerSequence") (S_XZY_2 : Sta Z h0 "com/example/rotarium/rotarium/EulerSequence" "XZY" "Lcom/example/rotarium/rotarium/EulerSequence;" (.ref w_XZY_3)) (E_3 : Exa Z h0 w_XZY_3 "com/example/rotarium/rotarium/EulerSequence") (S_YXZ_4 : Sta Z h0 "com/example/rotarium/rotarium/EulerSequence" "YXZ" "Lcom/example/rotarium/rotarium/EulerSequence;" (.ref w_YXZ_5)) (E_5 : Exa Z h0 w_YXZ_5 "com/example/rotarium/rotarium/EulerSequence") (S_YZX_6 : Sta Z h0 "com/example/rotarium/rotarium/EulerSequence" "YZX" "Lcom/example/rotarium/rotarium/EulerSequence;" (.ref w_YZX_7)) (E_7 : Exa Z h0 w_YZX_7 "com/example/rotarium/rotarium/EulerSequence") (S_ZXY_8 : Sta Z h0 "com/example/rotarium/rotarium/EulerSequence" "ZXY" "Lcom/example/rotarium/rotarium/EulerSequence;" (.ref w_ZXY_9)) (E_9 : Exa Z h0 w_ZXY_9 "com/example/rotarium/rotarium/EulerSequence") (S_ZYX_10 : Sta Z h0 "com/example/rotarium/rotarium/EulerSequence" "ZYX" "Lcom/example/rotarium/rotarium/EulerSequence;" (.ref w_ZYX_11)) (E_11 : Exa Z h0 w_ZYX_11 "com/example/rotarium/rotarium/EulerSequence") (S_XYX_12 : Sta Z h0 "com/example/rotarium/rotarium/EulerSequence" "XYX" "Lcom/example/rotarium/rotarium/EulerSequence;" (.ref w_XYX_13)) (E_13 : Exa Z h0 w_XYX_13 "com/example/rotarium/rotarium/EulerSequence") (S_XZX_14 : Sta Z h0 "com/example/rotarium/rotarium/EulerSequence" "XZX" "Lcom/example/rotarium/rotarium/EulerSequence;" (.ref w_XZX_15)) (E_15 : Exa Z h0 w_XZX_15 "com/example/rotarium/rotarium/EulerSequence") (S_YXY_16 : Sta Z h0 "com/example/rotarium/rotarium/EulerSequence" "YXY" "Lcom/example/rotarium/rotarium/EulerSequence;" (.ref w_YXY_17)) (E_17 : Exa Z h0 w_YXY_17 "com/example/rotarium/rotarium/EulerSequence") (S_YZY_18 : Sta Z h0 "com/example/rotarium/rotarium/EulerSequence" "YZY" "Lcom/example/rotarium/rotarium/EulerSequence;" (.ref w_YZY_19)) (E_19 : Exa Z h0 w_YZY_19 "com/example/rotarium/rotarium/EulerSequence") (S_ZXZ_20 : Sta Z h0 "com/example/rotarium/rotarium/EulerSequence" "ZXZ" "Lcom/example/rotarium/rotarium/EulerSequence;" (.ref w_ZXZ_21)) (E_21 : Exa Z h0 w_ZXZ_21 "com/example/rotarium/rotarium/EulerSequence") (S_ZYZ_22 : Sta Z h0 "com/example/rotarium/rotarium/EulerSequence" "ZYZ" "Lcom/example/rotarium/rotarium/EulerSequence;" (.ref w_ZYZ_23)) (E_23 : Exa Z h0 w_ZYZ_23 "com/example/rotarium/rotarium/EulerSequence") (F_firstAxis_24 : Fld Z h0 w_XYZ_1 "com/example/rotarium/rotarium/EulerSequence" "firstAxis" "I" (.int (0 : Int32))) (F_lastAxis_25 : Fld Z h0 w_XYZ_1 "com/example/rotarium/rotarium/EulerSequence" "lastAxis" "I" (.int (2 : Int32))) (F_firstAxis_26 : Fld Z h0 w_YZX_7 "com/example/rotarium/rotarium/EulerSequence" "firstAxis" "I" (.int (1 : Int32))) (F_lastAxis_27 : Fld Z h0 w_YZX_7 "com/example/rotarium/rotarium/EulerSequence" "lastAxis" "I" (.int (0 : Int32))) (F_firstAxis_28 : Fld Z h0 w_YXZ_5 "com/example/rotarium/rotarium/EulerSequence" "firstAxis" "I" (.int (1 : Int32))) (F_lastAxis_29 : Fld Z h0 w_YXZ_5 "com/example/rotarium/rotarium/EulerSequence" "lastAxis" "I" (.int (2 : Int32))) (F_firstAxis_30 : Fld Z h0 w_XZX_15 "com/example/rotarium/rotarium/EulerSequence" "firstAxis" "I" (.int (0 : Int32))) (F_lastAxis_31 : Fld Z h0 w_XZX_15 "com/example/rotarium/rotarium/EulerSequence" "lastAxis" "I" (.int (0 : Int32))) (F_firstAxis_32 : Fld Z h0 w_ZYZ_23 "com/example/rotarium/rotarium/EulerSequence" "firstAxis" "I" (.int (2 : Int32))) (F_lastAxis_33 : Fld Z h0 w_ZYZ_23 "com/example/rotarium/rotarium/EulerSequence" "lastAxis" "I" (.int (2 : Int32))) (F_firstAxis_34 : Fld Z h0 w_ZXY_9 "com/example/rotarium/rotarium/EulerSequence" "firstAxis" "I" (.int (2 : Int32))) (F_lastAxis_35 : Fld Z h0 w_ZXY_9 "com/example/rotarium/rotarium/EulerSequence" "lastAxis" "I" (.int (1 : Int32))) (F_firstAxis_36 : Fld Z h0 w_YXY_17 "com/example/rotarium/rotarium/EulerSequence" "firstAxis" "I" (.int (1 : Int32))) (F_lastAxis_37 : Fld Z h0 w_YXY_17 "com/example/rotarium/rotarium/EulerSequence" "lastAxis" "I" (.int (1 : Int32))) (F_firstAxis_38 : Fld Z h0 w_XZY_3 "com/example/rotarium/rotarium/EulerSequence" "firstAxis" "I" (.int (0 : Int32))) (F_lastAxis_39 : Fld Z h0 w_XZY_3 "com/example/rotarium/rotarium/EulerSequence" "lastAxis" "I" (.int (1 : Int32))) (F_firstAxis_40 : Fld Z h0 w_ZXZ_21 "com/example/rotarium/rotarium/EulerSequence" "firstAxis" "I" (.int (2 : Int32))) (F_lastAxis_41 : Fld Z h0 w_ZXZ_21 "com/example/rotarium/rotarium/EulerSequence" "lastAxis" "I" (.int (2 : Int32))) (F_firstAxis_42 : Fld Z h0 w_YZY_19 "com/example/rotarium/rotarium/EulerSequence" "firstAxis" "I" (.int (1 : Int32))) (F_lastAxis_43 : Fld Z h0 w_YZY_19 "com/example/rotarium/rotarium/EulerSequence" "lastAxis" "I" (.int (1 : Int32))) (F_firstAxis_44 : Fld Z h0 w_XYX_13 "com/example/rotarium/rotarium/EulerSequence" "firstAxis" "I" (.int (0 : Int32))) (F_lastAxis_45 : Fld Z h0 w_XYX_13 "com/example/rotarium/rotarium/EulerSequence" "lastAxis" "I" (.int (0 : Int32))) (F_firstAxis_46 : Fld Z h0 w_ZYX_11 "com/example/rotarium/rotarium/EulerSequence" "firstAxis" "I" (.int (2 : Int32))) (F_lastAxis_47 : Fld Z h0 w_ZYX_11 "com/example/rotarium/rotarium/EulerSequence" "lastAxis" "I" (.int (0 : Int32))) :
    MetFree l x (head1 (Jvm.Cond.code x code maxLocals ret :: ws) room_1) (fun a U => a = #[(.int p0)] ∧ Z.Warmed39 U.vm ∧ U.heap = h0) (fun _ _ _ _ _ => True) (fun _ U o U' => ∃ v L, o = .returned v ∧ Q0 Z p0 w_XYZ_1 w_XZY_3 w_YXZ_5 w_YZX_7 w_ZXY_9 w_ZYX_11 w_XYX_13 w_XZX_15 w_YXY_17 w_YZY_19 w_ZXZ_21 w_ZYZ_23 h0 n0 v U'.heap L ∧ FrameEnd U o U' L room_1.cells room_1.slots) := by
  refine MetFree.of_bodySF (plainFor_of_name pn_1) hisR ?_
  intro p e s m args below meth c s₁ Bd hml0 hP hK
  obtain ⟨rfl, hZ, hh⟩ := hP
  have hx := Bd.exec
  have hby := Bd.bytes
  have hml : c.maxLocals = 4 := hml0
  have hown : s.vm.findClass "com/example/rotarium/rotarium/EulerSequenceIsProperEulerPinLaw" = some m.cls := findClass_of_methodNamed Bd.named
  have hnm := (name_of_methodNamed Bd.named Bd.method).1
  have X0 : Stand p l e room_1 s m #[(.int p0)] below meth c s₁ [] 0 0 := Stand.of_body Bd
  have e0 : s₁.heap = h0 := by rw [← hh, Bd.state]; rfl
  have N0 := Fr.nil n0
  have pre0 : ∀ t, Steps p.tables e below (s₁.setTop (mkF m 0 #[.val (.int p0), .unset, .unset, .unset] [])) t → Steps p.tables e below (s₁.setTop (entryFrame m #[(.int p0)] maxLocals)) t := fun t k => castTop (ef_0 m p0 ) k
  obtain ⟨T1, h1, k1, X1, e1, E1, A1, O1, st1⟩ := newR X0 hx hZ hown (hw _ (List.mem_of_getElem? (i := 0) rfl)) (hw _ (List.mem_of_getElem? (i := 1) rfl)) e0 (g := (mkF m 2 #[.val (.int p0), .unset, .unset, .unset] [(.int (12 : Int32))])) rfl (hb hby at_2) rfl (by decide) (cap := 12) (by decide) (by decide) (by decide) (by decide)
  obtain ⟨b1, g1⟩ : ∃ z, z = h0.size := ⟨_, rfl⟩
  rw [← g1] at A1 st1
  have f2 := (S_XYZ_0.ext E1)
  have f3 := (E_1.ext E1)
  have f4 := (S_XZY_2.ext E1)
  have f5 := (E_3.ext E1)
  have f6 := (S_YXZ_4.ext E1)
  have f7 := (E_5.ext E1)
  have f8 := (S_YZX_6.ext E1)
  have f9 := (E_7.ext E1)
  have f10 := (S_ZXY_8.ext E1)
  have f11 := (E_9.ext E1)
  have f12 := (S_ZYX_10.ext E1)
  have f13 := (E_11.ext E1)
  have f14 := (S_XYX_12.ext E1)
  have f15 := (E_13.ext E1)
  have f16 := (S_XZX_14.ext E1)
  have f17 := (E_15.ext E1)
  have f18 := (S_YXY_16.ext E1)
  have f19 := (E_17.ext E1)
  have f20 := (S_YZY_18.ext E1)
  have f21 := (E_19.ext E1)
  have f22 := (S_ZXZ_20.ext E1)
  have f23 := (E_21.ext E1)
  have f24 := (S_ZYZ_22.ext E1)
  have f25 := (E_23.ext E1)
  have f26 := (F_firstAxis_24.ext E1)
  have f27 := (F_lastAxis_25.ext E1)
  have f28 := (F_firstAxis_26.ext E1)
  have f29 := (F_lastAxis_27.ext E1)
  have f30 := (F_firstAxis_28.ext E1)
  have f31 := (F_lastAxis_29.ext E1)
  have f32 := (F_firstAxis_30.ext E1)
  have f33 := (F_lastAxis_31.ext E1)
  have f34 := (F_firstAxis_32.ext E1)
  have f35 := (F_lastAxis_33.ext E1)
  have f36 := (F_firstAxis_34.ext E1)
  have f37 := (F_lastAxis_35.ext E1)
  have f38 := (F_firstAxis_36.ext E1)
  have f39 := (F_lastAxis_37.ext E1)
  have f40 := (F_firstAxis_38.ext E1)
  have f41 := (F_lastAxis_39.ext E1)
  have f42 := (F_firstAxis_40.ext E1)
  have f43 := (F_lastAxis_41.ext E1)
  have f44 := (F_firstAxis_42.ext E1)
  have f45 := (F_lastAxis_43.ext E1)
  have f46 := (F_firstAxis_44.ext E1)
  have f47 := (F_lastAxis_45.ext E1)
  have f48 := (F_firstAxis_46.ext E1)
  have f49 := (F_lastAxis_47.ext E1)
  have ne50 : w_XYZ_1 ≠ b1 := Nat.ne_of_lt (Nat.lt_of_lt_of_le E_1.lt (Nat.le_of_eq g1.symm))
  have ne51 : w_XZY_3 ≠ b1 := Nat.ne_of_lt (Nat.lt_of_lt_of_le E_3.lt (Nat.le_of_eq g1.symm))
  have ne52 : w_YXZ_5 ≠ b1 := Nat.ne_of_lt (Nat.lt_of_lt_of_le E_5.lt (Nat.le_of_eq g1.symm))
  have ne53 : w_YZX_7 ≠ b1 := Nat.ne_of_lt (Nat.lt_of_lt_of_le E_7.lt (Nat.le_of_eq g1.symm))
  have ne54 : w_ZXY_9 ≠ b1 := Nat.ne_of_lt (Nat.lt_of_lt_of_le E_9.lt (Nat.le_of_eq g1.symm))
  have ne55 : w_ZYX_11 ≠ b1 := Nat.ne_of_lt (Nat.lt_of_lt_of_le E_11.lt (Nat.le_of_eq g1.symm))
  have ne56 : w_XYX_13 ≠ b1 := Nat.ne_of_lt (Nat.lt_of_lt_of_le E_13.lt (Nat.le_of_eq g1.symm))
  have ne57 : w_XZX_15 ≠ b1 := Nat.ne_of_lt (Nat.lt_of_lt_of_le E_15.lt (Nat.le_of_eq g1.symm))
  have ne58 : w_YXY_17 ≠ b1 := Nat.ne_of_lt (Nat.lt_of_lt_of_le E_17.lt (Nat.le_of_eq g1.symm))
  have ne59 : w_YZY_19 ≠ b1 := Nat.ne_of_lt (Nat.lt_of_lt_of_le E_19.lt (Nat.le_of_eq g1.symm))
  have ne60 : w_ZXZ_21 ≠ b1 := Nat.ne_of_lt (Nat.lt_of_lt_of_le E_21.lt (Nat.le_of_eq g1.symm))
  have ne61 : w_ZYZ_23 ≠ b1 := Nat.ne_of_lt (Nat.lt_of_lt_of_le E_23.lt (Nat.le_of_eq g1.symm))
  have ge_b1 : n0 ≤ b1 := Nat.le_trans Z0 (Nat.le_of_eq g1.symm)
  have sz_b1 : h0.size ≤ b1 := Nat.le_trans (Keep.refl h0 []).1 (Nat.le_of_eq g1.symm)
  have K1 : Keep h0 h1 [] := Keep.ext (Keep.refl h0 []) E1
  have V1 : Arv Z h1 b1 k1 (.object "com/example/rotarium/rotarium/EulerSequence") (12 : Int32) [.null, .null, .null, .null, .null, .null, .null, .null, .null, .null, .null, .null] .null := (Arv.new A1 (by decide)).pad (pad_rep [] .null 12)
  obtain ⟨T62, X62, e62, st62⟩ := getS2 X1 hx hZ hown (host := "") (Or.inl (hw _ (List.mem_of_getElem? (i := 2) rfl))) Via.refl e1 f2 (g := (mkF m 7 #[.val (.int p0), .unset, .unset, .unset] [(.int (0 : Int32)), (.ref b1), (.ref b1)])) rfl (hb hby at_7)
  obtain ⟨co63, Ao63, qo63, So63, No63, Ho63, Go63⟩ := id V1
  have hin64 : ¬ ((0 : Int32) < 0 ∨ co63.slots.size ≤ ((0 : Int32)).toNatClampNeg) := inb_of So63 ⟨by decide, by decide⟩
  obtain ⟨T65, h65, X65, e65, W65, st65⟩ := stR X62 hx hZ e62 Ao63 (j := (0 : Int32)) hin64 rfl (Sto.ofV Ao63 qo63 O1 (Ins.self f3)) (g := (mkF m 10 #[.val (.int p0), .unset, .unset, .unset] [(.ref w_XYZ_1), (.int (0 : Int32)), (.ref b1), (.ref b1)])) rfl rfl (hb hby at_10)
  have V65 : Arv Z h65 b1 k1 (.object "com/example/rotarium/rotarium/EulerSequence") (12 : Int32) [(.ref w_XYZ_1), .null, .null, .null, .null, .null, .null, .null, .null, .null, .null, .null] .null := Arv.set Ao63 qo63 So63 No63 Ho63 Go63 rfl W65 0 rfl (Nat.le_of_ble_eq_true rfl)
  have f66 := (f2.wr W65)
  have f67 := (f3.wr W65)
  have f68 := (f4.wr W65)
  have f69 := (f5.wr W65)
  have f70 := (f6.wr W65)
  have f71 := (f7.wr W65)
  have f72 := (f8.wr W65)
  have f73 := (f9.wr W65)
  have f74 := (f10.wr W65)
  have f75 := (f11.wr W65)
  have f76 := (f12.wr W65)
  have f77 := (f13.wr W65)
  have f78 := (f14.wr W65)
  have f79 := (f15.wr W65)
  have f80 := (f16.wr W65)
  have f81 := (f17.wr W65)
  have f82 := (f18.wr W65)
  have f83 := (f19.wr W65)
  have f84 := (f20.wr W65)
  have f85 := (f21.wr W65)
  have f86 := (f22.wr W65)
  have f87 := (f23.wr W65)
  have f88 := (f24.wr W65)
  have f89 := (f25.wr W65)
  have f90 := (f26.other W65 (Or.inl ne50))
  have f91 := (f27.other W65 (Or.inl ne50))
  have f92 := (f28.other W65 (Or.inl ne53))
  have f93 := (f29.other W65 (Or.inl ne53))
  have f94 := (f30.other W65 (Or.inl ne52))
  have f95 := (f31.other W65 (Or.inl ne52))
  have f96 := (f32.other W65 (Or.inl ne57))
  have f97 := (f33.other W65 (Or.inl ne57))
  have f98 := (f34.other W65 (Or.inl ne61))
  have f99 := (f35.other W65 (Or.inl ne61))
  have f100 := (f36.other W65 (Or.inl ne54))
  have f101 := (f37.other W65 (Or.inl ne54))
  have f102 := (f38.other W65 (Or.inl ne58))
  have f103 := (f39.other W65 (Or.inl ne58))
  have f104 := (f40.other W65 (Or.inl ne51))
  have f105 := (f41.other W65 (Or.inl ne51))
  have f106 := (f42.other W65 (Or.inl ne60))
  have f107 := (f43.other W65 (Or.inl ne60))
  have f108 := (f44.other W65 (Or.inl ne59))
  have f109 := (f45.other W65 (Or.inl ne59))
  have f110 := (f46.other W65 (Or.inl ne56))
  have f111 := (f47.other W65 (Or.inl ne56))
  have f112 := (f48.other W65 (Or.inl ne55))
  have f113 := (f49.other W65 (Or.inl ne55))
  have N65 := Fr.snoc X65 N0 ge_b1
  have K65 : Keep h0 h65 [] := Keep.wr K1 W65 (Or.inr sz_b1)
  obtain ⟨T114, X114, e114, st114⟩ := getS2 X65 hx hZ hown (host := "") (Or.inl (hw _ (List.mem_of_getElem? (i := 6) rfl))) Via.refl e65 f68 (g := (mkF m 13 #[.val (.int p0), .unset, .unset, .unset] [(.int (1 : Int32)), (.ref b1), (.ref b1)])) rfl (hb hby at_13)
  obtain ⟨co115, Ao115, qo115, So115, No115, Ho115, Go115⟩ := id V65
  have hin116 : ¬ ((1 : Int32) < 0 ∨ co115.slots.size ≤ ((1 : Int32)).toNatClampNeg) := inb_of So115 ⟨by decide, by decide⟩
  obtain ⟨T117, h117, X117, e117, W117, st117⟩ := stR X114 hx hZ e114 Ao115 (j := (1 : Int32)) hin116 rfl (Sto.ofV Ao115 qo115 O1 (Ins.self f69)) (g := (mkF m 16 #[.val (.int p0), .unset, .unset, .unset] [(.ref w_XZY_3), (.int (1 : Int32)), (.ref b1), (.ref b1)])) rfl rfl (hb hby at_16)
  have V117 : Arv Z h117 b1 k1 (.object "com/example/rotarium/rotarium/EulerSequence") (12 : Int32) [(.ref w_XYZ_1), (.ref w_XZY_3), .null, .null, .null, .null, .null, .null, .null, .null, .null, .null] .null := Arv.set Ao115 qo115 So115 No115 Ho115 Go115 rfl W117 1 rfl (Nat.le_of_ble_eq_true rfl)
  have f118 := (f66.wr W117)
  have f119 := (f67.wr W117)
  have f120 := (f68.wr W117)
  have f121 := (f69.wr W117)
  have f122 := (f70.wr W117)
  have f123 := (f71.wr W117)
  have f124 := (f72.wr W117)
  have f125 := (f73.wr W117)
  have f126 := (f74.wr W117)
  have f127 := (f75.wr W117)
  have f128 := (f76.wr W117)
  have f129 := (f77.wr W117)
  have f130 := (f78.wr W117)
  have f131 := (f79.wr W117)
  have f132 := (f80.wr W117)
  have f133 := (f81.wr W117)
  have f134 := (f82.wr W117)
  have f135 := (f83.wr W117)
  have f136 := (f84.wr W117)
  have f137 := (f85.wr W117)
  have f138 := (f86.wr W117)
  have f139 := (f87.wr W117)
  have f140 := (f88.wr W117)
  have f141 := (f89.wr W117)
  have f142 := (f90.other W117 (Or.inl ne50))
  have f143 := (f91.other W117 (Or.inl ne50))
  have f144 := (f92.other W117 (Or.inl ne53))
  have f145 := (f93.other W117 (Or.inl ne53))
  have f146 := (f94.other W117 (Or.inl ne52))
  have f147 := (f95.other W117 (Or.inl ne52))
  have f148 := (f96.other W117 (Or.inl ne57))
  have f149 := (f97.other W117 (Or.inl ne57))
  have f150 := (f98.other W117 (Or.inl ne61))
  have f151 := (f99.other W117 (Or.inl ne61))
  have f152 := (f100.other W117 (Or.inl ne54))
  have f153 := (f101.other W117 (Or.inl ne54))
  have f154 := (f102.other W117 (Or.inl ne58))
  have f155 := (f103.other W117 (Or.inl ne58))
  have f156 := (f104.other W117 (Or.inl ne51))
  have f157 := (f105.other W117 (Or.inl ne51))
  have f158 := (f106.other W117 (Or.inl ne60))
  have f159 := (f107.other W117 (Or.inl ne60))
  have f160 := (f108.other W117 (Or.inl ne59))
  have f161 := (f109.other W117 (Or.inl ne59))
  have f162 := (f110.other W117 (Or.inl ne56))
  have f163 := (f111.other W117 (Or.inl ne56))
  have f164 := (f112.other W117 (Or.inl ne55))
  have f165 := (f113.other W117 (Or.inl ne55))
  have N117 := Fr.snoc X117 N65 ge_b1
  have K117 : Keep h0 h117 [] := Keep.wr K65 W117 (Or.inr sz_b1)
  obtain ⟨T166, X166, e166, st166⟩ := getS2 X117 hx hZ hown (host := "") (Or.inl (hw _ (List.mem_of_getElem? (i := 8) rfl))) Via.refl e117 f122 (g := (mkF m 19 #[.val (.int p0), .unset, .unset, .unset] [(.int (2 : Int32)), (.ref b1), (.ref b1)])) rfl (hb hby at_19)
  obtain ⟨co167, Ao167, qo167, So167, No167, Ho167, Go167⟩ := id V117
  have hin168 : ¬ ((2 : Int32) < 0 ∨ co167.slots.size ≤ ((2 : Int32)).toNatClampNeg) := inb_of So167 ⟨by decide, by decide⟩
  obtain ⟨T169, h169, X169, e169, W169, st169⟩ := stR X166 hx hZ e166 Ao167 (j := (2 : Int32)) hin168 rfl (Sto.ofV Ao167 qo167 O1 (Ins.self f123)) (g := (mkF m 22 #[.val (.int p0), .unset, .unset, .unset] [(.ref w_YXZ_5), (.int (2 : Int32)), (.ref b1), (.ref b1)])) rfl rfl (hb hby at_22)
  have V169 : Arv Z h169 b1 k1 (.object "com/example/rotarium/rotarium/EulerSequence") (12 : Int32) [(.ref w_XYZ_1), (.ref w_XZY_3), (.ref w_YXZ_5), .null, .null, .null, .null, .null, .null, .null, .null, .null] .null := Arv.set Ao167 qo167 So167 No167 Ho167 Go167 rfl W169 2 rfl (Nat.le_of_ble_eq_true rfl)
  have f170 := (f118.wr W169)
  have f171 := (f119.wr W169)
  have f172 := (f120.wr W169)
  have f173 := (f121.wr W169)
  have f174 := (f122.wr W169)
  have f175 := (f123.wr W169)
  have f176 := (f124.wr W169)
  have f177 := (f125.wr W169)
  have f178 := (f126.wr W169)
  have f179 := (f127.wr W169)
  have f180 := (f128.wr W169)
  have f181 := (f129.wr W169)
  have f182 := (f130.wr W169)
  have f183 := (f131.wr W169)
  have f184 := (f132.wr W169)
  have f185 := (f133.wr W169)
  have f186 := (f134.wr W169)
  have f187 := (f135.wr W169)
  have f188 := (f136.wr W169)
  have f189 := (f137.wr W169)
  have f190 := (f138.wr W169)
  have f191 := (f139.wr W169)
  have f192 := (f140.wr W169)
  have f193 := (f141.wr W169)
  have f194 := (f142.other W169 (Or.inl ne50))
  have f195 := (f143.other W169 (Or.inl ne50))
  have f196 := (f144.other W169 (Or.inl ne53))
  have f197 := (f145.other W169 (Or.inl ne53))
  have f198 := (f146.other W169 (Or.inl ne52))
  have f199 := (f147.other W169 (Or.inl ne52))
  have f200 := (f148.other W169 (Or.inl ne57))
  have f201 := (f149.other W169 (Or.inl ne57))
  have f202 := (f150.other W169 (Or.inl ne61))
  have f203 := (f151.other W169 (Or.inl ne61))
  have f204 := (f152.other W169 (Or.inl ne54))
  have f205 := (f153.other W169 (Or.inl ne54))
  have f206 := (f154.other W169 (Or.inl ne58))
  have f207 := (f155.other W169 (Or.inl ne58))
  have f208 := (f156.other W169 (Or.inl ne51))
  have f209 := (f157.other W169 (Or.inl ne51))
  have f210 := (f158.other W169 (Or.inl ne60))
  have f211 := (f159.other W169 (Or.inl ne60))
  have f212 := (f160.other W169 (Or.inl ne59))
  have f213 := (f161.other W169 (Or.inl ne59))
  have f214 := (f162.other W169 (Or.inl ne56))
  have f215 := (f163.other W169 (Or.inl ne56))
  have f216 := (f164.other W169 (Or.inl ne55))
  have f217 := (f165.other W169 (Or.inl ne55))
  have N169 := Fr.snoc X169 N117 ge_b1
  have K169 : Keep h0 h169 [] := Keep.wr K117 W169 (Or.inr sz_b1)
  obtain ⟨T218, X218, e218, st218⟩ := getS2 X169 hx hZ hown (host := "") (Or.inl (hw _ (List.mem_of_getElem? (i := 10) rfl))) Via.refl e169 f176 (g := (mkF m 25 #[.val (.int p0), .unset, .unset, .unset] [(.int (3 : Int32)), (.ref b1), (.ref b1)])) rfl (hb hby at_25)
  obtain ⟨co219, Ao219, qo219, So219, No219, Ho219, Go219⟩ := id V169
  have hin220 : ¬ ((3 : Int32) < 0 ∨ co219.slots.size ≤ ((3 : Int32)).toNatClampNeg) := inb_of So219 ⟨by decide, by decide⟩
  obtain ⟨T221, h221, X221, e221, W221, st221⟩ := stR X218 hx hZ e218 Ao219 (j := (3 : Int32)) hin220 rfl (Sto.ofV Ao219 qo219 O1 (Ins.self f177)) (g := (mkF m 28 #[.val (.int p0), .unset, .unset, .unset] [(.ref w_YZX_7), (.int (3 : Int32)), (.ref b1), (.ref b1)])) rfl rfl (hb hby at_28)
  have V221 : Arv Z h221 b1 k1 (.object "com/example/rotarium/rotarium/EulerSequence") (12 : Int32) [(.ref w_XYZ_1), (.ref w_XZY_3), (.ref w_YXZ_5), (.ref w_YZX_7), .null, .null, .null, .null, .null, .null, .null, .null] .null := Arv.set Ao219 qo219 So219 No219 Ho219 Go219 rfl W221 3 rfl (Nat.le_of_ble_eq_true rfl)
  have f222 := (f170.wr W221)
  have f223 := (f171.wr W221)
  have f224 := (f172.wr W221)
  have f225 := (f173.wr W221)
  have f226 := (f174.wr W221)
  have f227 := (f175.wr W221)
  have f228 := (f176.wr W221)
  have f229 := (f177.wr W221)
  have f230 := (f178.wr W221)
  have f231 := (f179.wr W221)
  have f232 := (f180.wr W221)
  have f233 := (f181.wr W221)
  have f234 := (f182.wr W221)
  have f235 := (f183.wr W221)
  have f236 := (f184.wr W221)
  have f237 := (f185.wr W221)
  have f238 := (f186.wr W221)
  have f239 := (f187.wr W221)
  have f240 := (f188.wr W221)
  have f241 := (f189.wr W221)
  have f242 := (f190.wr W221)
  have f243 := (f191.wr W221)
  have f244 := (f192.wr W221)
  have f245 := (f193.wr W221)
  have f246 := (f194.other W221 (Or.inl ne50))
  have f247 := (f195.other W221 (Or.inl ne50))
  have f248 := (f196.other W221 (Or.inl ne53))
  have f249 := (f197.other W221 (Or.inl ne53))
  have f250 := (f198.other W221 (Or.inl ne52))
  have f251 := (f199.other W221 (Or.inl ne52))
  have f252 := (f200.other W221 (Or.inl ne57))
  have f253 := (f201.other W221 (Or.inl ne57))
  have f254 := (f202.other W221 (Or.inl ne61))
  have f255 := (f203.other W221 (Or.inl ne61))
  have f256 := (f204.other W221 (Or.inl ne54))
  have f257 := (f205.other W221 (Or.inl ne54))
  have f258 := (f206.other W221 (Or.inl ne58))
  have f259 := (f207.other W221 (Or.inl ne58))
  have f260 := (f208.other W221 (Or.inl ne51))
  have f261 := (f209.other W221 (Or.inl ne51))
  have f262 := (f210.other W221 (Or.inl ne60))
  have f263 := (f211.other W221 (Or.inl ne60))
  have f264 := (f212.other W221 (Or.inl ne59))
  have f265 := (f213.other W221 (Or.inl ne59))
  have f266 := (f214.other W221 (Or.inl ne56))
  have f267 := (f215.other W221 (Or.inl ne56))
  have f268 := (f216.other W221 (Or.inl ne55))
  have f269 := (f217.other W221 (Or.inl ne55))
  have N221 := Fr.snoc X221 N169 ge_b1
  have K221 : Keep h0 h221 [] := Keep.wr K169 W221 (Or.inr sz_b1)
  obtain ⟨T270, X270, e270, st270⟩ := getS2 X221 hx hZ hown (host := "") (Or.inl (hw _ (List.mem_of_getElem? (i := 12) rfl))) Via.refl e221 f230 (g := (mkF m 31 #[.val (.int p0), .unset, .unset, .unset] [(.int (4 : Int32)), (.ref b1), (.ref b1)])) rfl (hb hby at_31)
  obtain ⟨co271, Ao271, qo271, So271, No271, Ho271, Go271⟩ := id V221
  have hin272 : ¬ ((4 : Int32) < 0 ∨ co271.slots.size ≤ ((4 : Int32)).toNatClampNeg) := inb_of So271 ⟨by decide, by decide⟩
  obtain ⟨T273, h273, X273, e273, W273, st273⟩ := stR X270 hx hZ e270 Ao271 (j := (4 : Int32)) hin272 rfl (Sto.ofV Ao271 qo271 O1 (Ins.self f231)) (g := (mkF m 34 #[.val (.int p0), .unset, .unset, .unset] [(.ref w_ZXY_9), (.int (4 : Int32)), (.ref b1), (.ref b1)])) rfl rfl (hb hby at_34)
  have V273 : Arv Z h273 b1 k1 (.object "com/example/rotarium/rotarium/EulerSequence") (12 : Int32) [(.ref w_XYZ_1), (.ref w_XZY_3), (.ref w_YXZ_5), (.ref w_YZX_7), (.ref w_ZXY_9), .null, .null, .null, .null, .null, .null, .null] .null := Arv.set Ao271 qo271 So271 No271 Ho271 Go271 rfl W273 4 rfl (Nat.le_of_ble_eq_true rfl)
  have f274 := (f222.wr W273)
  have f275 := (f223.wr W273)
  have f276 := (f224.wr W273)
  have f277 := (f225.wr W273)
  have f278 := (f226.wr W273)
  have f279 := (f227.wr W273)
  have f280 := (f228.wr W273)
  have f281 := (f229.wr W273)
  have f282 := (f230.wr W273)
  have f283 := (f231.wr W273)
  have f284 := (f232.wr W273)
  have f285 := (f233.wr W273)
  have f286 := (f234.wr W273)
  have f287 := (f235.wr W273)
  have f288 := (f236.wr W273)
  have f289 := (f237.wr W273)
  have f290 := (f238.wr W273)
  have f291 := (f239.wr W273)
  have f292 := (f240.wr W273)
  have f293 := (f241.wr W273)
  have f294 := (f242.wr W273)
  have f295 := (f243.wr W273)
  have f296 := (f244.wr W273)
  have f297 := (f245.wr W273)
  have f298 := (f246.other W273 (Or.inl ne50))
  have f299 := (f247.other W273 (Or.inl ne50))
  have f300 := (f248.other W273 (Or.inl ne53))
  have f301 := (f249.other W273 (Or.inl ne53))
  have f302 := (f250.other W273 (Or.inl ne52))
  have f303 := (f251.other W273 (Or.inl ne52))
  have f304 := (f252.other W273 (Or.inl ne57))
  have f305 := (f253.other W273 (Or.inl ne57))
  have f306 := (f254.other W273 (Or.inl ne61))
  have f307 := (f255.other W273 (Or.inl ne61))
  have f308 := (f256.other W273 (Or.inl ne54))
  have f309 := (f257.other W273 (Or.inl ne54))
  have f310 := (f258.other W273 (Or.inl ne58))
  have f311 := (f259.other W273 (Or.inl ne58))
  have f312 := (f260.other W273 (Or.inl ne51))
  have f313 := (f261.other W273 (Or.inl ne51))
  have f314 := (f262.other W273 (Or.inl ne60))
  have f315 := (f263.other W273 (Or.inl ne60))
  have f316 := (f264.other W273 (Or.inl ne59))
  have f317 := (f265.other W273 (Or.inl ne59))
  have f318 := (f266.other W273 (Or.inl ne56))
  have f319 := (f267.other W273 (Or.inl ne56))
  have f320 := (f268.other W273 (Or.inl ne55))
  have f321 := (f269.other W273 (Or.inl ne55))
  have N273 := Fr.snoc X273 N221 ge_b1
  have K273 : Keep h0 h273 [] := Keep.wr K221 W273 (Or.inr sz_b1)
  obtain ⟨T322, X322, e322, st322⟩ := getS2 X273 hx hZ hown (host := "") (Or.inl (hw _ (List.mem_of_getElem? (i := 14) rfl))) Via.refl e273 f284 (g := (mkF m 37 #[.val (.int p0), .unset, .unset, .unset] [(.int (5 : Int32)), (.ref b1), (.ref b1)])) rfl (hb hby at_37)
  obtain ⟨co323, Ao323, qo323, So323, No323, Ho323, Go323⟩ := id V273
  have hin324 : ¬ ((5 : Int32) < 0 ∨ co323.slots.size ≤ ((5 : Int32)).toNatClampNeg) := inb_of So323 ⟨by decide, by decide⟩
  obtain ⟨T325, h325, X325, e325, W325, st325⟩ := stR X322 hx hZ e322 Ao323 (j := (5 : Int32)) hin324 rfl (Sto.ofV Ao323 qo323 O1 (Ins.self f285)) (g := (mkF m 40 #[.val (.int p0), .unset, .unset, .unset] [(.ref w_ZYX_11), (.int (5 : Int32)), (.ref b1), (.ref b1)])) rfl rfl (hb hby at_40)
  have V325 : Arv Z h325 b1 k1 (.object "com/example/rotarium/rotarium/EulerSequence") (12 : Int32) [(.ref w_XYZ_1), (.ref w_XZY_3), (.ref w_YXZ_5), (.ref w_YZX_7), (.ref w_ZXY_9), (.ref w_ZYX_11), .null, .null, .null, .null, .null, .null] .null := Arv.set Ao323 qo323 So323 No323 Ho323 Go323 rfl W325 5 rfl (Nat.le_of_ble_eq_true rfl)
  have f326 := (f274.wr W325)
  have f327 := (f275.wr W325)
  have f328 := (f276.wr W325)
  have f329 := (f277.wr W325)
  have f330 := (f278.wr W325)
  have f331 := (f279.wr W325)
  have f332 := (f280.wr W325)
  have f333 := (f281.wr W325)
  have f334 := (f282.wr W325)
  have f335 := (f283.wr W325)
  have f336 := (f284.wr W325)
  have f337 := (f285.wr W325)
  have f338 := (f286.wr W325)
  have f339 := (f287.wr W325)
  have f340 := (f288.wr W325)
  have f341 := (f289.wr W325)
  have f342 := (f290.wr W325)
  have f343 := (f291.wr W325)
  have f344 := (f292.wr W325)
  have f345 := (f293.wr W325)
  have f346 := (f294.wr W325)
  have f347 := (f295.wr W325)
  have f348 := (f296.wr W325)
  have f349 := (f297.wr W325)
  have f350 := (f298.other W325 (Or.inl ne50))
  have f351 := (f299.other W325 (Or.inl ne50))
  have f352 := (f300.other W325 (Or.inl ne53))
  have f353 := (f301.other W325 (Or.inl ne53))
  have f354 := (f302.other W325 (Or.inl ne52))
  have f355 := (f303.other W325 (Or.inl ne52))
  have f356 := (f304.other W325 (Or.inl ne57))
  have f357 := (f305.other W325 (Or.inl ne57))
  have f358 := (f306.other W325 (Or.inl ne61))
  have f359 := (f307.other W325 (Or.inl ne61))
  have f360 := (f308.other W325 (Or.inl ne54))
  have f361 := (f309.other W325 (Or.inl ne54))
  have f362 := (f310.other W325 (Or.inl ne58))
  have f363 := (f311.other W325 (Or.inl ne58))
  have f364 := (f312.other W325 (Or.inl ne51))
  have f365 := (f313.other W325 (Or.inl ne51))
  have f366 := (f314.other W325 (Or.inl ne60))
  have f367 := (f315.other W325 (Or.inl ne60))
  have f368 := (f316.other W325 (Or.inl ne59))
  have f369 := (f317.other W325 (Or.inl ne59))
  have f370 := (f318.other W325 (Or.inl ne56))
  have f371 := (f319.other W325 (Or.inl ne56))
  have f372 := (f320.other W325 (Or.inl ne55))
  have f373 := (f321.other W325 (Or.inl ne55))
  have N325 := Fr.snoc X325 N273 ge_b1
  have K325 : Keep h0 h325 [] := Keep.wr K273 W325 (Or.inr sz_b1)
  obtain ⟨T374, X374, e374, st374⟩ := getS2 X325 hx hZ hown (host := "") (Or.inl (hw _ (List.mem_of_getElem? (i := 16) rfl))) Via.refl e325 f338 (g := (mkF m 44 #[.val (.int p0), .unset, .unset, .unset] [(.int (6 : Int32)), (.ref b1), (.ref b1)])) rfl (hb hby at_44)
  obtain ⟨co375, Ao375, qo375, So375, No375, Ho375, Go375⟩ := id V325
  have hin376 : ¬ ((6 : Int32) < 0 ∨ co375.slots.size ≤ ((6 : Int32)).toNatClampNeg) := inb_of So375 ⟨by decide, by decide⟩
  obtain ⟨T377, h377, X377, e377, W377, st377⟩ := stR X374 hx hZ e374 Ao375 (j := (6 : Int32)) hin376 rfl (Sto.ofV Ao375 qo375 O1 (Ins.self f339)) (g := (mkF m 47 #[.val (.int p0), .unset, .unset, .unset] [(.ref w_XYX_13), (.int (6 : Int32)), (.ref b1), (.ref b1)])) rfl rfl (hb hby at_47)
  have V377 : Arv Z h377 b1 k1 (.object "com/example/rotarium/rotarium/EulerSequence") (12 : Int32) [(.ref w_XYZ_1), (.ref w_XZY_3), (.ref w_YXZ_5), (.ref w_YZX_7), (.ref w_ZXY_9), (.ref w_ZYX_11), (.ref w_XYX_13), .null, .null, .null, .null, .null] .null := Arv.set Ao375 qo375 So375 No375 Ho375 Go375 rfl W377 6 rfl (Nat.le_of_ble_eq_true rfl)
  have f378 := (f326.wr W377)
  have f379 := (f327.wr W377)
  have f380 := (f328.wr W377)
  have f381 := (f329.wr W377)
  have f382 := (f330.wr W377)
  have f383 := (f331.wr W377)
  have f384 := (f332.wr W377)
  have f385 := (f333.wr W377)
  have f386 := (f334.wr W377)
  have f387 := (f335.wr W377)
  have f388 := (f336.wr W377)
  have f389 := (f337.wr W377)
  have f390 := (f338.wr W377)
  have f391 := (f339.wr W377)
  have f392 := (f340.wr W377)
  have f393 := (f341.wr W377)
  have f394 := (f342.wr W377)
  have f395 := (f343.wr W377)
  have f396 := (f344.wr W377)
  have f397 := (f345.wr W377)
  have f398 := (f346.wr W377)
  have f399 := (f347.wr W377)
  have f400 := (f348.wr W377)
  have f401 := (f349.wr W377)
  have f402 := (f350.other W377 (Or.inl ne50))
  have f403 := (f351.other W377 (Or.inl ne50))
  have f404 := (f352.other W377 (Or.inl ne53))
  have f405 := (f353.other W377 (Or.inl ne53))
  have f406 := (f354.other W377 (Or.inl ne52))
  have f407 := (f355.other W377 (Or.inl ne52))
  have f408 := (f356.other W377 (Or.inl ne57))
  have f409 := (f357.other W377 (Or.inl ne57))
  have f410 := (f358.other W377 (Or.inl ne61))
  have f411 := (f359.other W377 (Or.inl ne61))
  have f412 := (f360.other W377 (Or.inl ne54))
  have f413 := (f361.other W377 (Or.inl ne54))
  have f414 := (f362.other W377 (Or.inl ne58))
  have f415 := (f363.other W377 (Or.inl ne58))
  have f416 := (f364.other W377 (Or.inl ne51))
  have f417 := (f365.other W377 (Or.inl ne51))
  have f418 := (f366.other W377 (Or.inl ne60))
  have f419 := (f367.other W377 (Or.inl ne60))
  have f420 := (f368.other W377 (Or.inl ne59))
  have f421 := (f369.other W377 (Or.inl ne59))
  have f422 := (f370.other W377 (Or.inl ne56))
  have f423 := (f371.other W377 (Or.inl ne56))
  have f424 := (f372.other W377 (Or.inl ne55))
  have f425 := (f373.other W377 (Or.inl ne55))
  have N377 := Fr.snoc X377 N325 ge_b1
  have K377 : Keep h0 h377 [] := Keep.wr K325 W377 (Or.inr sz_b1)
  obtain ⟨T426, X426, e426, st426⟩ := getS2 X377 hx hZ hown (host := "") (Or.inl (hw _ (List.mem_of_getElem? (i := 18) rfl))) Via.refl e377 f392 (g := (mkF m 51 #[.val (.int p0), .unset, .unset, .unset] [(.int (7 : Int32)), (.ref b1), (.ref b1)])) rfl (hb hby at_51)
  obtain ⟨co427, Ao427, qo427, So427, No427, Ho427, Go427⟩ := id V377
  have hin428 : ¬ ((7 : Int32) < 0 ∨ co427.slots.size ≤ ((7 : Int32)).toNatClampNeg) := inb_of So427 ⟨by decide, by decide⟩
  obtain ⟨T429, h429, X429, e429, W429, st429⟩ := stR X426 hx hZ e426 Ao427 (j := (7 : Int32)) hin428 rfl (Sto.ofV Ao427 qo427 O1 (Ins.self f393)) (g := (mkF m 54 #[.val (.int p0), .unset, .unset, .unset] [(.ref w_XZX_15), (.int (7 : Int32)), (.ref b1), (.ref b1)])) rfl rfl (hb hby at_54)
  have V429 : Arv Z h429 b1 k1 (.object "com/example/rotarium/rotarium/EulerSequence") (12 : Int32) [(.ref w_XYZ_1), (.ref w_XZY_3), (.ref w_YXZ_5), (.ref w_YZX_7), (.ref w_ZXY_9), (.ref w_ZYX_11), (.ref w_XYX_13), (.ref w_XZX_15), .null, .null, .null, .null] .null := Arv.set Ao427 qo427 So427 No427 Ho427 Go427 rfl W429 7 rfl (Nat.le_of_ble_eq_true rfl)
  have f430 := (f378.wr W429)
  have f431 := (f379.wr W429)
  have f432 := (f380.wr W429)
  have f433 := (f381.wr W429)
  have f434 := (f382.wr W429)
  have f435 := (f383.wr W429)
  have f436 := (f384.wr W429)
  have f437 := (f385.wr W429)
  have f438 := (f386.wr W429)
  have f439 := (f387.wr W429)
  have f440 := (f388.wr W429)
  have f441 := (f389.wr W429)
  have f442 := (f390.wr W429)
  have f443 := (f391.wr W429)
  have f444 := (f392.wr W429)
  have f445 := (f393.wr W429)
  have f446 := (f394.wr W429)
  have f447 := (f395.wr W429)
  have f448 := (f396.wr W429)
  have f449 := (f397.wr W429)
  have f450 := (f398.wr W429)
  have f451 := (f399.wr W429)
  have f452 := (f400.wr W429)
  have f453 := (f401.wr W429)
  have f454 := (f402.other W429 (Or.inl ne50))
  have f455 := (f403.other W429 (Or.inl ne50))
  have f456 := (f404.other W429 (Or.inl ne53))
  have f457 := (f405.other W429 (Or.inl ne53))
  have f458 := (f406.other W429 (Or.inl ne52))
  have f459 := (f407.other W429 (Or.inl ne52))
  have f460 := (f408.other W429 (Or.inl ne57))
  have f461 := (f409.other W429 (Or.inl ne57))
  have f462 := (f410.other W429 (Or.inl ne61))
  have f463 := (f411.other W429 (Or.inl ne61))
  have f464 := (f412.other W429 (Or.inl ne54))
  have f465 := (f413.other W429 (Or.inl ne54))
  have f466 := (f414.other W429 (Or.inl ne58))
  have f467 := (f415.other W429 (Or.inl ne58))
  have f468 := (f416.other W429 (Or.inl ne51))
  have f469 := (f417.other W429 (Or.inl ne51))
  have f470 := (f418.other W429 (Or.inl ne60))
  have f471 := (f419.other W429 (Or.inl ne60))
  have f472 := (f420.other W429 (Or.inl ne59))
  have f473 := (f421.other W429 (Or.inl ne59))
  have f474 := (f422.other W429 (Or.inl ne56))
  have f475 := (f423.other W429 (Or.inl ne56))
  have f476 := (f424.other W429 (Or.inl ne55))
  have f477 := (f425.other W429 (Or.inl ne55))
  have N429 := Fr.snoc X429 N377 ge_b1
  have K429 : Keep h0 h429 [] := Keep.wr K377 W429 (Or.inr sz_b1)
  obtain ⟨T478, X478, e478, st478⟩ := getS2 X429 hx hZ hown (host := "") (Or.inl (hw _ (List.mem_of_getElem? (i := 20) rfl))) Via.refl e429 f446 (g := (mkF m 58 #[.val (.int p0), .unset, .unset, .unset] [(.int (8 : Int32)), (.ref b1), (.ref b1)])) rfl (hb hby at_58)
  obtain ⟨co479, Ao479, qo479, So479, No479, Ho479, Go479⟩ := id V429
  have hin480 : ¬ ((8 : Int32) < 0 ∨ co479.slots.size ≤ ((8 : Int32)).toNatClampNeg) := inb_of So479 ⟨by decide, by decide⟩
  obtain ⟨T481, h481, X481, e481, W481, st481⟩ := stR X478 hx hZ e478 Ao479 (j := (8 : Int32)) hin480 rfl (Sto.ofV Ao479 qo479 O1 (Ins.self f447)) (g := (mkF m 61 #[.val (.int p0), .unset, .unset, .unset] [(.ref w_YXY_17), (.int (8 : Int32)), (.ref b1), (.ref b1)])) rfl rfl (hb hby at_61)
  have V481 : Arv Z h481 b1 k1 (.object "com/example/rotarium/rotarium/EulerSequence") (12 : Int32) [(.ref w_XYZ_1), (.ref w_XZY_3), (.ref w_YXZ_5), (.ref w_YZX_7), (.ref w_ZXY_9), (.ref w_ZYX_11), (.ref w_XYX_13), (.ref w_XZX_15), (.ref w_YXY_17), .null, .null, .null] .null := Arv.set Ao479 qo479 So479 No479 Ho479 Go479 rfl W481 8 rfl (Nat.le_of_ble_eq_true rfl)
  have f482 := (f430.wr W481)
  have f483 := (f431.wr W481)
  have f484 := (f432.wr W481)
  have f485 := (f433.wr W481)
  have f486 := (f434.wr W481)
  have f487 := (f435.wr W481)
  have f488 := (f436.wr W481)
  have f489 := (f437.wr W481)
  have f490 := (f438.wr W481)
  have f491 := (f439.wr W481)
  have f492 := (f440.wr W481)
  have f493 := (f441.wr W481)
  have f494 := (f442.wr W481)
  have f495 := (f443.wr W481)
  have f496 := (f444.wr W481)
  have f497 := (f445.wr W481)
  have f498 := (f446.wr W481)
  have f499 := (f447.wr W481)
  have f500 := (f448.wr W481)
  have f501 := (f449.wr W481)
  have f502 := (f450.wr W481)
  have f503 := (f451.wr W481)
  have f504 := (f452.wr W481)
  have f505 := (f453.wr W481)
  have f506 := (f454.other W481 (Or.inl ne50))
  have f507 := (f455.other W481 (Or.inl ne50))
  have f508 := (f456.other W481 (Or.inl ne53))
  have f509 := (f457.other W481 (Or.inl ne53))
  have f510 := (f458.other W481 (Or.inl ne52))
  have f511 := (f459.other W481 (Or.inl ne52))
  have f512 := (f460.other W481 (Or.inl ne57))
  have f513 := (f461.other W481 (Or.inl ne57))
  have f514 := (f462.other W481 (Or.inl ne61))
  have f515 := (f463.other W481 (Or.inl ne61))
  have f516 := (f464.other W481 (Or.inl ne54))
  have f517 := (f465.other W481 (Or.inl ne54))
  have f518 := (f466.other W481 (Or.inl ne58))
  have f519 := (f467.other W481 (Or.inl ne58))
  have f520 := (f468.other W481 (Or.inl ne51))
  have f521 := (f469.other W481 (Or.inl ne51))
  have f522 := (f470.other W481 (Or.inl ne60))
  have f523 := (f471.other W481 (Or.inl ne60))
  have f524 := (f472.other W481 (Or.inl ne59))
  have f525 := (f473.other W481 (Or.inl ne59))
  have f526 := (f474.other W481 (Or.inl ne56))
  have f527 := (f475.other W481 (Or.inl ne56))
  have f528 := (f476.other W481 (Or.inl ne55))
  have f529 := (f477.other W481 (Or.inl ne55))
  have N481 := Fr.snoc X481 N429 ge_b1
  have K481 : Keep h0 h481 [] := Keep.wr K429 W481 (Or.inr sz_b1)
  obtain ⟨T530, X530, e530, st530⟩ := getS2 X481 hx hZ hown (host := "") (Or.inl (hw _ (List.mem_of_getElem? (i := 22) rfl))) Via.refl e481 f500 (g := (mkF m 65 #[.val (.int p0), .unset, .unset, .unset] [(.int (9 : Int32)), (.ref b1), (.ref b1)])) rfl (hb hby at_65)
  obtain ⟨co531, Ao531, qo531, So531, No531, Ho531, Go531⟩ := id V481
  have hin532 : ¬ ((9 : Int32) < 0 ∨ co531.slots.size ≤ ((9 : Int32)).toNatClampNeg) := inb_of So531 ⟨by decide, by decide⟩
  obtain ⟨T533, h533, X533, e533, W533, st533⟩ := stR X530 hx hZ e530 Ao531 (j := (9 : Int32)) hin532 rfl (Sto.ofV Ao531 qo531 O1 (Ins.self f501)) (g := (mkF m 68 #[.val (.int p0), .unset, .unset, .unset] [(.ref w_YZY_19), (.int (9 : Int32)), (.ref b1), (.ref b1)])) rfl rfl (hb hby at_68)
  have V533 : Arv Z h533 b1 k1 (.object "com/example/rotarium/rotarium/EulerSequence") (12 : Int32) [(.ref w_XYZ_1), (.ref w_XZY_3), (.ref w_YXZ_5), (.ref w_YZX_7), (.ref w_ZXY_9), (.ref w_ZYX_11), (.ref w_XYX_13), (.ref w_XZX_15), (.ref w_YXY_17), (.ref w_YZY_19), .null, .null] .null := Arv.set Ao531 qo531 So531 No531 Ho531 Go531 rfl W533 9 rfl (Nat.le_of_ble_eq_true rfl)
  have f534 := (f482.wr W533)
  have f535 := (f483.wr W533)
  have f536 := (f484.wr W533)
  have f537 := (f485.wr W533)
  have f538 := (f486.wr W533)
  have f539 := (f487.wr W533)
  have f540 := (f488.wr W533)
  have f541 := (f489.wr W533)
  have f542 := (f490.wr W533)
  have f543 := (f491.wr W533)
  have f544 := (f492.wr W533)
  have f545 := (f493.wr W533)
  have f546 := (f494.wr W533)
  have f547 := (f495.wr W533)
  have f548 := (f496.wr W533)
  have f549 := (f497.wr W533)
  have f550 := (f498.wr W533)
  have f551 := (f499.wr W533)
  have f552 := (f500.wr W533)
  have f553 := (f501.wr W533)
  have f554 := (f502.wr W533)
  have f555 := (f503.wr W533)
  have f556 := (f504.wr W533)
  have f557 := (f505.wr W533)
  have f558 := (f506.other W533 (Or.inl ne50))
  have f559 := (f507.other W533 (Or.inl ne50))
  have f560 := (f508.other W533 (Or.inl ne53))
  have f561 := (f509.other W533 (Or.inl ne53))
  have f562 := (f510.other W533 (Or.inl ne52))
  have f563 := (f511.other W533 (Or.inl ne52))
  have f564 := (f512.other W533 (Or.inl ne57))
  have f565 := (f513.other W533 (Or.inl ne57))
  have f566 := (f514.other W533 (Or.inl ne61))
  have f567 := (f515.other W533 (Or.inl ne61))
  have f568 := (f516.other W533 (Or.inl ne54))
  have f569 := (f517.other W533 (Or.inl ne54))
  have f570 := (f518.other W533 (Or.inl ne58))
  have f571 := (f519.other W533 (Or.inl ne58))
  have f572 := (f520.other W533 (Or.inl ne51))
  have f573 := (f521.other W533 (Or.inl ne51))
  have f574 := (f522.other W533 (Or.inl ne60))
  have f575 := (f523.other W533 (Or.inl ne60))
  have f576 := (f524.other W533 (Or.inl ne59))
  have f577 := (f525.other W533 (Or.inl ne59))
  have f578 := (f526.other W533 (Or.inl ne56))
  have f579 := (f527.other W533 (Or.inl ne56))
  have f580 := (f528.other W533 (Or.inl ne55))
  have f581 := (f529.other W533 (Or.inl ne55))
  have N533 := Fr.snoc X533 N481 ge_b1
  have K533 : Keep h0 h533 [] := Keep.wr K481 W533 (Or.inr sz_b1)
  obtain ⟨T582, X582, e582, st582⟩ := getS2 X533 hx hZ hown (host := "") (Or.inl (hw _ (List.mem_of_getElem? (i := 24) rfl))) Via.refl e533 f554 (g := (mkF m 72 #[.val (.int p0), .unset, .unset, .unset] [(.int (10 : Int32)), (.ref b1), (.ref b1)])) rfl (hb hby at_72)
  obtain ⟨co583, Ao583, qo583, So583, No583, Ho583, Go583⟩ := id V533
  have hin584 : ¬ ((10 : Int32) < 0 ∨ co583.slots.size ≤ ((10 : Int32)).toNatClampNeg) := inb_of So583 ⟨by decide, by decide⟩
  obtain ⟨T585, h585, X585, e585, W585, st585⟩ := stR X582 hx hZ e582 Ao583 (j := (10 : Int32)) hin584 rfl (Sto.ofV Ao583 qo583 O1 (Ins.self f555)) (g := (mkF m 75 #[.val (.int p0), .unset, .unset, .unset] [(.ref w_ZXZ_21), (.int (10 : Int32)), (.ref b1), (.ref b1)])) rfl rfl (hb hby at_75)
  have V585 : Arv Z h585 b1 k1 (.object "com/example/rotarium/rotarium/EulerSequence") (12 : Int32) [(.ref w_XYZ_1), (.ref w_XZY_3), (.ref w_YXZ_5), (.ref w_YZX_7), (.ref w_ZXY_9), (.ref w_ZYX_11), (.ref w_XYX_13), (.ref w_XZX_15), (.ref w_YXY_17), (.ref w_YZY_19), (.ref w_ZXZ_21), .null] .null := Arv.set Ao583 qo583 So583 No583 Ho583 Go583 rfl W585 10 rfl (Nat.le_of_ble_eq_true rfl)
  have f586 := (f534.wr W585)
  have f587 := (f535.wr W585)
  have f588 := (f536.wr W585)
  have f589 := (f537.wr W585)
  have f590 := (f538.wr W585)
  have f591 := (f539.wr W585)
  have f592 := (f540.wr W585)
  have f593 := (f541.wr W585)
  have f594 := (f542.wr W585)
  have f595 := (f543.wr W585)
  have f596 := (f544.wr W585)
  have f597 := (f545.wr W585)
  have f598 := (f546.wr W585)
  have f599 := (f547.wr W585)
  have f600 := (f548.wr W585)
  have f601 := (f549.wr W585)
  have f602 := (f550.wr W585)
  have f603 := (f551.wr W585)
  have f604 := (f552.wr W585)
  have f605 := (f553.wr W585)
  have f606 := (f554.wr W585)
  have f607 := (f555.wr W585)
  have f608 := (f556.wr W585)
  have f609 := (f557.wr W585)
  have f610 := (f558.other W585 (Or.inl ne50))
  have f611 := (f559.other W585 (Or.inl ne50))
  have f612 := (f560.other W585 (Or.inl ne53))
  have f613 := (f561.other W585 (Or.inl ne53))
  have f614 := (f562.other W585 (Or.inl ne52))
  have f615 := (f563.other W585 (Or.inl ne52))
  have f616 := (f564.other W585 (Or.inl ne57))
  have f617 := (f565.other W585 (Or.inl ne57))
  have f618 := (f566.other W585 (Or.inl ne61))
  have f619 := (f567.other W585 (Or.inl ne61))
  have f620 := (f568.other W585 (Or.inl ne54))
  have f621 := (f569.other W585 (Or.inl ne54))
  have f622 := (f570.other W585 (Or.inl ne58))
  have f623 := (f571.other W585 (Or.inl ne58))
  have f624 := (f572.other W585 (Or.inl ne51))
  have f625 := (f573.other W585 (Or.inl ne51))
  have f626 := (f574.other W585 (Or.inl ne60))
  have f627 := (f575.other W585 (Or.inl ne60))
  have f628 := (f576.other W585 (Or.inl ne59))
  have f629 := (f577.other W585 (Or.inl ne59))
  have f630 := (f578.other W585 (Or.inl ne56))
  have f631 := (f579.other W585 (Or.inl ne56))
  have f632 := (f580.other W585 (Or.inl ne55))
  have f633 := (f581.other W585 (Or.inl ne55))
  have N585 := Fr.snoc X585 N533 ge_b1
  have K585 : Keep h0 h585 [] := Keep.wr K533 W585 (Or.inr sz_b1)
  obtain ⟨T634, X634, e634, st634⟩ := getS2 X585 hx hZ hown (host := "") (Or.inl (hw _ (List.mem_of_getElem? (i := 26) rfl))) Via.refl e585 f608 (g := (mkF m 79 #[.val (.int p0), .unset, .unset, .unset] [(.int (11 : Int32)), (.ref b1), (.ref b1)])) rfl (hb hby at_79)
  obtain ⟨co635, Ao635, qo635, So635, No635, Ho635, Go635⟩ := id V585
  have hin636 : ¬ ((11 : Int32) < 0 ∨ co635.slots.size ≤ ((11 : Int32)).toNatClampNeg) := inb_of So635 ⟨by decide, by decide⟩
  obtain ⟨T637, h637, X637, e637, W637, st637⟩ := stR X634 hx hZ e634 Ao635 (j := (11 : Int32)) hin636 rfl (Sto.ofV Ao635 qo635 O1 (Ins.self f609)) (g := (mkF m 82 #[.val (.int p0), .unset, .unset, .unset] [(.ref w_ZYZ_23), (.int (11 : Int32)), (.ref b1), (.ref b1)])) rfl rfl (hb hby at_82)
  have V637 : Arv Z h637 b1 k1 (.object "com/example/rotarium/rotarium/EulerSequence") (12 : Int32) [(.ref w_XYZ_1), (.ref w_XZY_3), (.ref w_YXZ_5), (.ref w_YZX_7), (.ref w_ZXY_9), (.ref w_ZYX_11), (.ref w_XYX_13), (.ref w_XZX_15), (.ref w_YXY_17), (.ref w_YZY_19), (.ref w_ZXZ_21), (.ref w_ZYZ_23)] .null := Arv.set Ao635 qo635 So635 No635 Ho635 Go635 rfl W637 11 rfl (Nat.le_of_ble_eq_true rfl)
  have f638 := (f586.wr W637)
  have f639 := (f587.wr W637)
  have f640 := (f588.wr W637)
  have f641 := (f589.wr W637)
  have f642 := (f590.wr W637)
  have f643 := (f591.wr W637)
  have f644 := (f592.wr W637)
  have f645 := (f593.wr W637)
  have f646 := (f594.wr W637)
  have f647 := (f595.wr W637)
  have f648 := (f596.wr W637)
  have f649 := (f597.wr W637)
  have f650 := (f598.wr W637)
  have f651 := (f599.wr W637)
  have f652 := (f600.wr W637)
  have f653 := (f601.wr W637)
  have f654 := (f602.wr W637)
  have f655 := (f603.wr W637)
  have f656 := (f604.wr W637)
  have f657 := (f605.wr W637)
  have f658 := (f606.wr W637)
  have f659 := (f607.wr W637)
  have f660 := (f608.wr W637)
  have f661 := (f609.wr W637)
  have f662 := (f610.other W637 (Or.inl ne50))
  have f663 := (f611.other W637 (Or.inl ne50))
  have f664 := (f612.other W637 (Or.inl ne53))
  have f665 := (f613.other W637 (Or.inl ne53))
  have f666 := (f614.other W637 (Or.inl ne52))
  have f667 := (f615.other W637 (Or.inl ne52))
  have f668 := (f616.other W637 (Or.inl ne57))
  have f669 := (f617.other W637 (Or.inl ne57))
  have f670 := (f618.other W637 (Or.inl ne61))
  have f671 := (f619.other W637 (Or.inl ne61))
  have f672 := (f620.other W637 (Or.inl ne54))
  have f673 := (f621.other W637 (Or.inl ne54))
  have f674 := (f622.other W637 (Or.inl ne58))
  have f675 := (f623.other W637 (Or.inl ne58))
  have f676 := (f624.other W637 (Or.inl ne51))
  have f677 := (f625.other W637 (Or.inl ne51))
  have f678 := (f626.other W637 (Or.inl ne60))
  have f679 := (f627.other W637 (Or.inl ne60))
  have f680 := (f628.other W637 (Or.inl ne59))
  have f681 := (f629.other W637 (Or.inl ne59))
  have f682 := (f630.other W637 (Or.inl ne56))
  have f683 := (f631.other W637 (Or.inl ne56))
  have f684 := (f632.other W637 (Or.inl ne55))
  have f685 := (f633.other W637 (Or.inl ne55))
  have N637 := Fr.snoc X637 N585 ge_b1
  have K637 : Keep h0 h637 [] := Keep.wr K585 W637 (Or.inr sz_b1)
  have pre686 : ∀ t, Steps p.tables e below (T637.setTop (mkF m 92 #[.val (.int p0), .val (.ref b1), .val (.int ((p0 &&& (2147483647 : Int32)) % (12 : Int32))), .unset] [])) t → Steps p.tables e below (s₁.setTop (entryFrame m #[(.int p0)] maxLocals)) t := fun t kt => pre0 t (by
      show Steps p.tables e below (s₁.setTop (mkF m 0 #[.val (.int p0), .unset, .unset, .unset] [])) _
      refine XS.bipush X0.here hx rfl (hb hby at_0) ?_
      show Steps p.tables e below (s₁.setTop (mkF m 2 #[.val (.int p0), .unset, .unset, .unset] [(.int (12 : Int32))])) _
      refine st1 _ ?_
      show Steps p.tables e below (T1.setTop (mkF m 5 #[.val (.int p0), .unset, .unset, .unset] [(.ref b1)])) _
      refine XS.dup X1.here hx rfl (hb hby at_5) rfl rfl ?_
      show Steps p.tables e below (T1.setTop (mkF m 6 #[.val (.int p0), .unset, .unset, .unset] [(.ref b1), (.ref b1)])) _
      refine XS.iconst X1.here hx rfl (hb hby at_6) ?_
      show Steps p.tables e below (T1.setTop (mkF m 7 #[.val (.int p0), .unset, .unset, .unset] [(.int (0 : Int32)), (.ref b1), (.ref b1)])) _
      refine st62 _ ?_
      show Steps p.tables e below (T62.setTop (mkF m 10 #[.val (.int p0), .unset, .unset, .unset] [(.ref w_XYZ_1), (.int (0 : Int32)), (.ref b1), (.ref b1)])) _
      refine st65 _ ?_
      show Steps p.tables e below (T65.setTop (mkF m 11 #[.val (.int p0), .unset, .unset, .unset] [(.ref b1)])) _
      refine XS.dup X65.here hx rfl (hb hby at_11) rfl rfl ?_
      show Steps p.tables e below (T65.setTop (mkF m 12 #[.val (.int p0), .unset, .unset, .unset] [(.ref b1), (.ref b1)])) _
      refine XS.iconst X65.here hx rfl (hb hby at_12) ?_
      show Steps p.tables e below (T65.setTop (mkF m 13 #[.val (.int p0), .unset, .unset, .unset] [(.int (1 : Int32)), (.ref b1), (.ref b1)])) _
      refine st114 _ ?_
      show Steps p.tables e below (T114.setTop (mkF m 16 #[.val (.int p0), .unset, .unset, .unset] [(.ref w_XZY_3), (.int (1 : Int32)), (.ref b1), (.ref b1)])) _
      refine st117 _ ?_
      show Steps p.tables e below (T117.setTop (mkF m 17 #[.val (.int p0), .unset, .unset, .unset] [(.ref b1)])) _
      refine XS.dup X117.here hx rfl (hb hby at_17) rfl rfl ?_
      show Steps p.tables e below (T117.setTop (mkF m 18 #[.val (.int p0), .unset, .unset, .unset] [(.ref b1), (.ref b1)])) _
      refine XS.iconst X117.here hx rfl (hb hby at_18) ?_
      show Steps p.tables e below (T117.setTop (mkF m 19 #[.val (.int p0), .unset, .unset, .unset] [(.int (2 : Int32)), (.ref b1), (.ref b1)])) _
      refine st166 _ ?_
      show Steps p.tables e below (T166.setTop (mkF m 22 #[.val (.int p0), .unset, .unset, .unset] [(.ref w_YXZ_5), (.int (2 : Int32)), (.ref b1), (.ref b1)])) _
      refine st169 _ ?_
      show Steps p.tables e below (T169.setTop (mkF m 23 #[.val (.int p0), .unset, .unset, .unset] [(.ref b1)])) _
      refine XS.dup X169.here hx rfl (hb hby at_23) rfl rfl ?_
      show Steps p.tables e below (T169.setTop (mkF m 24 #[.val (.int p0), .unset, .unset, .unset] [(.ref b1), (.ref b1)])) _
      refine XS.iconst X169.here hx rfl (hb hby at_24) ?_
      show Steps p.tables e below (T169.setTop (mkF m 25 #[.val (.int p0), .unset, .unset, .unset] [(.int (3 : Int32)), (.ref b1), (.ref b1)])) _
      refine st218 _ ?_
      show Steps p.tables e below (T218.setTop (mkF m 28 #[.val (.int p0), .unset, .unset, .unset] [(.ref w_YZX_7), (.int (3 : Int32)), (.ref b1), (.ref b1)])) _
      refine st221 _ ?_
      show Steps p.tables e below (T221.setTop (mkF m 29 #[.val (.int p0), .unset, .unset, .unset] [(.ref b1)])) _
      refine XS.dup X221.here hx rfl (hb hby at_29) rfl rfl ?_
      show Steps p.tables e below (T221.setTop (mkF m 30 #[.val (.int p0), .unset, .unset, .unset] [(.ref b1), (.ref b1)])) _
      refine XS.iconst X221.here hx rfl (hb hby at_30) ?_
      show Steps p.tables e below (T221.setTop (mkF m 31 #[.val (.int p0), .unset, .unset, .unset] [(.int (4 : Int32)), (.ref b1), (.ref b1)])) _
      refine st270 _ ?_
      show Steps p.tables e below (T270.setTop (mkF m 34 #[.val (.int p0), .unset, .unset, .unset] [(.ref w_ZXY_9), (.int (4 : Int32)), (.ref b1), (.ref b1)])) _
      refine st273 _ ?_
      show Steps p.tables e below (T273.setTop (mkF m 35 #[.val (.int p0), .unset, .unset, .unset] [(.ref b1)])) _
      refine XS.dup X273.here hx rfl (hb hby at_35) rfl rfl ?_
      show Steps p.tables e below (T273.setTop (mkF m 36 #[.val (.int p0), .unset, .unset, .unset] [(.ref b1), (.ref b1)])) _
      refine XS.iconst X273.here hx rfl (hb hby at_36) ?_
      show Steps p.tables e below (T273.setTop (mkF m 37 #[.val (.int p0), .unset, .unset, .unset] [(.int (5 : Int32)), (.ref b1), (.ref b1)])) _
      refine st322 _ ?_
      show Steps p.tables e below (T322.setTop (mkF m 40 #[.val (.int p0), .unset, .unset, .unset] [(.ref w_ZYX_11), (.int (5 : Int32)), (.ref b1), (.ref b1)])) _
      refine st325 _ ?_
      show Steps p.tables e below (T325.setTop (mkF m 41 #[.val (.int p0), .unset, .unset, .unset] [(.ref b1)])) _
      refine XS.dup X325.here hx rfl (hb hby at_41) rfl rfl ?_
      show Steps p.tables e below (T325.setTop (mkF m 42 #[.val (.int p0), .unset, .unset, .unset] [(.ref b1), (.ref b1)])) _
      refine XS.bipush X325.here hx rfl (hb hby at_42) ?_
      show Steps p.tables e below (T325.setTop (mkF m 44 #[.val (.int p0), .unset, .unset, .unset] [(.int (6 : Int32)), (.ref b1), (.ref b1)])) _
      refine st374 _ ?_
      show Steps p.tables e below (T374.setTop (mkF m 47 #[.val (.int p0), .unset, .unset, .unset] [(.ref w_XYX_13), (.int (6 : Int32)), (.ref b1), (.ref b1)])) _
      refine st377 _ ?_
      show Steps p.tables e below (T377.setTop (mkF m 48 #[.val (.int p0), .unset, .unset, .unset] [(.ref b1)])) _
      refine XS.dup X377.here hx rfl (hb hby at_48) rfl rfl ?_
      show Steps p.tables e below (T377.setTop (mkF m 49 #[.val (.int p0), .unset, .unset, .unset] [(.ref b1), (.ref b1)])) _
      refine XS.bipush X377.here hx rfl (hb hby at_49) ?_
      show Steps p.tables e below (T377.setTop (mkF m 51 #[.val (.int p0), .unset, .unset, .unset] [(.int (7 : Int32)), (.ref b1), (.ref b1)])) _
      refine st426 _ ?_
      show Steps p.tables e below (T426.setTop (mkF m 54 #[.val (.int p0), .unset, .unset, .unset] [(.ref w_XZX_15), (.int (7 : Int32)), (.ref b1), (.ref b1)])) _
      refine st429 _ ?_
      show Steps p.tables e below (T429.setTop (mkF m 55 #[.val (.int p0), .unset, .unset, .unset] [(.ref b1)])) _
      refine XS.dup X429.here hx rfl (hb hby at_55) rfl rfl ?_
      show Steps p.tables e below (T429.setTop (mkF m 56 #[.val (.int p0), .unset, .unset, .unset] [(.ref b1), (.ref b1)])) _
      refine XS.bipush X429.here hx rfl (hb hby at_56) ?_
      show Steps p.tables e below (T429.setTop (mkF m 58 #[.val (.int p0), .unset, .unset, .unset] [(.int (8 : Int32)), (.ref b1), (.ref b1)])) _
      refine st478 _ ?_
      show Steps p.tables e below (T478.setTop (mkF m 61 #[.val (.int p0), .unset, .unset, .unset] [(.ref w_YXY_17), (.int (8 : Int32)), (.ref b1), (.ref b1)])) _
      refine st481 _ ?_
      show Steps p.tables e below (T481.setTop (mkF m 62 #[.val (.int p0), .unset, .unset, .unset] [(.ref b1)])) _
      refine XS.dup X481.here hx rfl (hb hby at_62) rfl rfl ?_
      show Steps p.tables e below (T481.setTop (mkF m 63 #[.val (.int p0), .unset, .unset, .unset] [(.ref b1), (.ref b1)])) _
      refine XS.bipush X481.here hx rfl (hb hby at_63) ?_
      show Steps p.tables e below (T481.setTop (mkF m 65 #[.val (.int p0), .unset, .unset, .unset] [(.int (9 : Int32)), (.ref b1), (.ref b1)])) _
      refine st530 _ ?_
      show Steps p.tables e below (T530.setTop (mkF m 68 #[.val (.int p0), .unset, .unset, .unset] [(.ref w_YZY_19), (.int (9 : Int32)), (.ref b1), (.ref b1)])) _
      refine st533 _ ?_
      show Steps p.tables e below (T533.setTop (mkF m 69 #[.val (.int p0), .unset, .unset, .unset] [(.ref b1)])) _
      refine XS.dup X533.here hx rfl (hb hby at_69) rfl rfl ?_
      show Steps p.tables e below (T533.setTop (mkF m 70 #[.val (.int p0), .unset, .unset, .unset] [(.ref b1), (.ref b1)])) _
      refine XS.bipush X533.here hx rfl (hb hby at_70) ?_
      show Steps p.tables e below (T533.setTop (mkF m 72 #[.val (.int p0), .unset, .unset, .unset] [(.int (10 : Int32)), (.ref b1), (.ref b1)])) _
      refine st582 _ ?_
      show Steps p.tables e below (T582.setTop (mkF m 75 #[.val (.int p0), .unset, .unset, .unset] [(.ref w_ZXZ_21), (.int (10 : Int32)), (.ref b1), (.ref b1)])) _
      refine st585 _ ?_
      show Steps p.tables e below (T585.setTop (mkF m 76 #[.val (.int p0), .unset, .unset, .unset] [(.ref b1)])) _
      refine XS.dup X585.here hx rfl (hb hby at_76) rfl rfl ?_
      show Steps p.tables e below (T585.setTop (mkF m 77 #[.val (.int p0), .unset, .unset, .unset] [(.ref b1), (.ref b1)])) _
      refine XS.bipush X585.here hx rfl (hb hby at_77) ?_
      show Steps p.tables e below (T585.setTop (mkF m 79 #[.val (.int p0), .unset, .unset, .unset] [(.int (11 : Int32)), (.ref b1), (.ref b1)])) _
      refine st634 _ ?_
      show Steps p.tables e below (T634.setTop (mkF m 82 #[.val (.int p0), .unset, .unset, .unset] [(.ref w_ZYZ_23), (.int (11 : Int32)), (.ref b1), (.ref b1)])) _
      refine st637 _ ?_
      show Steps p.tables e below (T637.setTop (mkF m 83 #[.val (.int p0), .unset, .unset, .unset] [(.ref b1)])) _
      refine XS.astoreN X637.here hx rfl (hb hby at_83) rfl rfl (l' := #[.val (.int p0), .val (.ref b1), .unset, .unset]) rfl ?_
      show Steps p.tables e below (T637.setTop (mkF m 84 #[.val (.int p0), .val (.ref b1), .unset, .unset] [])) _
      refine XS.iloadN X637.here hx rfl (hb hby at_84) rfl ?_
      show Steps p.tables e below (T637.setTop (mkF m 85 #[.val (.int p0), .val (.ref b1), .unset, .unset] [(.int p0)])) _
      refine X637.ldcInt hx hown (mvT hZ (hw _ (List.mem_of_getElem? (i := 28) rfl))) (g := (mkF m 85 #[.val (.int p0), .val (.ref b1), .unset, .unset] [(.int p0)])) rfl (hb hby at_85) _ ?_
      show Steps p.tables e below (T637.setTop (mkF m 87 #[.val (.int p0), .val (.ref b1), .unset, .unset] [(.int (2147483647 : Int32)), (.int p0)])) _
      refine XS.iand X637.here hx rfl (hb hby at_87) rfl ?_
      show Steps p.tables e below (T637.setTop (mkF m 88 #[.val (.int p0), .val (.ref b1), .unset, .unset] [(.int (p0 &&& (2147483647 : Int32)))])) _
      refine XS.bipush X637.here hx rfl (hb hby at_88) ?_
      show Steps p.tables e below (T637.setTop (mkF m 90 #[.val (.int p0), .val (.ref b1), .unset, .unset] [(.int (12 : Int32)), (.int (p0 &&& (2147483647 : Int32)))])) _
      refine iremM X637 hx rfl (hb hby at_90) rfl (by decide) ?_
      show Steps p.tables e below (T637.setTop (mkF m 91 #[.val (.int p0), .val (.ref b1), .unset, .unset] [(.int ((p0 &&& (2147483647 : Int32)) % (12 : Int32)))])) _
      refine XS.istoreN X637.here hx rfl (hb hby at_91) rfl (l' := #[.val (.int p0), .val (.ref b1), .val (.int ((p0 &&& (2147483647 : Int32)) % (12 : Int32))), .unset]) rfl ?_
      exact kt)
  obtain ⟨i, hi⟩ : ∃ z, z = ((p0 &&& (2147483647 : Int32)) % (12 : Int32)) := ⟨_, rfl⟩
  have hr := own_dis (own_rng p0 12 12 rfl (by decide))
  rw [← hi] at pre686 hr
  rcases hr with rfl | rfl | rfl | rfl | rfl | rfl | rfl | rfl | rfl | rfl | rfl | rfl
  · skip
    obtain ⟨co687, Ao687, qo687, So687, No687, Ho687, Go687⟩ := id V637
    have hin688 : ¬ ((0 : Int32) < 0 ∨ co687.slots.size ≤ ((0 : Int32)).toNatClampNeg) := inb_of So687 ⟨by decide, by decide⟩
    have hat689 : co687.slots[((0 : Int32)).toNatClampNeg]? = some (.ref w_XYZ_1) := Has.at Ho687 hin688 rfl
    obtain ⟨cq690, kq690, q690a, q690b, q690c⟩ := isOf hZ e637 f639
    obtain ⟨_, _, ⟨T690, L690, k690, n690⟩, -, X690, ⟨Lc690, hQ690, l690, y690, z690⟩, st690⟩ := X637.virtualBack hx (y := (⟨"com/example/rotarium/rotarium/EulerSequence", "isProperEuler", "()Z"⟩ : MethodName)) (z := (⟨"com/example/rotarium/rotarium/EulerSequence", "isProperEuler", "()Z"⟩ : MethodName)) hown (mvT hZ (hw _ (List.mem_of_getElem? (i := 29) rfl))) (mvT hZ (hw _ (List.mem_of_getElem? (i := 30) rfl))) (notFace_of_selects (args := #[]) (mvT hZ (hw _ (List.mem_of_getElem? (i := 32) rfl)))) (mvT hZ (hw _ (List.mem_of_getElem? (i := 32) rfl))) (mvT hZ (hw _ (List.mem_of_getElem? (i := 31) rfl))) (by decide) (backOf (W := 0) (rm1 l Z aw hw [] w_XYZ_1 (0 : Int32) (2 : Int32) h637 n0 (Nat.le_trans (Nat.le_trans (Nat.le_trans (Nat.le_trans (Nat.le_trans (Nat.le_trans (Nat.le_trans (Nat.le_trans (Nat.le_trans (Nat.le_trans (Nat.le_trans (Nat.le_trans (Nat.le_trans Z0 E1.1) (Keep.of_wr W65).1) (Keep.of_wr W117).1) (Keep.of_wr W169).1) (Keep.of_wr W221).1) (Keep.of_wr W273).1) (Keep.of_wr W325).1) (Keep.of_wr W377).1) (Keep.of_wr W429).1) (Keep.of_wr W481).1) (Keep.of_wr W533).1) (Keep.of_wr W585).1) (Keep.of_wr W637).1) f662 f663) hZ (hw _ (List.mem_of_getElem? (i := 33) rfl)) (hw _ (List.mem_of_getElem? (i := 3) rfl)) (by decide) (by decide)) q690a q690c (g := (mkF m 107 #[.val (.int p0), .val (.ref b1), .val (.int (0 : Int32)), .val (.int (0 : Int32))] [(.ref w_XYZ_1)])) rfl (by rw [hml]; rfl) (Steps.refl _) (argsL := []) (rest := []) (lenOf pd_0 rfl) rfl (by show 2 * 0 + _ ≤ _; exact Nat.le_of_eq rfl) (hb hby at_107) (fun _ _ => ⟨rfl, e637, (by decide : 1 + 0 ≤ _), (by decide : 12 + 0 ≤ _)⟩)
    dsimp only [Pt.U, Pt.locs, Pt.cells, Pt.slots] at X690 l690 y690 z690 st690 hQ690
    subst l690 y690 z690
    obtain ⟨⟨r691, rfl, Pr691⟩, Nq690, e690⟩ := hQ690
    have N690 := Fr.app N637 Nq690
    have pre692 : ∀ t, Steps p.tables e below (T690.setTop (mkF m 110 #[.val (.int p0), .val (.ref b1), .val (.int (0 : Int32)), .val (.int (0 : Int32))] [(.int r691)])) t → Steps p.tables e below (s₁.setTop (entryFrame m #[(.int p0)] maxLocals)) t := fun t kt => pre686 t (by
        show Steps p.tables e below (T637.setTop (mkF m 92 #[.val (.int p0), .val (.ref b1), .val (.int (0 : Int32)), .unset] [])) _
        refine XS.iloadN X637.here hx rfl (hb hby at_92) rfl ?_
        show Steps p.tables e below (T637.setTop (mkF m 93 #[.val (.int p0), .val (.ref b1), .val (.int (0 : Int32)), .unset] [(.int (0 : Int32))])) _
        refine XS.bipush X637.here hx rfl (hb hby at_93) ?_
        show Steps p.tables e below (T637.setTop (mkF m 95 #[.val (.int p0), .val (.ref b1), .val (.int (0 : Int32)), .unset] [(.int (6 : Int32)), (.int (0 : Int32))])) _
        refine XS.icmpYes X637.here hx rfl (pc0 := 95) (pc' := 102) rfl (hb hby at_95) rfl (tlt (by decide : (0 : Int32) < (6 : Int32))).1 (by decide) (by decide) ?_
        show Steps p.tables e below (T637.setTop (mkF m 102 #[.val (.int p0), .val (.ref b1), .val (.int (0 : Int32)), .unset] [])) _
        refine XS.iconst X637.here hx rfl (hb hby at_102) ?_
        show Steps p.tables e below (T637.setTop (mkF m 103 #[.val (.int p0), .val (.ref b1), .val (.int (0 : Int32)), .unset] [(.int (0 : Int32))])) _
        refine XS.istoreN X637.here hx rfl (hb hby at_103) rfl (l' := #[.val (.int p0), .val (.ref b1), .val (.int (0 : Int32)), .val (.int (0 : Int32))]) rfl ?_
        show Steps p.tables e below (T637.setTop (mkF m 104 #[.val (.int p0), .val (.ref b1), .val (.int (0 : Int32)), .val (.int (0 : Int32))] [])) _
        refine XS.aloadN X637.here hx rfl (hb hby at_104) rfl rfl ?_
        show Steps p.tables e below (T637.setTop (mkF m 105 #[.val (.int p0), .val (.ref b1), .val (.int (0 : Int32)), .val (.int (0 : Int32))] [(.ref b1)])) _
        refine XS.iloadN X637.here hx rfl (hb hby at_105) rfl ?_
        show Steps p.tables e below (T637.setTop (mkF m 106 #[.val (.int p0), .val (.ref b1), .val (.int (0 : Int32)), .val (.int (0 : Int32))] [(.int (0 : Int32)), (.ref b1)])) _
        refine X637.aaload hx (j := (0 : Int32)) (v := (.ref w_XYZ_1)) (by rw [e637]; exact Ao687.1) (State.isArrayOf_alike hZ.alike Ao687.2.1) rfl Ao687.2.2 hin688 hat689 (g := (mkF m 106 #[.val (.int p0), .val (.ref b1), .val (.int (0 : Int32)), .val (.int (0 : Int32))] [(.int (0 : Int32)), (.ref b1)])) rfl rfl (hb hby at_106) _ ?_
        show Steps p.tables e below (T637.setTop (mkF m 107 #[.val (.int p0), .val (.ref b1), .val (.int (0 : Int32)), .val (.int (0 : Int32))] [(.ref w_XYZ_1)])) _
        refine st690.trans ?_
        exact kt)
    obtain rfl : (0 : Int32) = r691 := Pr691.2 (by decide)
    have pre693 : ∀ t, Steps p.tables e below (T690.setTop (mkF m 119 #[.val (.int p0), .val (.ref b1), .val (.int (0 : Int32)), .val (.int (0 : Int32))] [(.int (1 : Int32))])) t → Steps p.tables e below (s₁.setTop (entryFrame m #[(.int p0)] maxLocals)) t := fun t kt => pre692 t (by
        show Steps p.tables e below (T690.setTop (mkF m 110 #[.val (.int p0), .val (.ref b1), .val (.int (0 : Int32)), .val (.int (0 : Int32))] [(.int (0 : Int32))])) _
        refine XS.iloadN X690.here hx rfl (hb hby at_110) rfl ?_
        show Steps p.tables e below (T690.setTop (mkF m 111 #[.val (.int p0), .val (.ref b1), .val (.int (0 : Int32)), .val (.int (0 : Int32))] [(.int (0 : Int32)), (.int (0 : Int32))])) _
        refine XS.icmpNo X690.here hx rfl (hb hby at_111) rfl (teq (rfl : (0 : Int32) = (0 : Int32))).2 ?_
        show Steps p.tables e below (T690.setTop (mkF m 114 #[.val (.int p0), .val (.ref b1), .val (.int (0 : Int32)), .val (.int (0 : Int32))] [])) _
        refine XS.iconst X690.here hx rfl (hb hby at_114) ?_
        show Steps p.tables e below (T690.setTop (mkF m 115 #[.val (.int p0), .val (.ref b1), .val (.int (0 : Int32)), .val (.int (0 : Int32))] [(.int (1 : Int32))])) _
        refine XS.goto X690.here hx rfl (pc0 := 115) (pc' := 119) rfl (hb hby at_115) (by decide) (by decide) ?_
        exact kt)
    obtain ⟨fs, hr, hrun, hended, hW, hsame⟩ := X690.leave (v := some (.int (1 : Int32))) (fun h => by rw [Bd.returns] at h; cases h)
    refine ⟨_, _, pre693 _ ?_, hrun, hended, _, _, rfl, ?_, ⟨_, rfl⟩, hW, hsame.mono (by decide) (by decide)⟩
    · show Steps p.tables e below (T690.setTop (mkF m 119 #[.val (.int p0), .val (.ref b1), .val (.int (0 : Int32)), .val (.int (0 : Int32))] [(.int (1 : Int32))])) _
      exact retN X690 hx (t := .boolean) Bd.returns (by simp) (hb hby at_119) hr
    · show Q0 Z _ _ _ _ _ _ _ _ _ _ _ _ _ h0 n0 _ T690.heap _
      rw [e690]
      exact ⟨rfl, N690, trivial⟩
  · skip
    obtain ⟨co694, Ao694, qo694, So694, No694, Ho694, Go694⟩ := id V637
    have hin695 : ¬ ((1 : Int32) < 0 ∨ co694.slots.size ≤ ((1 : Int32)).toNatClampNeg) := inb_of So694 ⟨by decide, by decide⟩
    have hat696 : co694.slots[((1 : Int32)).toNatClampNeg]? = some (.ref w_XZY_3) := Has.at Ho694 hin695 rfl
    obtain ⟨cq697, kq697, q697a, q697b, q697c⟩ := isOf hZ e637 f641
    obtain ⟨_, _, ⟨T697, L697, k697, n697⟩, -, X697, ⟨Lc697, hQ697, l697, y697, z697⟩, st697⟩ := X637.virtualBack hx (y := (⟨"com/example/rotarium/rotarium/EulerSequence", "isProperEuler", "()Z"⟩ : MethodName)) (z := (⟨"com/example/rotarium/rotarium/EulerSequence", "isProperEuler", "()Z"⟩ : MethodName)) hown (mvT hZ (hw _ (List.mem_of_getElem? (i := 29) rfl))) (mvT hZ (hw _ (List.mem_of_getElem? (i := 30) rfl))) (notFace_of_selects (args := #[]) (mvT hZ (hw _ (List.mem_of_getElem? (i := 32) rfl)))) (mvT hZ (hw _ (List.mem_of_getElem? (i := 32) rfl))) (mvT hZ (hw _ (List.mem_of_getElem? (i := 31) rfl))) (by decide) (backOf (W := 0) (rm1 l Z aw hw [] w_XZY_3 (0 : Int32) (1 : Int32) h637 n0 (Nat.le_trans (Nat.le_trans (Nat.le_trans (Nat.le_trans (Nat.le_trans (Nat.le_trans (Nat.le_trans (Nat.le_trans (Nat.le_trans (Nat.le_trans (Nat.le_trans (Nat.le_trans (Nat.le_trans Z0 E1.1) (Keep.of_wr W65).1) (Keep.of_wr W117).1) (Keep.of_wr W169).1) (Keep.of_wr W221).1) (Keep.of_wr W273).1) (Keep.of_wr W325).1) (Keep.of_wr W377).1) (Keep.of_wr W429).1) (Keep.of_wr W481).1) (Keep.of_wr W533).1) (Keep.of_wr W585).1) (Keep.of_wr W637).1) f676 f677) hZ (hw _ (List.mem_of_getElem? (i := 33) rfl)) (hw _ (List.mem_of_getElem? (i := 3) rfl)) (by decide) (by decide)) q697a q697c (g := (mkF m 107 #[.val (.int p0), .val (.ref b1), .val (.int (1 : Int32)), .val (.int (0 : Int32))] [(.ref w_XZY_3)])) rfl (by rw [hml]; rfl) (Steps.refl _) (argsL := []) (rest := []) (lenOf pd_0 rfl) rfl (by show 2 * 0 + _ ≤ _; exact Nat.le_of_eq rfl) (hb hby at_107) (fun _ _ => ⟨rfl, e637, (by decide : 1 + 0 ≤ _), (by decide : 12 + 0 ≤ _)⟩)
    dsimp only [Pt.U, Pt.locs, Pt.cells, Pt.slots] at X697 l697 y697 z697 st697 hQ697
    subst l697 y697 z697
    obtain ⟨⟨r698, rfl, Pr698⟩, Nq697, e697⟩ := hQ697
    have N697 := Fr.app N637 Nq697
    have pre699 : ∀ t, Steps p.tables e below (T697.setTop (mkF m 110 #[.val (.int p0), .val (.ref b1), .val (.int (1 : Int32)), .val (.int (0 : Int32))] [(.int r698)])) t → Steps p.tables e below (s₁.setTop (entryFrame m #[(.int p0)] maxLocals)) t := fun t kt => pre686 t (by
        show Steps p.tables e below (T637.setTop (mkF m 92 #[.val (.int p0), .val (.ref b1), .val (.int (1 : Int32)), .unset] [])) _
        refine XS.iloadN X637.here hx rfl (hb hby at_92) rfl ?_
        show Steps p.tables e below (T637.setTop (mkF m 93 #[.val (.int p0), .val (.ref b1), .val (.int (1 : Int32)), .unset] [(.int (1 : Int32))])) _
        refine XS.bipush X637.here hx rfl (hb hby at_93) ?_
        show Steps p.tables e below (T637.setTop (mkF m 95 #[.val (.int p0), .val (.ref b1), .val (.int (1 : Int32)), .unset] [(.int (6 : Int32)), (.int (1 : Int32))])) _
        refine XS.icmpYes X637.here hx rfl (pc0 := 95) (pc' := 102) rfl (hb hby at_95) rfl (tlt (by decide : (1 : Int32) < (6 : Int32))).1 (by decide) (by decide) ?_
        show Steps p.tables e below (T637.setTop (mkF m 102 #[.val (.int p0), .val (.ref b1), .val (.int (1 : Int32)), .unset] [])) _
        refine XS.iconst X637.here hx rfl (hb hby at_102) ?_
        show Steps p.tables e below (T637.setTop (mkF m 103 #[.val (.int p0), .val (.ref b1), .val (.int (1 : Int32)), .unset] [(.int (0 : Int32))])) _
        refine XS.istoreN X637.here hx rfl (hb hby at_103) rfl (l' := #[.val (.int p0), .val (.ref b1), .val (.int (1 : Int32)), .val (.int (0 : Int32))]) rfl ?_
        show Steps p.tables e below (T637.setTop (mkF m 104 #[.val (.int p0), .val (.ref b1), .val (.int (1 : Int32)), .val (.int (0 : Int32))] [])) _
        refine XS.aloadN X637.here hx rfl (hb hby at_104) rfl rfl ?_
        show Steps p.tables e below (T637.setTop (mkF m 105 #[.val (.int p0), .val (.ref b1), .val (.int (1 : Int32)), .val (.int (0 : Int32))] [(.ref b1)])) _
        refine XS.iloadN X637.here hx rfl (hb hby at_105) rfl ?_
        show Steps p.tables e below (T637.setTop (mkF m 106 #[.val (.int p0), .val (.ref b1), .val (.int (1 : Int32)), .val (.int (0 : Int32))] [(.int (1 : Int32)), (.ref b1)])) _
        refine X637.aaload hx (j := (1 : Int32)) (v := (.ref w_XZY_3)) (by rw [e637]; exact Ao694.1) (State.isArrayOf_alike hZ.alike Ao694.2.1) rfl Ao694.2.2 hin695 hat696 (g := (mkF m 106 #[.val (.int p0), .val (.ref b1), .val (.int (1 : Int32)), .val (.int (0 : Int32))] [(.int (1 : Int32)), (.ref b1)])) rfl rfl (hb hby at_106) _ ?_
        show Steps p.tables e below (T637.setTop (mkF m 107 #[.val (.int p0), .val (.ref b1), .val (.int (1 : Int32)), .val (.int (0 : Int32))] [(.ref w_XZY_3)])) _
        refine st697.trans ?_
        exact kt)
    obtain rfl : (0 : Int32) = r698 := Pr698.2 (by decide)
    have pre700 : ∀ t, Steps p.tables e below (T697.setTop (mkF m 119 #[.val (.int p0), .val (.ref b1), .val (.int (1 : Int32)), .val (.int (0 : Int32))] [(.int (1 : Int32))])) t → Steps p.tables e below (s₁.setTop (entryFrame m #[(.int p0)] maxLocals)) t := fun t kt => pre699 t (by
        show Steps p.tables e below (T697.setTop (mkF m 110 #[.val (.int p0), .val (.ref b1), .val (.int (1 : Int32)), .val (.int (0 : Int32))] [(.int (0 : Int32))])) _
        refine XS.iloadN X697.here hx rfl (hb hby at_110) rfl ?_
        show Steps p.tables e below (T697.setTop (mkF m 111 #[.val (.int p0), .val (.ref b1), .val (.int (1 : Int32)), .val (.int (0 : Int32))] [(.int (0 : Int32)), (.int (0 : Int32))])) _
        refine XS.icmpNo X697.here hx rfl (hb hby at_111) rfl (teq (rfl : (0 : Int32) = (0 : Int32))).2 ?_
        show Steps p.tables e below (T697.setTop (mkF m 114 #[.val (.int p0), .val (.ref b1), .val (.int (1 : Int32)), .val (.int (0 : Int32))] [])) _
        refine XS.iconst X697.here hx rfl (hb hby at_114) ?_
        show Steps p.tables e below (T697.setTop (mkF m 115 #[.val (.int p0), .val (.ref b1), .val (.int (1 : Int32)), .val (.int (0 : Int32))] [(.int (1 : Int32))])) _
        refine XS.goto X697.here hx rfl (pc0 := 115) (pc' := 119) rfl (hb hby at_115) (by decide) (by decide) ?_
        exact kt)
    obtain ⟨fs, hr, hrun, hended, hW, hsame⟩ := X697.leave (v := some (.int (1 : Int32))) (fun h => by rw [Bd.returns] at h; cases h)
    refine ⟨_, _, pre700 _ ?_, hrun, hended, _, _, rfl, ?_, ⟨_, rfl⟩, hW, hsame.mono (by decide) (by decide)⟩
    · show Steps p.tables e below (T697.setTop (mkF m 119 #[.val (.int p0), .val (.ref b1), .val (.int (1 : Int32)), .val (.int (0 : Int32))] [(.int (1 : Int32))])) _
      exact retN X697 hx (t := .boolean) Bd.returns (by simp) (hb hby at_119) hr
    · show Q0 Z _ _ _ _ _ _ _ _ _ _ _ _ _ h0 n0 _ T697.heap _
      rw [e697]
      exact ⟨rfl, N697, trivial⟩
  · skip
    obtain ⟨co701, Ao701, qo701, So701, No701, Ho701, Go701⟩ := id V637
    have hin702 : ¬ ((2 : Int32) < 0 ∨ co701.slots.size ≤ ((2 : Int32)).toNatClampNeg) := inb_of So701 ⟨by decide, by decide⟩
    have hat703 : co701.slots[((2 : Int32)).toNatClampNeg]? = some (.ref w_YXZ_5) := Has.at Ho701 hin702 rfl
    obtain ⟨cq704, kq704, q704a, q704b, q704c⟩ := isOf hZ e637 f643
    obtain ⟨_, _, ⟨T704, L704, k704, n704⟩, -, X704, ⟨Lc704, hQ704, l704, y704, z704⟩, st704⟩ := X637.virtualBack hx (y := (⟨"com/example/rotarium/rotarium/EulerSequence", "isProperEuler", "()Z"⟩ : MethodName)) (z := (⟨"com/example/rotarium/rotarium/EulerSequence", "isProperEuler", "()Z"⟩ : MethodName)) hown (mvT hZ (hw _ (List.mem_of_getElem? (i := 29) rfl))) (mvT hZ (hw _ (List.mem_of_getElem? (i := 30) rfl))) (notFace_of_selects (args := #[]) (mvT hZ (hw _ (List.mem_of_getElem? (i := 32) rfl)))) (mvT hZ (hw _ (List.mem_of_getElem? (i := 32) rfl))) (mvT hZ (hw _ (List.mem_of_getElem? (i := 31) rfl))) (by decide) (backOf (W := 0) (rm1 l Z aw hw [] w_YXZ_5 (1 : Int32) (2 : Int32) h637 n0 (Nat.le_trans (Nat.le_trans (Nat.le_trans (Nat.le_trans (Nat.le_trans (Nat.le_trans (Nat.le_trans (Nat.le_trans (Nat.le_trans (Nat.le_trans (Nat.le_trans (Nat.le_trans (Nat.le_trans Z0 E1.1) (Keep.of_wr W65).1) (Keep.of_wr W117).1) (Keep.of_wr W169).1) (Keep.of_wr W221).1) (Keep.of_wr W273).1) (Keep.of_wr W325).1) (Keep.of_wr W377).1) (Keep.of_wr W429).1) (Keep.of_wr W481).1) (Keep.of_wr W533).1) (Keep.of_wr W585).1) (Keep.of_wr W637).1) f666 f667) hZ (hw _ (List.mem_of_getElem? (i := 33) rfl)) (hw _ (List.mem_of_getElem? (i := 3) rfl)) (by decide) (by decide)) q704a q704c (g := (mkF m 107 #[.val (.int p0), .val (.ref b1), .val (.int (2 : Int32)), .val (.int (0 : Int32))] [(.ref w_YXZ_5)])) rfl (by rw [hml]; rfl) (Steps.refl _) (argsL := []) (rest := []) (lenOf pd_0 rfl) rfl (by show 2 * 0 + _ ≤ _; exact Nat.le_of_eq rfl) (hb hby at_107) (fun _ _ => ⟨rfl, e637, (by decide : 1 + 0 ≤ _), (by decide : 12 + 0 ≤ _)⟩)
    dsimp only [Pt.U, Pt.locs, Pt.cells, Pt.slots] at X704 l704 y704 z704 st704 hQ704
    subst l704 y704 z704
    obtain ⟨⟨r705, rfl, Pr705⟩, Nq704, e704⟩ := hQ704
    have N704 := Fr.app N637 Nq704
    have pre706 : ∀ t, Steps p.tables e below (T704.setTop (mkF m 110 #[.val (.int p0), .val (.ref b1), .val (.int (2 : Int32)), .val (.int (0 : Int32))] [(.int r705)])) t → Steps p.tables e below (s₁.setTop (entryFrame m #[(.int p0)] maxLocals)) t := fun t kt => pre686 t (by
        show Steps p.tables e below (T637.setTop (mkF m 92 #[.val (.int p0), .val (.ref b1), .val (.int (2 : Int32)), .unset] [])) _
        refine XS.iloadN X637.here hx rfl (hb hby at_92) rfl ?_
        show Steps p.tables e below (T637.setTop (mkF m 93 #[.val (.int p0), .val (.ref b1), .val (.int (2 : Int32)), .unset] [(.int (2 : Int32))])) _
        refine XS.bipush X637.here hx rfl (hb hby at_93) ?_
        show Steps p.tables e below (T637.setTop (mkF m 95 #[.val (.int p0), .val (.ref b1), .val (.int (2 : Int32)), .unset] [(.int (6 : Int32)), (.int (2 : Int32))])) _
        refine XS.icmpYes X637.here hx rfl (pc0 := 95) (pc' := 102) rfl (hb hby at_95) rfl (tlt (by decide : (2 : Int32) < (6 : Int32))).1 (by decide) (by decide) ?_
        show Steps p.tables e below (T637.setTop (mkF m 102 #[.val (.int p0), .val (.ref b1), .val (.int (2 : Int32)), .unset] [])) _
        refine XS.iconst X637.here hx rfl (hb hby at_102) ?_
        show Steps p.tables e below (T637.setTop (mkF m 103 #[.val (.int p0), .val (.ref b1), .val (.int (2 : Int32)), .unset] [(.int (0 : Int32))])) _
        refine XS.istoreN X637.here hx rfl (hb hby at_103) rfl (l' := #[.val (.int p0), .val (.ref b1), .val (.int (2 : Int32)), .val (.int (0 : Int32))]) rfl ?_
        show Steps p.tables e below (T637.setTop (mkF m 104 #[.val (.int p0), .val (.ref b1), .val (.int (2 : Int32)), .val (.int (0 : Int32))] [])) _
        refine XS.aloadN X637.here hx rfl (hb hby at_104) rfl rfl ?_
        show Steps p.tables e below (T637.setTop (mkF m 105 #[.val (.int p0), .val (.ref b1), .val (.int (2 : Int32)), .val (.int (0 : Int32))] [(.ref b1)])) _
        refine XS.iloadN X637.here hx rfl (hb hby at_105) rfl ?_
        show Steps p.tables e below (T637.setTop (mkF m 106 #[.val (.int p0), .val (.ref b1), .val (.int (2 : Int32)), .val (.int (0 : Int32))] [(.int (2 : Int32)), (.ref b1)])) _
        refine X637.aaload hx (j := (2 : Int32)) (v := (.ref w_YXZ_5)) (by rw [e637]; exact Ao701.1) (State.isArrayOf_alike hZ.alike Ao701.2.1) rfl Ao701.2.2 hin702 hat703 (g := (mkF m 106 #[.val (.int p0), .val (.ref b1), .val (.int (2 : Int32)), .val (.int (0 : Int32))] [(.int (2 : Int32)), (.ref b1)])) rfl rfl (hb hby at_106) _ ?_
        show Steps p.tables e below (T637.setTop (mkF m 107 #[.val (.int p0), .val (.ref b1), .val (.int (2 : Int32)), .val (.int (0 : Int32))] [(.ref w_YXZ_5)])) _
        refine st704.trans ?_
        exact kt)
    obtain rfl : (0 : Int32) = r705 := Pr705.2 (by decide)
    have pre707 : ∀ t, Steps p.tables e below (T704.setTop (mkF m 119 #[.val (.int p0), .val (.ref b1), .val (.int (2 : Int32)), .val (.int (0 : Int32))] [(.int (1 : Int32))])) t → Steps p.tables e below (s₁.setTop (entryFrame m #[(.int p0)] maxLocals)) t := fun t kt => pre706 t (by
        show Steps p.tables e below (T704.setTop (mkF m 110 #[.val (.int p0), .val (.ref b1), .val (.int (2 : Int32)), .val (.int (0 : Int32))] [(.int (0 : Int32))])) _
        refine XS.iloadN X704.here hx rfl (hb hby at_110) rfl ?_
        show Steps p.tables e below (T704.setTop (mkF m 111 #[.val (.int p0), .val (.ref b1), .val (.int (2 : Int32)), .val (.int (0 : Int32))] [(.int (0 : Int32)), (.int (0 : Int32))])) _
        refine XS.icmpNo X704.here hx rfl (hb hby at_111) rfl (teq (rfl : (0 : Int32) = (0 : Int32))).2 ?_
        show Steps p.tables e below (T704.setTop (mkF m 114 #[.val (.int p0), .val (.ref b1), .val (.int (2 : Int32)), .val (.int (0 : Int32))] [])) _
        refine XS.iconst X704.here hx rfl (hb hby at_114) ?_
        show Steps p.tables e below (T704.setTop (mkF m 115 #[.val (.int p0), .val (.ref b1), .val (.int (2 : Int32)), .val (.int (0 : Int32))] [(.int (1 : Int32))])) _
        refine XS.goto X704.here hx rfl (pc0 := 115) (pc' := 119) rfl (hb hby at_115) (by decide) (by decide) ?_
        exact kt)
    obtain ⟨fs, hr, hrun, hended, hW, hsame⟩ := X704.leave (v := some (.int (1 : Int32))) (fun h => by rw [Bd.returns] at h; cases h)
    refine ⟨_, _, pre707 _ ?_, hrun, hended, _, _, rfl, ?_, ⟨_, rfl⟩, hW, hsame.mono (by decide) (by decide)⟩
    · show Steps p.tables e below (T704.setTop (mkF m 119 #[.val (.int p0), .val (.ref b1), .val (.int (2 : Int32)), .val (.int (0 : Int32))] [(.int (1 : Int32))])) _
      exact retN X704 hx (t := .boolean) Bd.returns (by simp) (hb hby at_119) hr
    · show Q0 Z _ _ _ _ _ _ _ _ _ _ _ _ _ h0 n0 _ T704.heap _
      rw [e704]
      exact ⟨rfl, N704, trivial⟩
  · skip
    obtain ⟨co708, Ao708, qo708, So708, No708, Ho708, Go708⟩ := id V637
    have hin709 : ¬ ((3 : Int32) < 0 ∨ co708.slots.size ≤ ((3 : Int32)).toNatClampNeg) := inb_of So708 ⟨by decide, by decide⟩
    have hat710 : co708.slots[((3 : Int32)).toNatClampNeg]? = some (.ref w_YZX_7) := Has.at Ho708 hin709 rfl
    obtain ⟨cq711, kq711, q711a, q711b, q711c⟩ := isOf hZ e637 f645
    obtain ⟨_, _, ⟨T711, L711, k711, n711⟩, -, X711, ⟨Lc711, hQ711, l711, y711, z711⟩, st711⟩ := X637.virtualBack hx (y := (⟨"com/example/rotarium/rotarium/EulerSequence", "isProperEuler", "()Z"⟩ : MethodName)) (z := (⟨"com/example/rotarium/rotarium/EulerSequence", "isProperEuler", "()Z"⟩ : MethodName)) hown (mvT hZ (hw _ (List.mem_of_getElem? (i := 29) rfl))) (mvT hZ (hw _ (List.mem_of_getElem? (i := 30) rfl))) (notFace_of_selects (args := #[]) (mvT hZ (hw _ (List.mem_of_getElem? (i := 32) rfl)))) (mvT hZ (hw _ (List.mem_of_getElem? (i := 32) rfl))) (mvT hZ (hw _ (List.mem_of_getElem? (i := 31) rfl))) (by decide) (backOf (W := 0) (rm1 l Z aw hw [] w_YZX_7 (1 : Int32) (0 : Int32) h637 n0 (Nat.le_trans (Nat.le_trans (Nat.le_trans (Nat.le_trans (Nat.le_trans (Nat.le_trans (Nat.le_trans (Nat.le_trans (Nat.le_trans (Nat.le_trans (Nat.le_trans (Nat.le_trans (Nat.le_trans Z0 E1.1) (Keep.of_wr W65).1) (Keep.of_wr W117).1) (Keep.of_wr W169).1) (Keep.of_wr W221).1) (Keep.of_wr W273).1) (Keep.of_wr W325).1) (Keep.of_wr W377).1) (Keep.of_wr W429).1) (Keep.of_wr W481).1) (Keep.of_wr W533).1) (Keep.of_wr W585).1) (Keep.of_wr W637).1) f664 f665) hZ (hw _ (List.mem_of_getElem? (i := 33) rfl)) (hw _ (List.mem_of_getElem? (i := 3) rfl)) (by decide) (by decide)) q711a q711c (g := (mkF m 107 #[.val (.int p0), .val (.ref b1), .val (.int (3 : Int32)), .val (.int (0 : Int32))] [(.ref w_YZX_7)])) rfl (by rw [hml]; rfl) (Steps.refl _) (argsL := []) (rest := []) (lenOf pd_0 rfl) rfl (by show 2 * 0 + _ ≤ _; exact Nat.le_of_eq rfl) (hb hby at_107) (fun _ _ => ⟨rfl, e637, (by decide : 1 + 0 ≤ _), (by decide : 12 + 0 ≤ _)⟩)
    dsimp only [Pt.U, Pt.locs, Pt.cells, Pt.slots] at X711 l711 y711 z711 st711 hQ711
    subst l711 y711 z711
    obtain ⟨⟨r712, rfl, Pr712⟩, Nq711, e711⟩ := hQ711
    have N711 := Fr.app N637 Nq711
    have pre713 : ∀ t, Steps p.tables e below (T711.setTop (mkF m 110 #[.val (.int p0), .val (.ref b1), .val (.int (3 : Int32)), .val (.int (0 : Int32))] [(.int r712)])) t → Steps p.tables e below (s₁.setTop (entryFrame m #[(.int p0)] maxLocals)) t := fun t kt => pre686 t (by
        show Steps p.tables e below (T637.setTop (mkF m 92 #[.val (.int p0), .val (.ref b1), .val (.int (3 : Int32)), .unset] [])) _
        refine XS.iloadN X637.here hx rfl (hb hby at_92) rfl ?_
        show Steps p.tables e below (T637.setTop (mkF m 93 #[.val (.int p0), .val (.ref b1), .val (.int (3 : Int32)), .unset] [(.int (3 : Int32))])) _
        refine XS.bipush X637.here hx rfl (hb hby at_93) ?_
        show Steps p.tables e below (T637.setTop (mkF m 95 #[.val (.int p0), .val (.ref b1), .val (.int (3 : Int32)), .unset] [(.int (6 : Int32)), (.int (3 : Int32))])) _
        refine XS.icmpYes X637.here hx rfl (pc0 := 95) (pc' := 102) rfl (hb hby at_95) rfl (tlt (by decide : (3 : Int32) < (6 : Int32))).1 (by decide) (by decide) ?_
        show Steps p.tables e below (T637.setTop (mkF m 102 #[.val (.int p0), .val (.ref b1), .val (.int (3 : Int32)), .unset] [])) _
        refine XS.iconst X637.here hx rfl (hb hby at_102) ?_
        show Steps p.tables e below (T637.setTop (mkF m 103 #[.val (.int p0), .val (.ref b1), .val (.int (3 : Int32)), .unset] [(.int (0 : Int32))])) _
        refine XS.istoreN X637.here hx rfl (hb hby at_103) rfl (l' := #[.val (.int p0), .val (.ref b1), .val (.int (3 : Int32)), .val (.int (0 : Int32))]) rfl ?_
        show Steps p.tables e below (T637.setTop (mkF m 104 #[.val (.int p0), .val (.ref b1), .val (.int (3 : Int32)), .val (.int (0 : Int32))] [])) _
        refine XS.aloadN X637.here hx rfl (hb hby at_104) rfl rfl ?_
        show Steps p.tables e below (T637.setTop (mkF m 105 #[.val (.int p0), .val (.ref b1), .val (.int (3 : Int32)), .val (.int (0 : Int32))] [(.ref b1)])) _
        refine XS.iloadN X637.here hx rfl (hb hby at_105) rfl ?_
        show Steps p.tables e below (T637.setTop (mkF m 106 #[.val (.int p0), .val (.ref b1), .val (.int (3 : Int32)), .val (.int (0 : Int32))] [(.int (3 : Int32)), (.ref b1)])) _
        refine X637.aaload hx (j := (3 : Int32)) (v := (.ref w_YZX_7)) (by rw [e637]; exact Ao708.1) (State.isArrayOf_alike hZ.alike Ao708.2.1) rfl Ao708.2.2 hin709 hat710 (g := (mkF m 106 #[.val (.int p0), .val (.ref b1), .val (.int (3 : Int32)), .val (.int (0 : Int32))] [(.int (3 : Int32)), (.ref b1)])) rfl rfl (hb hby at_106) _ ?_
        show Steps p.tables e below (T637.setTop (mkF m 107 #[.val (.int p0), .val (.ref b1), .val (.int (3 : Int32)), .val (.int (0 : Int32))] [(.ref w_YZX_7)])) _
        refine st711.trans ?_
        exact kt)
    obtain rfl : (0 : Int32) = r712 := Pr712.2 (by decide)
    have pre714 : ∀ t, Steps p.tables e below (T711.setTop (mkF m 119 #[.val (.int p0), .val (.ref b1), .val (.int (3 : Int32)), .val (.int (0 : Int32))] [(.int (1 : Int32))])) t → Steps p.tables e below (s₁.setTop (entryFrame m #[(.int p0)] maxLocals)) t := fun t kt => pre713 t (by
        show Steps p.tables e below (T711.setTop (mkF m 110 #[.val (.int p0), .val (.ref b1), .val (.int (3 : Int32)), .val (.int (0 : Int32))] [(.int (0 : Int32))])) _
        refine XS.iloadN X711.here hx rfl (hb hby at_110) rfl ?_
        show Steps p.tables e below (T711.setTop (mkF m 111 #[.val (.int p0), .val (.ref b1), .val (.int (3 : Int32)), .val (.int (0 : Int32))] [(.int (0 : Int32)), (.int (0 : Int32))])) _
        refine XS.icmpNo X711.here hx rfl (hb hby at_111) rfl (teq (rfl : (0 : Int32) = (0 : Int32))).2 ?_
        show Steps p.tables e below (T711.setTop (mkF m 114 #[.val (.int p0), .val (.ref b1), .val (.int (3 : Int32)), .val (.int (0 : Int32))] [])) _
        refine XS.iconst X711.here hx rfl (hb hby at_114) ?_
        show Steps p.tables e below (T711.setTop (mkF m 115 #[.val (.int p0), .val (.ref b1), .val (.int (3 : Int32)), .val (.int (0 : Int32))] [(.int (1 : Int32))])) _
        refine XS.goto X711.here hx rfl (pc0 := 115) (pc' := 119) rfl (hb hby at_115) (by decide) (by decide) ?_
        exact kt)
    obtain ⟨fs, hr, hrun, hended, hW, hsame⟩ := X711.leave (v := some (.int (1 : Int32))) (fun h => by rw [Bd.returns] at h; cases h)
    refine ⟨_, _, pre714 _ ?_, hrun, hended, _, _, rfl, ?_, ⟨_, rfl⟩, hW, hsame.mono (by decide) (by decide)⟩
    · show Steps p.tables e below (T711.setTop (mkF m 119 #[.val (.int p0), .val (.ref b1), .val (.int (3 : Int32)), .val (.int (0 : Int32))] [(.int (1 : Int32))])) _
      exact retN X711 hx (t := .boolean) Bd.returns (by simp) (hb hby at_119) hr
    · show Q0 Z _ _ _ _ _ _ _ _ _ _ _ _ _ h0 n0 _ T711.heap _
      rw [e711]
      exact ⟨rfl, N711, trivial⟩
  · skip
    obtain ⟨co715, Ao715, qo715, So715, No715, Ho715, Go715⟩ := id V637
    have hin716 : ¬ ((4 : Int32) < 0 ∨ co715.slots.size ≤ ((4 : Int32)).toNatClampNeg) := inb_of So715 ⟨by decide, by decide⟩
    have hat717 : co715.slots[((4 : Int32)).toNatClampNeg]? = some (.ref w_ZXY_9) := Has.at Ho715 hin716 rfl
    obtain ⟨cq718, kq718, q718a, q718b, q718c⟩ := isOf hZ e637 f647
    obtain ⟨_, _, ⟨T718, L718, k718, n718⟩, -, X718, ⟨Lc718, hQ718, l718, y718, z718⟩, st718⟩ := X637.virtualBack hx (y := (⟨"com/example/rotarium/rotarium/EulerSequence", "isProperEuler", "()Z"⟩ : MethodName)) (z := (⟨"com/example/rotarium/rotarium/EulerSequence", "isProperEuler", "()Z"⟩ : MethodName)) hown (mvT hZ (hw _ (List.mem_of_getElem? (i := 29) rfl))) (mvT hZ (hw _ (List.mem_of_getElem? (i := 30) rfl))) (notFace_of_selects (args := #[]) (mvT hZ (hw _ (List.mem_of_getElem? (i := 32) rfl)))) (mvT hZ (hw _ (List.mem_of_getElem? (i := 32) rfl))) (mvT hZ (hw _ (List.mem_of_getElem? (i := 31) rfl))) (by decide) (backOf (W := 0) (rm1 l Z aw hw [] w_ZXY_9 (2 : Int32) (1 : Int32) h637 n0 (Nat.le_trans (Nat.le_trans (Nat.le_trans (Nat.le_trans (Nat.le_trans (Nat.le_trans (Nat.le_trans (Nat.le_trans (Nat.le_trans (Nat.le_trans (Nat.le_trans (Nat.le_trans (Nat.le_trans Z0 E1.1) (Keep.of_wr W65).1) (Keep.of_wr W117).1) (Keep.of_wr W169).1) (Keep.of_wr W221).1) (Keep.of_wr W273).1) (Keep.of_wr W325).1) (Keep.of_wr W377).1) (Keep.of_wr W429).1) (Keep.of_wr W481).1) (Keep.of_wr W533).1) (Keep.of_wr W585).1) (Keep.of_wr W637).1) f672 f673) hZ (hw _ (List.mem_of_getElem? (i := 33) rfl)) (hw _ (List.mem_of_getElem? (i := 3) rfl)) (by decide) (by decide)) q718a q718c (g := (mkF m 107 #[.val (.int p0), .val (.ref b1), .val (.int (4 : Int32)), .val (.int (0 : Int32))] [(.ref w_ZXY_9)])) rfl (by rw [hml]; rfl) (Steps.refl _) (argsL := []) (rest := []) (lenOf pd_0 rfl) rfl (by show 2 * 0 + _ ≤ _; exact Nat.le_of_eq rfl) (hb hby at_107) (fun _ _ => ⟨rfl, e637, (by decide : 1 + 0 ≤ _), (by decide : 12 + 0 ≤ _)⟩)
    dsimp only [Pt.U, Pt.locs, Pt.cells, Pt.slots] at X718 l718 y718 z718 st718 hQ718
    subst l718 y718 z718
    obtain ⟨⟨r719, rfl, Pr719⟩, Nq718, e718⟩ := hQ718
    have N718 := Fr.app N637 Nq718
    have pre720 : ∀ t, Steps p.tables e below (T718.setTop (mkF m 110 #[.val (.int p0), .val (.ref b1), .val (.int (4 : Int32)), .val (.int (0 : Int32))] [(.int r719)])) t → Steps p.tables e below (s₁.setTop (entryFrame m #[(.int p0)] maxLocals)) t := fun t kt => pre686 t (by
        show Steps p.tables e below (T637.setTop (mkF m 92 #[.val (.int p0), .val (.ref b1), .val (.int (4 : Int32)), .unset] [])) _
        refine XS.iloadN X637.here hx rfl (hb hby at_92) rfl ?_
        show Steps p.tables e below (T637.setTop (mkF m 93 #[.val (.int p0), .val (.ref b1), .val (.int (4 : Int32)), .unset] [(.int (4 : Int32))])) _
        refine XS.bipush X637.here hx rfl (hb hby at_93) ?_
        show Steps p.tables e below (T637.setTop (mkF m 95 #[.val (.int p0), .val (.ref b1), .val (.int (4 : Int32)), .unset] [(.int (6 : Int32)), (.int (4 : Int32))])) _
        refine XS.icmpYes X637.here hx rfl (pc0 := 95) (pc' := 102) rfl (hb hby at_95) rfl (tlt (by decide : (4 : Int32) < (6 : Int32))).1 (by decide) (by decide) ?_
        show Steps p.tables e below (T637.setTop (mkF m 102 #[.val (.int p0), .val (.ref b1), .val (.int (4 : Int32)), .unset] [])) _
        refine XS.iconst X637.here hx rfl (hb hby at_102) ?_
        show Steps p.tables e below (T637.setTop (mkF m 103 #[.val (.int p0), .val (.ref b1), .val (.int (4 : Int32)), .unset] [(.int (0 : Int32))])) _
        refine XS.istoreN X637.here hx rfl (hb hby at_103) rfl (l' := #[.val (.int p0), .val (.ref b1), .val (.int (4 : Int32)), .val (.int (0 : Int32))]) rfl ?_
        show Steps p.tables e below (T637.setTop (mkF m 104 #[.val (.int p0), .val (.ref b1), .val (.int (4 : Int32)), .val (.int (0 : Int32))] [])) _
        refine XS.aloadN X637.here hx rfl (hb hby at_104) rfl rfl ?_
        show Steps p.tables e below (T637.setTop (mkF m 105 #[.val (.int p0), .val (.ref b1), .val (.int (4 : Int32)), .val (.int (0 : Int32))] [(.ref b1)])) _
        refine XS.iloadN X637.here hx rfl (hb hby at_105) rfl ?_
        show Steps p.tables e below (T637.setTop (mkF m 106 #[.val (.int p0), .val (.ref b1), .val (.int (4 : Int32)), .val (.int (0 : Int32))] [(.int (4 : Int32)), (.ref b1)])) _
        refine X637.aaload hx (j := (4 : Int32)) (v := (.ref w_ZXY_9)) (by rw [e637]; exact Ao715.1) (State.isArrayOf_alike hZ.alike Ao715.2.1) rfl Ao715.2.2 hin716 hat717 (g := (mkF m 106 #[.val (.int p0), .val (.ref b1), .val (.int (4 : Int32)), .val (.int (0 : Int32))] [(.int (4 : Int32)), (.ref b1)])) rfl rfl (hb hby at_106) _ ?_
        show Steps p.tables e below (T637.setTop (mkF m 107 #[.val (.int p0), .val (.ref b1), .val (.int (4 : Int32)), .val (.int (0 : Int32))] [(.ref w_ZXY_9)])) _
        refine st718.trans ?_
        exact kt)
    obtain rfl : (0 : Int32) = r719 := Pr719.2 (by decide)
    have pre721 : ∀ t, Steps p.tables e below (T718.setTop (mkF m 119 #[.val (.int p0), .val (.ref b1), .val (.int (4 : Int32)), .val (.int (0 : Int32))] [(.int (1 : Int32))])) t → Steps p.tables e below (s₁.setTop (entryFrame m #[(.int p0)] maxLocals)) t := fun t kt => pre720 t (by
        show Steps p.tables e below (T718.setTop (mkF m 110 #[.val (.int p0), .val (.ref b1), .val (.int (4 : Int32)), .val (.int (0 : Int32))] [(.int (0 : Int32))])) _
        refine XS.iloadN X718.here hx rfl (hb hby at_110) rfl ?_
        show Steps p.tables e below (T718.setTop (mkF m 111 #[.val (.int p0), .val (.ref b1), .val (.int (4 : Int32)), .val (.int (0 : Int32))] [(.int (0 : Int32)), (.int (0 : Int32))])) _
        refine XS.icmpNo X718.here hx rfl (hb hby at_111) rfl (teq (rfl : (0 : Int32) = (0 : Int32))).2 ?_
        show Steps p.tables e below (T718.setTop (mkF m 114 #[.val (.int p0), .val (.ref b1), .val (.int (4 : Int32)), .val (.int (0 : Int32))] [])) _
        refine XS.iconst X718.here hx rfl (hb hby at_114) ?_
        show Steps p.tables e below (T718.setTop (mkF m 115 #[.val (.int p0), .val (.ref b1), .val (.int (4 : Int32)), .val (.int (0 : Int32))] [(.int (1 : Int32))])) _
        refine XS.goto X718.here hx rfl (pc0 := 115) (pc' := 119) rfl (hb hby at_115) (by decide) (by decide) ?_
        exact kt)
    obtain ⟨fs, hr, hrun, hended, hW, hsame⟩ := X718.leave (v := some (.int (1 : Int32))) (fun h => by rw [Bd.returns] at h; cases h)
    refine ⟨_, _, pre721 _ ?_, hrun, hended, _, _, rfl, ?_, ⟨_, rfl⟩, hW, hsame.mono (by decide) (by decide)⟩
    · show Steps p.tables e below (T718.setTop (mkF m 119 #[.val (.int p0), .val (.ref b1), .val (.int (4 : Int32)), .val (.int (0 : Int32))] [(.int (1 : Int32))])) _
      exact retN X718 hx (t := .boolean) Bd.returns (by simp) (hb hby at_119) hr
    · show Q0 Z _ _ _ _ _ _ _ _ _ _ _ _ _ h0 n0 _ T718.heap _
      rw [e718]
      exact ⟨rfl, N718, trivial⟩
  · skip
    obtain ⟨co722, Ao722, qo722, So722, No722, Ho722, Go722⟩ := id V637
    have hin723 : ¬ ((5 : Int32) < 0 ∨ co722.slots.size ≤ ((5 : Int32)).toNatClampNeg) := inb_of So722 ⟨by decide, by decide⟩
    have hat724 : co722.slots[((5 : Int32)).toNatClampNeg]? = some (.ref w_ZYX_11) := Has.at Ho722 hin723 rfl
    obtain ⟨cq725, kq725, q725a, q725b, q725c⟩ := isOf hZ e637 f649
    obtain ⟨_, _, ⟨T725, L725, k725, n725⟩, -, X725, ⟨Lc725, hQ725, l725, y725, z725⟩, st725⟩ := X637.virtualBack hx (y := (⟨"com/example/rotarium/rotarium/EulerSequence", "isProperEuler", "()Z"⟩ : MethodName)) (z := (⟨"com/example/rotarium/rotarium/EulerSequence", "isProperEuler", "()Z"⟩ : MethodName)) hown (mvT hZ (hw _ (List.mem_of_getElem? (i := 29) rfl))) (mvT hZ (hw _ (List.mem_of_getElem? (i := 30) rfl))) (notFace_of_selects (args := #[]) (mvT hZ (hw _ (List.mem_of_getElem? (i := 32) rfl)))) (mvT hZ (hw _ (List.mem_of_getElem? (i := 32) rfl))) (mvT hZ (hw _ (List.mem_of_getElem? (i := 31) rfl))) (by decide) (backOf (W := 0) (rm1 l Z aw hw [] w_ZYX_11 (2 : Int32) (0 : Int32) h637 n0 (Nat.le_trans (Nat.le_trans (Nat.le_trans (Nat.le_trans (Nat.le_trans (Nat.le_trans (Nat.le_trans (Nat.le_trans (Nat.le_trans (Nat.le_trans (Nat.le_trans (Nat.le_trans (Nat.le_trans Z0 E1.1) (Keep.of_wr W65).1) (Keep.of_wr W117).1) (Keep.of_wr W169).1) (Keep.of_wr W221).1) (Keep.of_wr W273).1) (Keep.of_wr W325).1) (Keep.of_wr W377).1) (Keep.of_wr W429).1) (Keep.of_wr W481).1) (Keep.of_wr W533).1) (Keep.of_wr W585).1) (Keep.of_wr W637).1) f684 f685) hZ (hw _ (List.mem_of_getElem? (i := 33) rfl)) (hw _ (List.mem_of_getElem? (i := 3) rfl)) (by decide) (by decide)) q725a q725c (g := (mkF m 107 #[.val (.int p0), .val (.ref b1), .val (.int (5 : Int32)), .val (.int (0 : Int32))] [(.ref w_ZYX_11)])) rfl (by rw [hml]; rfl) (Steps.refl _) (argsL := []) (rest := []) (lenOf pd_0 rfl) rfl (by show 2 * 0 + _ ≤ _; exact Nat.le_of_eq rfl) (hb hby at_107) (fun _ _ => ⟨rfl, e637, (by decide : 1 + 0 ≤ _), (by decide : 12 + 0 ≤ _)⟩)
    dsimp only [Pt.U, Pt.locs, Pt.cells, Pt.slots] at X725 l725 y725 z725 st725 hQ725
    subst l725 y725 z725
    obtain ⟨⟨r726, rfl, Pr726⟩, Nq725, e725⟩ := hQ725
    have N725 := Fr.app N637 Nq725
    have pre727 : ∀ t, Steps p.tables e below (T725.setTop (mkF m 110 #[.val (.int p0), .val (.ref b1), .val (.int (5 : Int32)), .val (.int (0 : Int32))] [(.int r726)])) t → Steps p.tables e below (s₁.setTop (entryFrame m #[(.int p0)] maxLocals)) t := fun t kt => pre686 t (by
        show Steps p.tables e below (T637.setTop (mkF m 92 #[.val (.int p0), .val (.ref b1), .val (.int (5 : Int32)), .unset] [])) _
        refine XS.iloadN X637.here hx rfl (hb hby at_92) rfl ?_
        show Steps p.tables e below (T637.setTop (mkF m 93 #[.val (.int p0), .val (.ref b1), .val (.int (5 : Int32)), .unset] [(.int (5 : Int32))])) _
        refine XS.bipush X637.here hx rfl (hb hby at_93) ?_
        show Steps p.tables e below (T637.setTop (mkF m 95 #[.val (.int p0), .val (.ref b1), .val (.int (5 : Int32)), .unset] [(.int (6 : Int32)), (.int (5 : Int32))])) _
        refine XS.icmpYes X637.here hx rfl (pc0 := 95) (pc' := 102) rfl (hb hby at_95) rfl (tlt (by decide : (5 : Int32) < (6 : Int32))).1 (by decide) (by decide) ?_
        show Steps p.tables e below (T637.setTop (mkF m 102 #[.val (.int p0), .val (.ref b1), .val (.int (5 : Int32)), .unset] [])) _
        refine XS.iconst X637.here hx rfl (hb hby at_102) ?_
        show Steps p.tables e below (T637.setTop (mkF m 103 #[.val (.int p0), .val (.ref b1), .val (.int (5 : Int32)), .unset] [(.int (0 : Int32))])) _
        refine XS.istoreN X637.here hx rfl (hb hby at_103) rfl (l' := #[.val (.int p0), .val (.ref b1), .val (.int (5 : Int32)), .val (.int (0 : Int32))]) rfl ?_
        show Steps p.tables e below (T637.setTop (mkF m 104 #[.val (.int p0), .val (.ref b1), .val (.int (5 : Int32)), .val (.int (0 : Int32))] [])) _
        refine XS.aloadN X637.here hx rfl (hb hby at_104) rfl rfl ?_
        show Steps p.tables e below (T637.setTop (mkF m 105 #[.val (.int p0), .val (.ref b1), .val (.int (5 : Int32)), .val (.int (0 : Int32))] [(.ref b1)])) _
        refine XS.iloadN X637.here hx rfl (hb hby at_105) rfl ?_
        show Steps p.tables e below (T637.setTop (mkF m 106 #[.val (.int p0), .val (.ref b1), .val (.int (5 : Int32)), .val (.int (0 : Int32))] [(.int (5 : Int32)), (.ref b1)])) _
        refine X637.aaload hx (j := (5 : Int32)) (v := (.ref w_ZYX_11)) (by rw [e637]; exact Ao722.1) (State.isArrayOf_alike hZ.alike Ao722.2.1) rfl Ao722.2.2 hin723 hat724 (g := (mkF m 106 #[.val (.int p0), .val (.ref b1), .val (.int (5 : Int32)), .val (.int (0 : Int32))] [(.int (5 : Int32)), (.ref b1)])) rfl rfl (hb hby at_106) _ ?_
        show Steps p.tables e below (T637.setTop (mkF m 107 #[.val (.int p0), .val (.ref b1), .val (.int (5 : Int32)), .val (.int (0 : Int32))] [(.ref w_ZYX_11)])) _
        refine st725.trans ?_
        exact kt)
    obtain rfl : (0 : Int32) = r726 := Pr726.2 (by decide)
    have pre728 : ∀ t, Steps p.tables e below (T725.setTop (mkF m 119 #[.val (.int p0), .val (.ref b1), .val (.int (5 : Int32)), .val (.int (0 : Int32))] [(.int (1 : Int32))])) t → Steps p.tables e below (s₁.setTop (entryFrame m #[(.int p0)] maxLocals)) t := fun t kt => pre727 t (by
        show Steps p.tables e below (T725.setTop (mkF m 110 #[.val (.int p0), .val (.ref b1), .val (.int (5 : Int32)), .val (.int (0 : Int32))] [(.int (0 : Int32))])) _
        refine XS.iloadN X725.here hx rfl (hb hby at_110) rfl ?_
        show Steps p.tables e below (T725.setTop (mkF m 111 #[.val (.int p0), .val (.ref b1), .val (.int (5 : Int32)), .val (.int (0 : Int32))] [(.int (0 : Int32)), (.int (0 : Int32))])) _
        refine XS.icmpNo X725.here hx rfl (hb hby at_111) rfl (teq (rfl : (0 : Int32) = (0 : Int32))).2 ?_
        show Steps p.tables e below (T725.setTop (mkF m 114 #[.val (.int p0), .val (.ref b1), .val (.int (5 : Int32)), .val (.int (0 : Int32))] [])) _
        refine XS.iconst X725.here hx rfl (hb hby at_114) ?_
        show Steps p.tables e below (T725.setTop (mkF m 115 #[.val (.int p0), .val (.ref b1), .val (.int (5 : Int32)), .val (.int (0 : Int32))] [(.int (1 : Int32))])) _
        refine XS.goto X725.here hx rfl (pc0 := 115) (pc' := 119) rfl (hb hby at_115) (by decide) (by decide) ?_
        exact kt)
    obtain ⟨fs, hr, hrun, hended, hW, hsame⟩ := X725.leave (v := some (.int (1 : Int32))) (fun h => by rw [Bd.returns] at h; cases h)
    refine ⟨_, _, pre728 _ ?_, hrun, hended, _, _, rfl, ?_, ⟨_, rfl⟩, hW, hsame.mono (by decide) (by decide)⟩
    · show Steps p.tables e below (T725.setTop (mkF m 119 #[.val (.int p0), .val (.ref b1), .val (.int (5 : Int32)), .val (.int (0 : Int32))] [(.int (1 : Int32))])) _
      exact retN X725 hx (t := .boolean) Bd.returns (by simp) (hb hby at_119) hr
    · show Q0 Z _ _ _ _ _ _ _ _ _ _ _ _ _ h0 n0 _ T725.heap _
      rw [e725]
      exact ⟨rfl, N725, trivial⟩
  · skip
    obtain ⟨co729, Ao729, qo729, So729, No729, Ho729, Go729⟩ := id V637
    have hin730 : ¬ ((6 : Int32) < 0 ∨ co729.slots.size ≤ ((6 : Int32)).toNatClampNeg) := inb_of So729 ⟨by decide, by decide⟩
    have hat731 : co729.slots[((6 : Int32)).toNatClampNeg]? = some (.ref w_XYX_13) := Has.at Ho729 hin730 rfl
    obtain ⟨cq732, kq732, q732a, q732b, q732c⟩ := isOf hZ e637 f651
    obtain ⟨_, _, ⟨T732, L732, k732, n732⟩, -, X732, ⟨Lc732, hQ732, l732, y732, z732⟩, st732⟩ := X637.virtualBack hx (y := (⟨"com/example/rotarium/rotarium/EulerSequence", "isProperEuler", "()Z"⟩ : MethodName)) (z := (⟨"com/example/rotarium/rotarium/EulerSequence", "isProperEuler", "()Z"⟩ : MethodName)) hown (mvT hZ (hw _ (List.mem_of_getElem? (i := 29) rfl))) (mvT hZ (hw _ (List.mem_of_getElem? (i := 30) rfl))) (notFace_of_selects (args := #[]) (mvT hZ (hw _ (List.mem_of_getElem? (i := 32) rfl)))) (mvT hZ (hw _ (List.mem_of_getElem? (i := 32) rfl))) (mvT hZ (hw _ (List.mem_of_getElem? (i := 31) rfl))) (by decide) (backOf (W := 0) (rm1 l Z aw hw [] w_XYX_13 (0 : Int32) (0 : Int32) h637 n0 (Nat.le_trans (Nat.le_trans (Nat.le_trans (Nat.le_trans (Nat.le_trans (Nat.le_trans (Nat.le_trans (Nat.le_trans (Nat.le_trans (Nat.le_trans (Nat.le_trans (Nat.le_trans (Nat.le_trans Z0 E1.1) (Keep.of_wr W65).1) (Keep.of_wr W117).1) (Keep.of_wr W169).1) (Keep.of_wr W221).1) (Keep.of_wr W273).1) (Keep.of_wr W325).1) (Keep.of_wr W377).1) (Keep.of_wr W429).1) (Keep.of_wr W481).1) (Keep.of_wr W533).1) (Keep.of_wr W585).1) (Keep.of_wr W637).1) f682 f683) hZ (hw _ (List.mem_of_getElem? (i := 33) rfl)) (hw _ (List.mem_of_getElem? (i := 3) rfl)) (by decide) (by decide)) q732a q732c (g := (mkF m 107 #[.val (.int p0), .val (.ref b1), .val (.int (6 : Int32)), .val (.int (1 : Int32))] [(.ref w_XYX_13)])) rfl (by rw [hml]; rfl) (Steps.refl _) (argsL := []) (rest := []) (lenOf pd_0 rfl) rfl (by show 2 * 0 + _ ≤ _; exact Nat.le_of_eq rfl) (hb hby at_107) (fun _ _ => ⟨rfl, e637, (by decide : 1 + 0 ≤ _), (by decide : 12 + 0 ≤ _)⟩)
    dsimp only [Pt.U, Pt.locs, Pt.cells, Pt.slots] at X732 l732 y732 z732 st732 hQ732
    subst l732 y732 z732
    obtain ⟨⟨r733, rfl, Pr733⟩, Nq732, e732⟩ := hQ732
    have N732 := Fr.app N637 Nq732
    have pre734 : ∀ t, Steps p.tables e below (T732.setTop (mkF m 110 #[.val (.int p0), .val (.ref b1), .val (.int (6 : Int32)), .val (.int (1 : Int32))] [(.int r733)])) t → Steps p.tables e below (s₁.setTop (entryFrame m #[(.int p0)] maxLocals)) t := fun t kt => pre686 t (by
        show Steps p.tables e below (T637.setTop (mkF m 92 #[.val (.int p0), .val (.ref b1), .val (.int (6 : Int32)), .unset] [])) _
        refine XS.iloadN X637.here hx rfl (hb hby at_92) rfl ?_
        show Steps p.tables e below (T637.setTop (mkF m 93 #[.val (.int p0), .val (.ref b1), .val (.int (6 : Int32)), .unset] [(.int (6 : Int32))])) _
        refine XS.bipush X637.here hx rfl (hb hby at_93) ?_
        show Steps p.tables e below (T637.setTop (mkF m 95 #[.val (.int p0), .val (.ref b1), .val (.int (6 : Int32)), .unset] [(.int (6 : Int32)), (.int (6 : Int32))])) _
        refine XS.icmpNo X637.here hx rfl (hb hby at_95) rfl (flt (fun z => Int32.lt_irrefl z)).1 ?_
        show Steps p.tables e below (T637.setTop (mkF m 98 #[.val (.int p0), .val (.ref b1), .val (.int (6 : Int32)), .unset] [])) _
        refine XS.iconst X637.here hx rfl (hb hby at_98) ?_
        show Steps p.tables e below (T637.setTop (mkF m 99 #[.val (.int p0), .val (.ref b1), .val (.int (6 : Int32)), .unset] [(.int (1 : Int32))])) _
        refine XS.goto X637.here hx rfl (pc0 := 99) (pc' := 103) rfl (hb hby at_99) (by decide) (by decide) ?_
        show Steps p.tables e below (T637.setTop (mkF m 103 #[.val (.int p0), .val (.ref b1), .val (.int (6 : Int32)), .unset] [(.int (1 : Int32))])) _
        refine XS.istoreN X637.here hx rfl (hb hby at_103) rfl (l' := #[.val (.int p0), .val (.ref b1), .val (.int (6 : Int32)), .val (.int (1 : Int32))]) rfl ?_
        show Steps p.tables e below (T637.setTop (mkF m 104 #[.val (.int p0), .val (.ref b1), .val (.int (6 : Int32)), .val (.int (1 : Int32))] [])) _
        refine XS.aloadN X637.here hx rfl (hb hby at_104) rfl rfl ?_
        show Steps p.tables e below (T637.setTop (mkF m 105 #[.val (.int p0), .val (.ref b1), .val (.int (6 : Int32)), .val (.int (1 : Int32))] [(.ref b1)])) _
        refine XS.iloadN X637.here hx rfl (hb hby at_105) rfl ?_
        show Steps p.tables e below (T637.setTop (mkF m 106 #[.val (.int p0), .val (.ref b1), .val (.int (6 : Int32)), .val (.int (1 : Int32))] [(.int (6 : Int32)), (.ref b1)])) _
        refine X637.aaload hx (j := (6 : Int32)) (v := (.ref w_XYX_13)) (by rw [e637]; exact Ao729.1) (State.isArrayOf_alike hZ.alike Ao729.2.1) rfl Ao729.2.2 hin730 hat731 (g := (mkF m 106 #[.val (.int p0), .val (.ref b1), .val (.int (6 : Int32)), .val (.int (1 : Int32))] [(.int (6 : Int32)), (.ref b1)])) rfl rfl (hb hby at_106) _ ?_
        show Steps p.tables e below (T637.setTop (mkF m 107 #[.val (.int p0), .val (.ref b1), .val (.int (6 : Int32)), .val (.int (1 : Int32))] [(.ref w_XYX_13)])) _
        refine st732.trans ?_
        exact kt)
    obtain rfl : (1 : Int32) = r733 := Pr733.1 rfl
    have pre735 : ∀ t, Steps p.tables e below (T732.setTop (mkF m 119 #[.val (.int p0), .val (.ref b1), .val (.int (6 : Int32)), .val (.int (1 : Int32))] [(.int (1 : Int32))])) t → Steps p.tables e below (s₁.setTop (entryFrame m #[(.int p0)] maxLocals)) t := fun t kt => pre734 t (by
        show Steps p.tables e below (T732.setTop (mkF m 110 #[.val (.int p0), .val (.ref b1), .val (.int (6 : Int32)), .val (.int (1 : Int32))] [(.int (1 : Int32))])) _
        refine XS.iloadN X732.here hx rfl (hb hby at_110) rfl ?_
        show Steps p.tables e below (T732.setTop (mkF m 111 #[.val (.int p0), .val (.ref b1), .val (.int (6 : Int32)), .val (.int (1 : Int32))] [(.int (1 : Int32)), (.int (1 : Int32))])) _
        refine XS.icmpNo X732.here hx rfl (hb hby at_111) rfl (teq (rfl : (1 : Int32) = (1 : Int32))).2 ?_
        show Steps p.tables e below (T732.setTop (mkF m 114 #[.val (.int p0), .val (.ref b1), .val (.int (6 : Int32)), .val (.int (1 : Int32))] [])) _
        refine XS.iconst X732.here hx rfl (hb hby at_114) ?_
        show Steps p.tables e below (T732.setTop (mkF m 115 #[.val (.int p0), .val (.ref b1), .val (.int (6 : Int32)), .val (.int (1 : Int32))] [(.int (1 : Int32))])) _
        refine XS.goto X732.here hx rfl (pc0 := 115) (pc' := 119) rfl (hb hby at_115) (by decide) (by decide) ?_
        exact kt)
    obtain ⟨fs, hr, hrun, hended, hW, hsame⟩ := X732.leave (v := some (.int (1 : Int32))) (fun h => by rw [Bd.returns] at h; cases h)
    refine ⟨_, _, pre735 _ ?_, hrun, hended, _, _, rfl, ?_, ⟨_, rfl⟩, hW, hsame.mono (by decide) (by decide)⟩
    · show Steps p.tables e below (T732.setTop (mkF m 119 #[.val (.int p0), .val (.ref b1), .val (.int (6 : Int32)), .val (.int (1 : Int32))] [(.int (1 : Int32))])) _
      exact retN X732 hx (t := .boolean) Bd.returns (by simp) (hb hby at_119) hr
    · show Q0 Z _ _ _ _ _ _ _ _ _ _ _ _ _ h0 n0 _ T732.heap _
      rw [e732]
      exact ⟨rfl, N732, trivial⟩
  · skip
    obtain ⟨co736, Ao736, qo736, So736, No736, Ho736, Go736⟩ := id V637
    have hin737 : ¬ ((7 : Int32) < 0 ∨ co736.slots.size ≤ ((7 : Int32)).toNatClampNeg) := inb_of So736 ⟨by decide, by decide⟩
    have hat738 : co736.slots[((7 : Int32)).toNatClampNeg]? = some (.ref w_XZX_15) := Has.at Ho736 hin737 rfl
    obtain ⟨cq739, kq739, q739a, q739b, q739c⟩ := isOf hZ e637 f653
    obtain ⟨_, _, ⟨T739, L739, k739, n739⟩, -, X739, ⟨Lc739, hQ739, l739, y739, z739⟩, st739⟩ := X637.virtualBack hx (y := (⟨"com/example/rotarium/rotarium/EulerSequence", "isProperEuler", "()Z"⟩ : MethodName)) (z := (⟨"com/example/rotarium/rotarium/EulerSequence", "isProperEuler", "()Z"⟩ : MethodName)) hown (mvT hZ (hw _ (List.mem_of_getElem? (i := 29) rfl))) (mvT hZ (hw _ (List.mem_of_getElem? (i := 30) rfl))) (notFace_of_selects (args := #[]) (mvT hZ (hw _ (List.mem_of_getElem? (i := 32) rfl)))) (mvT hZ (hw _ (List.mem_of_getElem? (i := 32) rfl))) (mvT hZ (hw _ (List.mem_of_getElem? (i := 31) rfl))) (by decide) (backOf (W := 0) (rm1 l Z aw hw [] w_XZX_15 (0 : Int32) (0 : Int32) h637 n0 (Nat.le_trans (Nat.le_trans (Nat.le_trans (Nat.le_trans (Nat.le_trans (Nat.le_trans (Nat.le_trans (Nat.le_trans (Nat.le_trans (Nat.le_trans (Nat.le_trans (Nat.le_trans (Nat.le_trans Z0 E1.1) (Keep.of_wr W65).1) (Keep.of_wr W117).1) (Keep.of_wr W169).1) (Keep.of_wr W221).1) (Keep.of_wr W273).1) (Keep.of_wr W325).1) (Keep.of_wr W377).1) (Keep.of_wr W429).1) (Keep.of_wr W481).1) (Keep.of_wr W533).1) (Keep.of_wr W585).1) (Keep.of_wr W637).1) f668 f669) hZ (hw _ (List.mem_of_getElem? (i := 33) rfl)) (hw _ (List.mem_of_getElem? (i := 3) rfl)) (by decide) (by decide)) q739a q739c (g := (mkF m 107 #[.val (.int p0), .val (.ref b1), .val (.int (7 : Int32)), .val (.int (1 : Int32))] [(.ref w_XZX_15)])) rfl (by rw [hml]; rfl) (Steps.refl _) (argsL := []) (rest := []) (lenOf pd_0 rfl) rfl (by show 2 * 0 + _ ≤ _; exact Nat.le_of_eq rfl) (hb hby at_107) (fun _ _ => ⟨rfl, e637, (by decide : 1 + 0 ≤ _), (by decide : 12 + 0 ≤ _)⟩)
    dsimp only [Pt.U, Pt.locs, Pt.cells, Pt.slots] at X739 l739 y739 z739 st739 hQ739
    subst l739 y739 z739
    obtain ⟨⟨r740, rfl, Pr740⟩, Nq739, e739⟩ := hQ739
    have N739 := Fr.app N637 Nq739
    have pre741 : ∀ t, Steps p.tables e below (T739.setTop (mkF m 110 #[.val (.int p0), .val (.ref b1), .val (.int (7 : Int32)), .val (.int (1 : Int32))] [(.int r740)])) t → Steps p.tables e below (s₁.setTop (entryFrame m #[(.int p0)] maxLocals)) t := fun t kt => pre686 t (by
        show Steps p.tables e below (T637.setTop (mkF m 92 #[.val (.int p0), .val (.ref b1), .val (.int (7 : Int32)), .unset] [])) _
        refine XS.iloadN X637.here hx rfl (hb hby at_92) rfl ?_
        show Steps p.tables e below (T637.setTop (mkF m 93 #[.val (.int p0), .val (.ref b1), .val (.int (7 : Int32)), .unset] [(.int (7 : Int32))])) _
        refine XS.bipush X637.here hx rfl (hb hby at_93) ?_
        show Steps p.tables e below (T637.setTop (mkF m 95 #[.val (.int p0), .val (.ref b1), .val (.int (7 : Int32)), .unset] [(.int (6 : Int32)), (.int (7 : Int32))])) _
        refine XS.icmpNo X637.here hx rfl (hb hby at_95) rfl (flt (by decide : ¬ ((7 : Int32) < (6 : Int32)))).1 ?_
        show Steps p.tables e below (T637.setTop (mkF m 98 #[.val (.int p0), .val (.ref b1), .val (.int (7 : Int32)), .unset] [])) _
        refine XS.iconst X637.here hx rfl (hb hby at_98) ?_
        show Steps p.tables e below (T637.setTop (mkF m 99 #[.val (.int p0), .val (.ref b1), .val (.int (7 : Int32)), .unset] [(.int (1 : Int32))])) _
        refine XS.goto X637.here hx rfl (pc0 := 99) (pc' := 103) rfl (hb hby at_99) (by decide) (by decide) ?_
        show Steps p.tables e below (T637.setTop (mkF m 103 #[.val (.int p0), .val (.ref b1), .val (.int (7 : Int32)), .unset] [(.int (1 : Int32))])) _
        refine XS.istoreN X637.here hx rfl (hb hby at_103) rfl (l' := #[.val (.int p0), .val (.ref b1), .val (.int (7 : Int32)), .val (.int (1 : Int32))]) rfl ?_
        show Steps p.tables e below (T637.setTop (mkF m 104 #[.val (.int p0), .val (.ref b1), .val (.int (7 : Int32)), .val (.int (1 : Int32))] [])) _
        refine XS.aloadN X637.here hx rfl (hb hby at_104) rfl rfl ?_
        show Steps p.tables e below (T637.setTop (mkF m 105 #[.val (.int p0), .val (.ref b1), .val (.int (7 : Int32)), .val (.int (1 : Int32))] [(.ref b1)])) _
        refine XS.iloadN X637.here hx rfl (hb hby at_105) rfl ?_
        show Steps p.tables e below (T637.setTop (mkF m 106 #[.val (.int p0), .val (.ref b1), .val (.int (7 : Int32)), .val (.int (1 : Int32))] [(.int (7 : Int32)), (.ref b1)])) _
        refine X637.aaload hx (j := (7 : Int32)) (v := (.ref w_XZX_15)) (by rw [e637]; exact Ao736.1) (State.isArrayOf_alike hZ.alike Ao736.2.1) rfl Ao736.2.2 hin737 hat738 (g := (mkF m 106 #[.val (.int p0), .val (.ref b1), .val (.int (7 : Int32)), .val (.int (1 : Int32))] [(.int (7 : Int32)), (.ref b1)])) rfl rfl (hb hby at_106) _ ?_
        show Steps p.tables e below (T637.setTop (mkF m 107 #[.val (.int p0), .val (.ref b1), .val (.int (7 : Int32)), .val (.int (1 : Int32))] [(.ref w_XZX_15)])) _
        refine st739.trans ?_
        exact kt)
    obtain rfl : (1 : Int32) = r740 := Pr740.1 rfl
    have pre742 : ∀ t, Steps p.tables e below (T739.setTop (mkF m 119 #[.val (.int p0), .val (.ref b1), .val (.int (7 : Int32)), .val (.int (1 : Int32))] [(.int (1 : Int32))])) t → Steps p.tables e below (s₁.setTop (entryFrame m #[(.int p0)] maxLocals)) t := fun t kt => pre741 t (by
        show Steps p.tables e below (T739.setTop (mkF m 110 #[.val (.int p0), .val (.ref b1), .val (.int (7 : Int32)), .val (.int (1 : Int32))] [(.int (1 : Int32))])) _
        refine XS.iloadN X739.here hx rfl (hb hby at_110) rfl ?_
        show Steps p.tables e below (T739.setTop (mkF m 111 #[.val (.int p0), .val (.ref b1), .val (.int (7 : Int32)), .val (.int (1 : Int32))] [(.int (1 : Int32)), (.int (1 : Int32))])) _
        refine XS.icmpNo X739.here hx rfl (hb hby at_111) rfl (teq (rfl : (1 : Int32) = (1 : Int32))).2 ?_
        show Steps p.tables e below (T739.setTop (mkF m 114 #[.val (.int p0), .val (.ref b1), .val (.int (7 : Int32)), .val (.int (1 : Int32))] [])) _
        refine XS.iconst X739.here hx rfl (hb hby at_114) ?_
        show Steps p.tables e below (T739.setTop (mkF m 115 #[.val (.int p0), .val (.ref b1), .val (.int (7 : Int32)), .val (.int (1 : Int32))] [(.int (1 : Int32))])) _
        refine XS.goto X739.here hx rfl (pc0 := 115) (pc' := 119) rfl (hb hby at_115) (by decide) (by decide) ?_
        exact kt)
    obtain ⟨fs, hr, hrun, hended, hW, hsame⟩ := X739.leave (v := some (.int (1 : Int32))) (fun h => by rw [Bd.returns] at h; cases h)
    refine ⟨_, _, pre742 _ ?_, hrun, hended, _, _, rfl, ?_, ⟨_, rfl⟩, hW, hsame.mono (by decide) (by decide)⟩
    · show Steps p.tables e below (T739.setTop (mkF m 119 #[.val (.int p0), .val (.ref b1), .val (.int (7 : Int32)), .val (.int (1 : Int32))] [(.int (1 : Int32))])) _
      exact retN X739 hx (t := .boolean) Bd.returns (by simp) (hb hby at_119) hr
    · show Q0 Z _ _ _ _ _ _ _ _ _ _ _ _ _ h0 n0 _ T739.heap _
      rw [e739]
      exact ⟨rfl, N739, trivial⟩
  · skip
    obtain ⟨co743, Ao743, qo743, So743, No743, Ho743, Go743⟩ := id V637
    have hin744 : ¬ ((8 : Int32) < 0 ∨ co743.slots.size ≤ ((8 : Int32)).toNatClampNeg) := inb_of So743 ⟨by decide, by decide⟩
    have hat745 : co743.slots[((8 : Int32)).toNatClampNeg]? = some (.ref w_YXY_17) := Has.at Ho743 hin744 rfl
    obtain ⟨cq746, kq746, q746a, q746b, q746c⟩ := isOf hZ e637 f655
    obtain ⟨_, _, ⟨T746, L746, k746, n746⟩, -, X746, ⟨Lc746, hQ746, l746, y746, z746⟩, st746⟩ := X637.virtualBack hx (y := (⟨"com/example/rotarium/rotarium/EulerSequence", "isProperEuler", "()Z"⟩ : MethodName)) (z := (⟨"com/example/rotarium/rotarium/EulerSequence", "isProperEuler", "()Z"⟩ : MethodName)) hown (mvT hZ (hw _ (List.mem_of_getElem? (i := 29) rfl))) (mvT hZ (hw _ (List.mem_of_getElem? (i := 30) rfl))) (notFace_of_selects (args := #[]) (mvT hZ (hw _ (List.mem_of_getElem? (i := 32) rfl)))) (mvT hZ (hw _ (List.mem_of_getElem? (i := 32) rfl))) (mvT hZ (hw _ (List.mem_of_getElem? (i := 31) rfl))) (by decide) (backOf (W := 0) (rm1 l Z aw hw [] w_YXY_17 (1 : Int32) (1 : Int32) h637 n0 (Nat.le_trans (Nat.le_trans (Nat.le_trans (Nat.le_trans (Nat.le_trans (Nat.le_trans (Nat.le_trans (Nat.le_trans (Nat.le_trans (Nat.le_trans (Nat.le_trans (Nat.le_trans (Nat.le_trans Z0 E1.1) (Keep.of_wr W65).1) (Keep.of_wr W117).1) (Keep.of_wr W169).1) (Keep.of_wr W221).1) (Keep.of_wr W273).1) (Keep.of_wr W325).1) (Keep.of_wr W377).1) (Keep.of_wr W429).1) (Keep.of_wr W481).1) (Keep.of_wr W533).1) (Keep.of_wr W585).1) (Keep.of_wr W637).1) f674 f675) hZ (hw _ (List.mem_of_getElem? (i := 33) rfl)) (hw _ (List.mem_of_getElem? (i := 3) rfl)) (by decide) (by decide)) q746a q746c (g := (mkF m 107 #[.val (.int p0), .val (.ref b1), .val (.int (8 : Int32)), .val (.int (1 : Int32))] [(.ref w_YXY_17)])) rfl (by rw [hml]; rfl) (Steps.refl _) (argsL := []) (rest := []) (lenOf pd_0 rfl) rfl (by show 2 * 0 + _ ≤ _; exact Nat.le_of_eq rfl) (hb hby at_107) (fun _ _ => ⟨rfl, e637, (by decide : 1 + 0 ≤ _), (by decide : 12 + 0 ≤ _)⟩)
    dsimp only [Pt.U, Pt.locs, Pt.cells, Pt.slots] at X746 l746 y746 z746 st746 hQ746
    subst l746 y746 z746
    obtain ⟨⟨r747, rfl, Pr747⟩, Nq746, e746⟩ := hQ746
    have N746 := Fr.app N637 Nq746
    have pre748 : ∀ t, Steps p.tables e below (T746.setTop (mkF m 110 #[.val (.int p0), .val (.ref b1), .val (.int (8 : Int32)), .val (.int (1 : Int32))] [(.int r747)])) t → Steps p.tables e below (s₁.setTop (entryFrame m #[(.int p0)] maxLocals)) t := fun t kt => pre686 t (by
        show Steps p.tables e below (T637.setTop (mkF m 92 #[.val (.int p0), .val (.ref b1), .val (.int (8 : Int32)), .unset] [])) _
        refine XS.iloadN X637.here hx rfl (hb hby at_92) rfl ?_
        show Steps p.tables e below (T637.setTop (mkF m 93 #[.val (.int p0), .val (.ref b1), .val (.int (8 : Int32)), .unset] [(.int (8 : Int32))])) _
        refine XS.bipush X637.here hx rfl (hb hby at_93) ?_
        show Steps p.tables e below (T637.setTop (mkF m 95 #[.val (.int p0), .val (.ref b1), .val (.int (8 : Int32)), .unset] [(.int (6 : Int32)), (.int (8 : Int32))])) _
        refine XS.icmpNo X637.here hx rfl (hb hby at_95) rfl (flt (by decide : ¬ ((8 : Int32) < (6 : Int32)))).1 ?_
        show Steps p.tables e below (T637.setTop (mkF m 98 #[.val (.int p0), .val (.ref b1), .val (.int (8 : Int32)), .unset] [])) _
        refine XS.iconst X637.here hx rfl (hb hby at_98) ?_
        show Steps p.tables e below (T637.setTop (mkF m 99 #[.val (.int p0), .val (.ref b1), .val (.int (8 : Int32)), .unset] [(.int (1 : Int32))])) _
        refine XS.goto X637.here hx rfl (pc0 := 99) (pc' := 103) rfl (hb hby at_99) (by decide) (by decide) ?_
        show Steps p.tables e below (T637.setTop (mkF m 103 #[.val (.int p0), .val (.ref b1), .val (.int (8 : Int32)), .unset] [(.int (1 : Int32))])) _
        refine XS.istoreN X637.here hx rfl (hb hby at_103) rfl (l' := #[.val (.int p0), .val (.ref b1), .val (.int (8 : Int32)), .val (.int (1 : Int32))]) rfl ?_
        show Steps p.tables e below (T637.setTop (mkF m 104 #[.val (.int p0), .val (.ref b1), .val (.int (8 : Int32)), .val (.int (1 : Int32))] [])) _
        refine XS.aloadN X637.here hx rfl (hb hby at_104) rfl rfl ?_
        show Steps p.tables e below (T637.setTop (mkF m 105 #[.val (.int p0), .val (.ref b1), .val (.int (8 : Int32)), .val (.int (1 : Int32))] [(.ref b1)])) _
        refine XS.iloadN X637.here hx rfl (hb hby at_105) rfl ?_
        show Steps p.tables e below (T637.setTop (mkF m 106 #[.val (.int p0), .val (.ref b1), .val (.int (8 : Int32)), .val (.int (1 : Int32))] [(.int (8 : Int32)), (.ref b1)])) _
        refine X637.aaload hx (j := (8 : Int32)) (v := (.ref w_YXY_17)) (by rw [e637]; exact Ao743.1) (State.isArrayOf_alike hZ.alike Ao743.2.1) rfl Ao743.2.2 hin744 hat745 (g := (mkF m 106 #[.val (.int p0), .val (.ref b1), .val (.int (8 : Int32)), .val (.int (1 : Int32))] [(.int (8 : Int32)), (.ref b1)])) rfl rfl (hb hby at_106) _ ?_
        show Steps p.tables e below (T637.setTop (mkF m 107 #[.val (.int p0), .val (.ref b1), .val (.int (8 : Int32)), .val (.int (1 : Int32))] [(.ref w_YXY_17)])) _
        refine st746.trans ?_
        exact kt)
    obtain rfl : (1 : Int32) = r747 := Pr747.1 rfl
    have pre749 : ∀ t, Steps p.tables e below (T746.setTop (mkF m 119 #[.val (.int p0), .val (.ref b1), .val (.int (8 : Int32)), .val (.int (1 : Int32))] [(.int (1 : Int32))])) t → Steps p.tables e below (s₁.setTop (entryFrame m #[(.int p0)] maxLocals)) t := fun t kt => pre748 t (by
        show Steps p.tables e below (T746.setTop (mkF m 110 #[.val (.int p0), .val (.ref b1), .val (.int (8 : Int32)), .val (.int (1 : Int32))] [(.int (1 : Int32))])) _
        refine XS.iloadN X746.here hx rfl (hb hby at_110) rfl ?_
        show Steps p.tables e below (T746.setTop (mkF m 111 #[.val (.int p0), .val (.ref b1), .val (.int (8 : Int32)), .val (.int (1 : Int32))] [(.int (1 : Int32)), (.int (1 : Int32))])) _
        refine XS.icmpNo X746.here hx rfl (hb hby at_111) rfl (teq (rfl : (1 : Int32) = (1 : Int32))).2 ?_
        show Steps p.tables e below (T746.setTop (mkF m 114 #[.val (.int p0), .val (.ref b1), .val (.int (8 : Int32)), .val (.int (1 : Int32))] [])) _
        refine XS.iconst X746.here hx rfl (hb hby at_114) ?_
        show Steps p.tables e below (T746.setTop (mkF m 115 #[.val (.int p0), .val (.ref b1), .val (.int (8 : Int32)), .val (.int (1 : Int32))] [(.int (1 : Int32))])) _
        refine XS.goto X746.here hx rfl (pc0 := 115) (pc' := 119) rfl (hb hby at_115) (by decide) (by decide) ?_
        exact kt)
    obtain ⟨fs, hr, hrun, hended, hW, hsame⟩ := X746.leave (v := some (.int (1 : Int32))) (fun h => by rw [Bd.returns] at h; cases h)
    refine ⟨_, _, pre749 _ ?_, hrun, hended, _, _, rfl, ?_, ⟨_, rfl⟩, hW, hsame.mono (by decide) (by decide)⟩
    · show Steps p.tables e below (T746.setTop (mkF m 119 #[.val (.int p0), .val (.ref b1), .val (.int (8 : Int32)), .val (.int (1 : Int32))] [(.int (1 : Int32))])) _
      exact retN X746 hx (t := .boolean) Bd.returns (by simp) (hb hby at_119) hr
    · show Q0 Z _ _ _ _ _ _ _ _ _ _ _ _ _ h0 n0 _ T746.heap _
      rw [e746]
      exact ⟨rfl, N746, trivial⟩
  · skip
    obtain ⟨co750, Ao750, qo750, So750, No750, Ho750, Go750⟩ := id V637
    have hin751 : ¬ ((9 : Int32) < 0 ∨ co750.slots.size ≤ ((9 : Int32)).toNatClampNeg) := inb_of So750 ⟨by decide, by decide⟩
    have hat752 : co750.slots[((9 : Int32)).toNatClampNeg]? = some (.ref w_YZY_19) := Has.at Ho750 hin751 rfl
    obtain ⟨cq753, kq753, q753a, q753b, q753c⟩ := isOf hZ e637 f657
    obtain ⟨_, _, ⟨T753, L753, k753, n753⟩, -, X753, ⟨Lc753, hQ753, l753, y753, z753⟩, st753⟩ := X637.virtualBack hx (y := (⟨"com/example/rotarium/rotarium/EulerSequence", "isProperEuler", "()Z"⟩ : MethodName)) (z := (⟨"com/example/rotarium/rotarium/EulerSequence", "isProperEuler", "()Z"⟩ : MethodName)) hown (mvT hZ (hw _ (List.mem_of_getElem? (i := 29) rfl))) (mvT hZ (hw _ (List.mem_of_getElem? (i := 30) rfl))) (notFace_of_selects (args := #[]) (mvT hZ (hw _ (List.mem_of_getElem? (i := 32) rfl)))) (mvT hZ (hw _ (List.mem_of_getElem? (i := 32) rfl))) (mvT hZ (hw _ (List.mem_of_getElem? (i := 31) rfl))) (by decide) (backOf (W := 0) (rm1 l Z aw hw [] w_YZY_19 (1 : Int32) (1 : Int32) h637 n0 (Nat.le_trans (Nat.le_trans (Nat.le_trans (Nat.le_trans (Nat.le_trans (Nat.le_trans (Nat.le_trans (Nat.le_trans (Nat.le_trans (Nat.le_trans (Nat.le_trans (Nat.le_trans (Nat.le_trans Z0 E1.1) (Keep.of_wr W65).1) (Keep.of_wr W117).1) (Keep.of_wr W169).1) (Keep.of_wr W221).1) (Keep.of_wr W273).1) (Keep.of_wr W325).1) (Keep.of_wr W377).1) (Keep.of_wr W429).1) (Keep.of_wr W481).1) (Keep.of_wr W533).1) (Keep.of_wr W585).1) (Keep.of_wr W637).1) f680 f681) hZ (hw _ (List.mem_of_getElem? (i := 33) rfl)) (hw _ (List.mem_of_getElem? (i := 3) rfl)) (by decide) (by decide)) q753a q753c (g := (mkF m 107 #[.val (.int p0), .val (.ref b1), .val (.int (9 : Int32)), .val (.int (1 : Int32))] [(.ref w_YZY_19)])) rfl (by rw [hml]; rfl) (Steps.refl _) (argsL := []) (rest := []) (lenOf pd_0 rfl) rfl (by show 2 * 0 + _ ≤ _; exact Nat.le_of_eq rfl) (hb hby at_107) (fun _ _ => ⟨rfl, e637, (by decide : 1 + 0 ≤ _), (by decide : 12 + 0 ≤ _)⟩)
    dsimp only [Pt.U, Pt.locs, Pt.cells, Pt.slots] at X753 l753 y753 z753 st753 hQ753
    subst l753 y753 z753
    obtain ⟨⟨r754, rfl, Pr754⟩, Nq753, e753⟩ := hQ753
    have N753 := Fr.app N637 Nq753
    have pre755 : ∀ t, Steps p.tables e below (T753.setTop (mkF m 110 #[.val (.int p0), .val (.ref b1), .val (.int (9 : Int32)), .val (.int (1 : Int32))] [(.int r754)])) t → Steps p.tables e below (s₁.setTop (entryFrame m #[(.int p0)] maxLocals)) t := fun t kt => pre686 t (by
        show Steps p.tables e below (T637.setTop (mkF m 92 #[.val (.int p0), .val (.ref b1), .val (.int (9 : Int32)), .unset] [])) _
        refine XS.iloadN X637.here hx rfl (hb hby at_92) rfl ?_
        show Steps p.tables e below (T637.setTop (mkF m 93 #[.val (.int p0), .val (.ref b1), .val (.int (9 : Int32)), .unset] [(.int (9 : Int32))])) _
        refine XS.bipush X637.here hx rfl (hb hby at_93) ?_
        show Steps p.tables e below (T637.setTop (mkF m 95 #[.val (.int p0), .val (.ref b1), .val (.int (9 : Int32)), .unset] [(.int (6 : Int32)), (.int (9 : Int32))])) _
        refine XS.icmpNo X637.here hx rfl (hb hby at_95) rfl (flt (by decide : ¬ ((9 : Int32) < (6 : Int32)))).1 ?_
        show Steps p.tables e below (T637.setTop (mkF m 98 #[.val (.int p0), .val (.ref b1), .val (.int (9 : Int32)), .unset] [])) _
        refine XS.iconst X637.here hx rfl (hb hby at_98) ?_
        show Steps p.tables e below (T637.setTop (mkF m 99 #[.val (.int p0), .val (.ref b1), .val (.int (9 : Int32)), .unset] [(.int (1 : Int32))])) _
        refine XS.goto X637.here hx rfl (pc0 := 99) (pc' := 103) rfl (hb hby at_99) (by decide) (by decide) ?_
        show Steps p.tables e below (T637.setTop (mkF m 103 #[.val (.int p0), .val (.ref b1), .val (.int (9 : Int32)), .unset] [(.int (1 : Int32))])) _
        refine XS.istoreN X637.here hx rfl (hb hby at_103) rfl (l' := #[.val (.int p0), .val (.ref b1), .val (.int (9 : Int32)), .val (.int (1 : Int32))]) rfl ?_
        show Steps p.tables e below (T637.setTop (mkF m 104 #[.val (.int p0), .val (.ref b1), .val (.int (9 : Int32)), .val (.int (1 : Int32))] [])) _
        refine XS.aloadN X637.here hx rfl (hb hby at_104) rfl rfl ?_
        show Steps p.tables e below (T637.setTop (mkF m 105 #[.val (.int p0), .val (.ref b1), .val (.int (9 : Int32)), .val (.int (1 : Int32))] [(.ref b1)])) _
        refine XS.iloadN X637.here hx rfl (hb hby at_105) rfl ?_
        show Steps p.tables e below (T637.setTop (mkF m 106 #[.val (.int p0), .val (.ref b1), .val (.int (9 : Int32)), .val (.int (1 : Int32))] [(.int (9 : Int32)), (.ref b1)])) _
        refine X637.aaload hx (j := (9 : Int32)) (v := (.ref w_YZY_19)) (by rw [e637]; exact Ao750.1) (State.isArrayOf_alike hZ.alike Ao750.2.1) rfl Ao750.2.2 hin751 hat752 (g := (mkF m 106 #[.val (.int p0), .val (.ref b1), .val (.int (9 : Int32)), .val (.int (1 : Int32))] [(.int (9 : Int32)), (.ref b1)])) rfl rfl (hb hby at_106) _ ?_
        show Steps p.tables e below (T637.setTop (mkF m 107 #[.val (.int p0), .val (.ref b1), .val (.int (9 : Int32)), .val (.int (1 : Int32))] [(.ref w_YZY_19)])) _
        refine st753.trans ?_
        exact kt)
    obtain rfl : (1 : Int32) = r754 := Pr754.1 rfl
    have pre756 : ∀ t, Steps p.tables e below (T753.setTop (mkF m 119 #[.val (.int p0), .val (.ref b1), .val (.int (9 : Int32)), .val (.int (1 : Int32))] [(.int (1 : Int32))])) t → Steps p.tables e below (s₁.setTop (entryFrame m #[(.int p0)] maxLocals)) t := fun t kt => pre755 t (by
        show Steps p.tables e below (T753.setTop (mkF m 110 #[.val (.int p0), .val (.ref b1), .val (.int (9 : Int32)), .val (.int (1 : Int32))] [(.int (1 : Int32))])) _
        refine XS.iloadN X753.here hx rfl (hb hby at_110) rfl ?_
        show Steps p.tables e below (T753.setTop (mkF m 111 #[.val (.int p0), .val (.ref b1), .val (.int (9 : Int32)), .val (.int (1 : Int32))] [(.int (1 : Int32)), (.int (1 : Int32))])) _
        refine XS.icmpNo X753.here hx rfl (hb hby at_111) rfl (teq (rfl : (1 : Int32) = (1 : Int32))).2 ?_
        show Steps p.tables e below (T753.setTop (mkF m 114 #[.val (.int p0), .val (.ref b1), .val (.int (9 : Int32)), .val (.int (1 : Int32))] [])) _
        refine XS.iconst X753.here hx rfl (hb hby at_114) ?_
        show Steps p.tables e below (T753.setTop (mkF m 115 #[.val (.int p0), .val (.ref b1), .val (.int (9 : Int32)), .val (.int (1 : Int32))] [(.int (1 : Int32))])) _
        refine XS.goto X753.here hx rfl (pc0 := 115) (pc' := 119) rfl (hb hby at_115) (by decide) (by decide) ?_
        exact kt)
    obtain ⟨fs, hr, hrun, hended, hW, hsame⟩ := X753.leave (v := some (.int (1 : Int32))) (fun h => by rw [Bd.returns] at h; cases h)
    refine ⟨_, _, pre756 _ ?_, hrun, hended, _, _, rfl, ?_, ⟨_, rfl⟩, hW, hsame.mono (by decide) (by decide)⟩
    · show Steps p.tables e below (T753.setTop (mkF m 119 #[.val (.int p0), .val (.ref b1), .val (.int (9 : Int32)), .val (.int (1 : Int32))] [(.int (1 : Int32))])) _
      exact retN X753 hx (t := .boolean) Bd.returns (by simp) (hb hby at_119) hr
    · show Q0 Z _ _ _ _ _ _ _ _ _ _ _ _ _ h0 n0 _ T753.heap _
      rw [e753]
      exact ⟨rfl, N753, trivial⟩
  · skip
    obtain ⟨co757, Ao757, qo757, So757, No757, Ho757, Go757⟩ := id V637
    have hin758 : ¬ ((10 : Int32) < 0 ∨ co757.slots.size ≤ ((10 : Int32)).toNatClampNeg) := inb_of So757 ⟨by decide, by decide⟩
    have hat759 : co757.slots[((10 : Int32)).toNatClampNeg]? = some (.ref w_ZXZ_21) := Has.at Ho757 hin758 rfl
    obtain ⟨cq760, kq760, q760a, q760b, q760c⟩ := isOf hZ e637 f659
    obtain ⟨_, _, ⟨T760, L760, k760, n760⟩, -, X760, ⟨Lc760, hQ760, l760, y760, z760⟩, st760⟩ := X637.virtualBack hx (y := (⟨"com/example/rotarium/rotarium/EulerSequence", "isProperEuler", "()Z"⟩ : MethodName)) (z := (⟨"com/example/rotarium/rotarium/EulerSequence", "isProperEuler", "()Z"⟩ : MethodName)) hown (mvT hZ (hw _ (List.mem_of_getElem? (i := 29) rfl))) (mvT hZ (hw _ (List.mem_of_getElem? (i := 30) rfl))) (notFace_of_selects (args := #[]) (mvT hZ (hw _ (List.mem_of_getElem? (i := 32) rfl)))) (mvT hZ (hw _ (List.mem_of_getElem? (i := 32) rfl))) (mvT hZ (hw _ (List.mem_of_getElem? (i := 31) rfl))) (by decide) (backOf (W := 0) (rm1 l Z aw hw [] w_ZXZ_21 (2 : Int32) (2 : Int32) h637 n0 (Nat.le_trans (Nat.le_trans (Nat.le_trans (Nat.le_trans (Nat.le_trans (Nat.le_trans (Nat.le_trans (Nat.le_trans (Nat.le_trans (Nat.le_trans (Nat.le_trans (Nat.le_trans (Nat.le_trans Z0 E1.1) (Keep.of_wr W65).1) (Keep.of_wr W117).1) (Keep.of_wr W169).1) (Keep.of_wr W221).1) (Keep.of_wr W273).1) (Keep.of_wr W325).1) (Keep.of_wr W377).1) (Keep.of_wr W429).1) (Keep.of_wr W481).1) (Keep.of_wr W533).1) (Keep.of_wr W585).1) (Keep.of_wr W637).1) f678 f679) hZ (hw _ (List.mem_of_getElem? (i := 33) rfl)) (hw _ (List.mem_of_getElem? (i := 3) rfl)) (by decide) (by decide)) q760a q760c (g := (mkF m 107 #[.val (.int p0), .val (.ref b1), .val (.int (10 : Int32)), .val (.int (1 : Int32))] [(.ref w_ZXZ_21)])) rfl (by rw [hml]; rfl) (Steps.refl _) (argsL := []) (rest := []) (lenOf pd_0 rfl) rfl (by show 2 * 0 + _ ≤ _; exact Nat.le_of_eq rfl) (hb hby at_107) (fun _ _ => ⟨rfl, e637, (by decide : 1 + 0 ≤ _), (by decide : 12 + 0 ≤ _)⟩)
    dsimp only [Pt.U, Pt.locs, Pt.cells, Pt.slots] at X760 l760 y760 z760 st760 hQ760
    subst l760 y760 z760
    obtain ⟨⟨r761, rfl, Pr761⟩, Nq760, e760⟩ := hQ760
    have N760 := Fr.app N637 Nq760
    have pre762 : ∀ t, Steps p.tables e below (T760.setTop (mkF m 110 #[.val (.int p0), .val (.ref b1), .val (.int (10 : Int32)), .val (.int (1 : Int32))] [(.int r761)])) t → Steps p.tables e below (s₁.setTop (entryFrame m #[(.int p0)] maxLocals)) t := fun t kt => pre686 t (by
        show Steps p.tables e below (T637.setTop (mkF m 92 #[.val (.int p0), .val (.ref b1), .val (.int (10 : Int32)), .unset] [])) _
        refine XS.iloadN X637.here hx rfl (hb hby at_92) rfl ?_
        show Steps p.tables e below (T637.setTop (mkF m 93 #[.val (.int p0), .val (.ref b1), .val (.int (10 : Int32)), .unset] [(.int (10 : Int32))])) _
        refine XS.bipush X637.here hx rfl (hb hby at_93) ?_
        show Steps p.tables e below (T637.setTop (mkF m 95 #[.val (.int p0), .val (.ref b1), .val (.int (10 : Int32)), .unset] [(.int (6 : Int32)), (.int (10 : Int32))])) _
        refine XS.icmpNo X637.here hx rfl (hb hby at_95) rfl (flt (by decide : ¬ ((10 : Int32) < (6 : Int32)))).1 ?_
        show Steps p.tables e below (T637.setTop (mkF m 98 #[.val (.int p0), .val (.ref b1), .val (.int (10 : Int32)), .unset] [])) _
        refine XS.iconst X637.here hx rfl (hb hby at_98) ?_
        show Steps p.tables e below (T637.setTop (mkF m 99 #[.val (.int p0), .val (.ref b1), .val (.int (10 : Int32)), .unset] [(.int (1 : Int32))])) _
        refine XS.goto X637.here hx rfl (pc0 := 99) (pc' := 103) rfl (hb hby at_99) (by decide) (by decide) ?_
        show Steps p.tables e below (T637.setTop (mkF m 103 #[.val (.int p0), .val (.ref b1), .val (.int (10 : Int32)), .unset] [(.int (1 : Int32))])) _
        refine XS.istoreN X637.here hx rfl (hb hby at_103) rfl (l' := #[.val (.int p0), .val (.ref b1), .val (.int (10 : Int32)), .val (.int (1 : Int32))]) rfl ?_
        show Steps p.tables e below (T637.setTop (mkF m 104 #[.val (.int p0), .val (.ref b1), .val (.int (10 : Int32)), .val (.int (1 : Int32))] [])) _
        refine XS.aloadN X637.here hx rfl (hb hby at_104) rfl rfl ?_
        show Steps p.tables e below (T637.setTop (mkF m 105 #[.val (.int p0), .val (.ref b1), .val (.int (10 : Int32)), .val (.int (1 : Int32))] [(.ref b1)])) _
        refine XS.iloadN X637.here hx rfl (hb hby at_105) rfl ?_
        show Steps p.tables e below (T637.setTop (mkF m 106 #[.val (.int p0), .val (.ref b1), .val (.int (10 : Int32)), .val (.int (1 : Int32))] [(.int (10 : Int32)), (.ref b1)])) _
        refine X637.aaload hx (j := (10 : Int32)) (v := (.ref w_ZXZ_21)) (by rw [e637]; exact Ao757.1) (State.isArrayOf_alike hZ.alike Ao757.2.1) rfl Ao757.2.2 hin758 hat759 (g := (mkF m 106 #[.val (.int p0), .val (.ref b1), .val (.int (10 : Int32)), .val (.int (1 : Int32))] [(.int (10 : Int32)), (.ref b1)])) rfl rfl (hb hby at_106) _ ?_
        show Steps p.tables e below (T637.setTop (mkF m 107 #[.val (.int p0), .val (.ref b1), .val (.int (10 : Int32)), .val (.int (1 : Int32))] [(.ref w_ZXZ_21)])) _
        refine st760.trans ?_
        exact kt)
    obtain rfl : (1 : Int32) = r761 := Pr761.1 rfl
    have pre763 : ∀ t, Steps p.tables e below (T760.setTop (mkF m 119 #[.val (.int p0), .val (.ref b1), .val (.int (10 : Int32)), .val (.int (1 : Int32))] [(.int (1 : Int32))])) t → Steps p.tables e below (s₁.setTop (entryFrame m #[(.int p0)] maxLocals)) t := fun t kt => pre762 t (by
        show Steps p.tables e below (T760.setTop (mkF m 110 #[.val (.int p0), .val (.ref b1), .val (.int (10 : Int32)), .val (.int (1 : Int32))] [(.int (1 : Int32))])) _
        refine XS.iloadN X760.here hx rfl (hb hby at_110) rfl ?_
        show Steps p.tables e below (T760.setTop (mkF m 111 #[.val (.int p0), .val (.ref b1), .val (.int (10 : Int32)), .val (.int (1 : Int32))] [(.int (1 : Int32)), (.int (1 : Int32))])) _
        refine XS.icmpNo X760.here hx rfl (hb hby at_111) rfl (teq (rfl : (1 : Int32) = (1 : Int32))).2 ?_
        show Steps p.tables e below (T760.setTop (mkF m 114 #[.val (.int p0), .val (.ref b1), .val (.int (10 : Int32)), .val (.int (1 : Int32))] [])) _
        refine XS.iconst X760.here hx rfl (hb hby at_114) ?_
        show Steps p.tables e below (T760.setTop (mkF m 115 #[.val (.int p0), .val (.ref b1), .val (.int (10 : Int32)), .val (.int (1 : Int32))] [(.int (1 : Int32))])) _
        refine XS.goto X760.here hx rfl (pc0 := 115) (pc' := 119) rfl (hb hby at_115) (by decide) (by decide) ?_
        exact kt)
    obtain ⟨fs, hr, hrun, hended, hW, hsame⟩ := X760.leave (v := some (.int (1 : Int32))) (fun h => by rw [Bd.returns] at h; cases h)
    refine ⟨_, _, pre763 _ ?_, hrun, hended, _, _, rfl, ?_, ⟨_, rfl⟩, hW, hsame.mono (by decide) (by decide)⟩
    · show Steps p.tables e below (T760.setTop (mkF m 119 #[.val (.int p0), .val (.ref b1), .val (.int (10 : Int32)), .val (.int (1 : Int32))] [(.int (1 : Int32))])) _
      exact retN X760 hx (t := .boolean) Bd.returns (by simp) (hb hby at_119) hr
    · show Q0 Z _ _ _ _ _ _ _ _ _ _ _ _ _ h0 n0 _ T760.heap _
      rw [e760]
      exact ⟨rfl, N760, trivial⟩
  · skip
    obtain ⟨co764, Ao764, qo764, So764, No764, Ho764, Go764⟩ := id V637
    have hin765 : ¬ ((11 : Int32) < 0 ∨ co764.slots.size ≤ ((11 : Int32)).toNatClampNeg) := inb_of So764 ⟨by decide, by decide⟩
    have hat766 : co764.slots[((11 : Int32)).toNatClampNeg]? = some (.ref w_ZYZ_23) := Has.at Ho764 hin765 rfl
    obtain ⟨cq767, kq767, q767a, q767b, q767c⟩ := isOf hZ e637 f661
    obtain ⟨_, _, ⟨T767, L767, k767, n767⟩, -, X767, ⟨Lc767, hQ767, l767, y767, z767⟩, st767⟩ := X637.virtualBack hx (y := (⟨"com/example/rotarium/rotarium/EulerSequence", "isProperEuler", "()Z"⟩ : MethodName)) (z := (⟨"com/example/rotarium/rotarium/EulerSequence", "isProperEuler", "()Z"⟩ : MethodName)) hown (mvT hZ (hw _ (List.mem_of_getElem? (i := 29) rfl))) (mvT hZ (hw _ (List.mem_of_getElem? (i := 30) rfl))) (notFace_of_selects (args := #[]) (mvT hZ (hw _ (List.mem_of_getElem? (i := 32) rfl)))) (mvT hZ (hw _ (List.mem_of_getElem? (i := 32) rfl))) (mvT hZ (hw _ (List.mem_of_getElem? (i := 31) rfl))) (by decide) (backOf (W := 0) (rm1 l Z aw hw [] w_ZYZ_23 (2 : Int32) (2 : Int32) h637 n0 (Nat.le_trans (Nat.le_trans (Nat.le_trans (Nat.le_trans (Nat.le_trans (Nat.le_trans (Nat.le_trans (Nat.le_trans (Nat.le_trans (Nat.le_trans (Nat.le_trans (Nat.le_trans (Nat.le_trans Z0 E1.1) (Keep.of_wr W65).1) (Keep.of_wr W117).1) (Keep.of_wr W169).1) (Keep.of_wr W221).1) (Keep.of_wr W273).1) (Keep.of_wr W325).1) (Keep.of_wr W377).1) (Keep.of_wr W429).1) (Keep.of_wr W481).1) (Keep.of_wr W533).1) (Keep.of_wr W585).1) (Keep.of_wr W637).1) f670 f671) hZ (hw _ (List.mem_of_getElem? (i := 33) rfl)) (hw _ (List.mem_of_getElem? (i := 3) rfl)) (by decide) (by decide)) q767a q767c (g := (mkF m 107 #[.val (.int p0), .val (.ref b1), .val (.int (11 : Int32)), .val (.int (1 : Int32))] [(.ref w_ZYZ_23)])) rfl (by rw [hml]; rfl) (Steps.refl _) (argsL := []) (rest := []) (lenOf pd_0 rfl) rfl (by show 2 * 0 + _ ≤ _; exact Nat.le_of_eq rfl) (hb hby at_107) (fun _ _ => ⟨rfl, e637, (by decide : 1 + 0 ≤ _), (by decide : 12 + 0 ≤ _)⟩)
    dsimp only [Pt.U, Pt.locs, Pt.cells, Pt.slots] at X767 l767 y767 z767 st767 hQ767
    subst l767 y767 z767
    obtain ⟨⟨r768, rfl, Pr768⟩, Nq767, e767⟩ := hQ767
    have N767 := Fr.app N637 Nq767
    have pre769 : ∀ t, Steps p.tables e below (T767.setTop (mkF m 110 #[.val (.int p0), .val (.ref b1), .val (.int (11 : Int32)), .val (.int (1 : Int32))] [(.int r768)])) t → Steps p.tables e below (s₁.setTop (entryFrame m #[(.int p0)] maxLocals)) t := fun t kt => pre686 t (by
        show Steps p.tables e below (T637.setTop (mkF m 92 #[.val (.int p0), .val (.ref b1), .val (.int (11 : Int32)), .unset] [])) _
        refine XS.iloadN X637.here hx rfl (hb hby at_92) rfl ?_
        show Steps p.tables e below (T637.setTop (mkF m 93 #[.val (.int p0), .val (.ref b1), .val (.int (11 : Int32)), .unset] [(.int (11 : Int32))])) _
        refine XS.bipush X637.here hx rfl (hb hby at_93) ?_
        show Steps p.tables e below (T637.setTop (mkF m 95 #[.val (.int p0), .val (.ref b1), .val (.int (11 : Int32)), .unset] [(.int (6 : Int32)), (.int (11 : Int32))])) _
        refine XS.icmpNo X637.here hx rfl (hb hby at_95) rfl (flt (by decide : ¬ ((11 : Int32) < (6 : Int32)))).1 ?_
        show Steps p.tables e below (T637.setTop (mkF m 98 #[.val (.int p0), .val (.ref b1), .val (.int (11 : Int32)), .unset] [])) _
        refine XS.iconst X637.here hx rfl (hb hby at_98) ?_
        show Steps p.tables e below (T637.setTop (mkF m 99 #[.val (.int p0), .val (.ref b1), .val (.int (11 : Int32)), .unset] [(.int (1 : Int32))])) _
        refine XS.goto X637.here hx rfl (pc0 := 99) (pc' := 103) rfl (hb hby at_99) (by decide) (by decide) ?_
        show Steps p.tables e below (T637.setTop (mkF m 103 #[.val (.int p0), .val (.ref b1), .val (.int (11 : Int32)), .unset] [(.int (1 : Int32))])) _
        refine XS.istoreN X637.here hx rfl (hb hby at_103) rfl (l' := #[.val (.int p0), .val (.ref b1), .val (.int (11 : Int32)), .val (.int (1 : Int32))]) rfl ?_
        show Steps p.tables e below (T637.setTop (mkF m 104 #[.val (.int p0), .val (.ref b1), .val (.int (11 : Int32)), .val (.int (1 : Int32))] [])) _
        refine XS.aloadN X637.here hx rfl (hb hby at_104) rfl rfl ?_
        show Steps p.tables e below (T637.setTop (mkF m 105 #[.val (.int p0), .val (.ref b1), .val (.int (11 : Int32)), .val (.int (1 : Int32))] [(.ref b1)])) _
        refine XS.iloadN X637.here hx rfl (hb hby at_105) rfl ?_
        show Steps p.tables e below (T637.setTop (mkF m 106 #[.val (.int p0), .val (.ref b1), .val (.int (11 : Int32)), .val (.int (1 : Int32))] [(.int (11 : Int32)), (.ref b1)])) _
        refine X637.aaload hx (j := (11 : Int32)) (v := (.ref w_ZYZ_23)) (by rw [e637]; exact Ao764.1) (State.isArrayOf_alike hZ.alike Ao764.2.1) rfl Ao764.2.2 hin765 hat766 (g := (mkF m 106 #[.val (.int p0), .val (.ref b1), .val (.int (11 : Int32)), .val (.int (1 : Int32))] [(.int (11 : Int32)), (.ref b1)])) rfl rfl (hb hby at_106) _ ?_
        show Steps p.tables e below (T637.setTop (mkF m 107 #[.val (.int p0), .val (.ref b1), .val (.int (11 : Int32)), .val (.int (1 : Int32))] [(.ref w_ZYZ_23)])) _
        refine st767.trans ?_
        exact kt)
    obtain rfl : (1 : Int32) = r768 := Pr768.1 rfl
    have pre770 : ∀ t, Steps p.tables e below (T767.setTop (mkF m 119 #[.val (.int p0), .val (.ref b1), .val (.int (11 : Int32)), .val (.int (1 : Int32))] [(.int (1 : Int32))])) t → Steps p.tables e below (s₁.setTop (entryFrame m #[(.int p0)] maxLocals)) t := fun t kt => pre769 t (by
        show Steps p.tables e below (T767.setTop (mkF m 110 #[.val (.int p0), .val (.ref b1), .val (.int (11 : Int32)), .val (.int (1 : Int32))] [(.int (1 : Int32))])) _
        refine XS.iloadN X767.here hx rfl (hb hby at_110) rfl ?_
        show Steps p.tables e below (T767.setTop (mkF m 111 #[.val (.int p0), .val (.ref b1), .val (.int (11 : Int32)), .val (.int (1 : Int32))] [(.int (1 : Int32)), (.int (1 : Int32))])) _
        refine XS.icmpNo X767.here hx rfl (hb hby at_111) rfl (teq (rfl : (1 : Int32) = (1 : Int32))).2 ?_
        show Steps p.tables e below (T767.setTop (mkF m 114 #[.val (.int p0), .val (.ref b1), .val (.int (11 : Int32)), .val (.int (1 : Int32))] [])) _
        refine XS.iconst X767.here hx rfl (hb hby at_114) ?_
        show Steps p.tables e below (T767.setTop (mkF m 115 #[.val (.int p0), .val (.ref b1), .val (.int (11 : Int32)), .val (.int (1 : Int32))] [(.int (1 : Int32))])) _
        refine XS.goto X767.here hx rfl (pc0 := 115) (pc' := 119) rfl (hb hby at_115) (by decide) (by decide) ?_
        exact kt)
    obtain ⟨fs, hr, hrun, hended, hW, hsame⟩ := X767.leave (v := some (.int (1 : Int32))) (fun h => by rw [Bd.returns] at h; cases h)
    refine ⟨_, _, pre770 _ ?_, hrun, hended, _, _, rfl, ?_, ⟨_, rfl⟩, hW, hsame.mono (by decide) (by decide)⟩
    · show Steps p.tables e below (T767.setTop (mkF m 119 #[.val (.int p0), .val (.ref b1), .val (.int (11 : Int32)), .val (.int (1 : Int32))] [(.int (1 : Int32))])) _
      exact retN X767 hx (t := .boolean) Bd.returns (by simp) (hb hby at_119) hr
    · show Q0 Z _ _ _ _ _ _ _ _ _ _ _ _ _ h0 n0 _ T767.heap _
      rw [e767]
      exact ⟨rfl, N767, trivial⟩
set_option maxRecDepth 65536 in
set_option maxHeartbeats 40000000 in
theorem comes_1 {Post : Tables → Env → Array Value → State → Outcome → State → Prop} (hpost : ∀ tb e args s v u, (limb_1_1.after args s (.returned v) u = true ∧ limb_1_2.after args s (.returned v) u = true ∧ True) → FrameEnd s (.returned v) u (Jvm.fieldLocs frame_1_writes args s ++ Jvm.arrayLocs frame_1_arrays args s ++ Jvm.staticLocs frame_1_statics s) 16 128 → Post tb e args s (.returned v) u) :
    ArmFor flags0 classFile x code maxLocals ret World_1 tables_1 room_1 Calls_1 rest_1 Pre_1 Post := by
  intro l hfl _ _ p e ha hc hk s m args below hf hA hF happ hP
  obtain ⟨hcalls, hrest, hpre⟩ := hP
  obtain ⟨-, -, -, hnamed, -, -, -, hat⟩ := (Spec.applies_iff hf).mp happ
  obtain ⟨hg, hn⟩ := and_e (Cond.before_iff.mp (show (Jvm.Cond.and given_1 narrow_1).before args s = true from hpre))
  obtain ⟨hg0, hgr0⟩ := and_e hg
  obtain ⟨w0, rfl⟩ : ∃ w0 : Value, args = #[w0] := by
    have hs : args.size = 1 := by simpa [Cond.value, given_1] using hg0
    obtain ⟨L⟩ := args
    match L, hs with
    | [w0], _ => exact ⟨w0, rfl⟩
  have hw := fun d (hd : d ∈ tables_1) => atoms_spec (ws := Jvm.Cond.code x code maxLocals ret :: tables_1) hat d (List.mem_cons_of_mem _ hd)
  have hfit : Fit s := fun {y c} hc i hi => by
    obtain ⟨ha, rfl⟩ := Array.getElem?_eq_some_iff.mp hc
    have q := List.all_eq_true.mp ((Array.all_eq_true_iff_forall_mem.mp hF) _ (Array.getElem_mem ha)) i (List.mem_range.mpr hi)
    simpa [Array.getElem?_eq_getElem hi] using q
  obtain ⟨i0, ei0⟩ := is_v hgr0
  obtain rfl : w0 = (.int i0) := Option.some.inj ei0
  obtain ⟨hn0, hr0⟩ := and_e hn
  obtain ⟨hn1, hr1⟩ := and_e hr0
  obtain ⟨hn2, hr2⟩ := and_e hr1
  obtain ⟨hn3, hr3⟩ := and_e hr2
  obtain ⟨hn4, hr4⟩ := and_e hr3
  obtain ⟨hn5, hr5⟩ := and_e hr4
  obtain ⟨hn6, hr6⟩ := and_e hr5
  obtain ⟨hn7, hr7⟩ := and_e hr6
  obtain ⟨hn8, hr8⟩ := and_e hr7
  obtain ⟨hn9, hr9⟩ := and_e hr8
  obtain ⟨hn10, hr10⟩ := and_e hr9
  obtain ⟨hn11, hr11⟩ := and_e hr10
  obtain ⟨hn12, hr12⟩ := and_e hr11
  obtain ⟨hn13, hr13⟩ := and_e hr12
  obtain ⟨hn14, hr14⟩ := and_e hr13
  obtain ⟨hn15, hr15⟩ := and_e hr14
  obtain ⟨hn16, hr16⟩ := and_e hr15
  obtain ⟨hn17, hr17⟩ := and_e hr16
  obtain ⟨hn18, hr18⟩ := and_e hr17
  obtain ⟨hn19, hr19⟩ := and_e hr18
  obtain ⟨hn20, hr20⟩ := and_e hr19
  obtain ⟨hn21, hr21⟩ := and_e hr20
  obtain ⟨hn22, hr22⟩ := and_e hr21
  obtain ⟨hn23, hr23⟩ := and_e hr22
  obtain ⟨hn24, hr24⟩ := and_e hr23
  obtain ⟨hn25, hr25⟩ := and_e hr24
  obtain ⟨hn26, hr26⟩ := and_e hr25
  obtain ⟨hn27, hr27⟩ := and_e hr26
  obtain ⟨hn28, hr28⟩ := and_e hr27
  obtain ⟨hn29, hr29⟩ := and_e hr28
  obtain ⟨hn30, hr30⟩ := and_e hr29
  obtain ⟨hn31, hr31⟩ := and_e hr30
  obtain ⟨hn32, hr32⟩ := and_e hr31
  obtain ⟨hn33, hr33⟩ := and_e hr32
  obtain ⟨hn34, hr34⟩ := and_e hr33
  obtain ⟨w_XYZ_1, ev2⟩ := exa_v hn0
  have S_XYZ_0 : Sta s s.heap "com/example/rotarium/rotarium/EulerSequence" "XYZ" "Lcom/example/rotarium/rotarium/EulerSequence;" (.ref w_XYZ_1) := Sta.start ev2 (Or.inr ⟨(hw _ (List.mem_of_getElem? (i := 3) rfl)), (hw _ (List.mem_of_getElem? (i := 4) rfl))⟩)
  have E_1 : Exa s s.heap w_XYZ_1 "com/example/rotarium/rotarium/EulerSequence" := Exa.start ev2 hn0
  obtain ⟨w_XZY_3, ev4⟩ := exa_v hn1
  have S_XZY_2 : Sta s s.heap "com/example/rotarium/rotarium/EulerSequence" "XZY" "Lcom/example/rotarium/rotarium/EulerSequence;" (.ref w_XZY_3) := Sta.start ev4 (Or.inr ⟨(hw _ (List.mem_of_getElem? (i := 3) rfl)), (hw _ (List.mem_of_getElem? (i := 7) rfl))⟩)
  have E_3 : Exa s s.heap w_XZY_3 "com/example/rotarium/rotarium/EulerSequence" := Exa.start ev4 hn1
  obtain ⟨w_YXZ_5, ev6⟩ := exa_v hn2
  have S_YXZ_4 : Sta s s.heap "com/example/rotarium/rotarium/EulerSequence" "YXZ" "Lcom/example/rotarium/rotarium/EulerSequence;" (.ref w_YXZ_5) := Sta.start ev6 (Or.inr ⟨(hw _ (List.mem_of_getElem? (i := 3) rfl)), (hw _ (List.mem_of_getElem? (i := 9) rfl))⟩)
  have E_5 : Exa s s.heap w_YXZ_5 "com/example/rotarium/rotarium/EulerSequence" := Exa.start ev6 hn2
  obtain ⟨w_YZX_7, ev8⟩ := exa_v hn3
  have S_YZX_6 : Sta s s.heap "com/example/rotarium/rotarium/EulerSequence" "YZX" "Lcom/example/rotarium/rotarium/EulerSequence;" (.ref w_YZX_7) := Sta.start ev8 (Or.inr ⟨(hw _ (List.mem_of_getElem? (i := 3) rfl)), (hw _ (List.mem_of_getElem? (i := 11) rfl))⟩)
  have E_7 : Exa s s.heap w_YZX_7 "com/example/rotarium/rotarium/EulerSequence" := Exa.start ev8 hn3
  obtain ⟨w_ZXY_9, ev10⟩ := exa_v hn4
  have S_ZXY_8 : Sta s s.heap "com/example/rotarium/rotarium/EulerSequence" "ZXY" "Lcom/example/rotarium/rotarium/EulerSequence;" (.ref w_ZXY_9) := Sta.start ev10 (Or.inr ⟨(hw _ (List.mem_of_getElem? (i := 3) rfl)), (hw _ (List.mem_of_getElem? (i := 13) rfl))⟩)
  have E_9 : Exa s s.heap w_ZXY_9 "com/example/rotarium/rotarium/EulerSequence" := Exa.start ev10 hn4
  obtain ⟨w_ZYX_11, ev12⟩ := exa_v hn5
  have S_ZYX_10 : Sta s s.heap "com/example/rotarium/rotarium/EulerSequence" "ZYX" "Lcom/example/rotarium/rotarium/EulerSequence;" (.ref w_ZYX_11) := Sta.start ev12 (Or.inr ⟨(hw _ (List.mem_of_getElem? (i := 3) rfl)), (hw _ (List.mem_of_getElem? (i := 15) rfl))⟩)
  have E_11 : Exa s s.heap w_ZYX_11 "com/example/rotarium/rotarium/EulerSequence" := Exa.start ev12 hn5
  obtain ⟨w_XYX_13, ev14⟩ := exa_v hn6
  have S_XYX_12 : Sta s s.heap "com/example/rotarium/rotarium/EulerSequence" "XYX" "Lcom/example/rotarium/rotarium/EulerSequence;" (.ref w_XYX_13) := Sta.start ev14 (Or.inr ⟨(hw _ (List.mem_of_getElem? (i := 3) rfl)), (hw _ (List.mem_of_getElem? (i := 17) rfl))⟩)
  have E_13 : Exa s s.heap w_XYX_13 "com/example/rotarium/rotarium/EulerSequence" := Exa.start ev14 hn6
  obtain ⟨w_XZX_15, ev16⟩ := exa_v hn7
  have S_XZX_14 : Sta s s.heap "com/example/rotarium/rotarium/EulerSequence" "XZX" "Lcom/example/rotarium/rotarium/EulerSequence;" (.ref w_XZX_15) := Sta.start ev16 (Or.inr ⟨(hw _ (List.mem_of_getElem? (i := 3) rfl)), (hw _ (List.mem_of_getElem? (i := 19) rfl))⟩)
  have E_15 : Exa s s.heap w_XZX_15 "com/example/rotarium/rotarium/EulerSequence" := Exa.start ev16 hn7
  obtain ⟨w_YXY_17, ev18⟩ := exa_v hn8
  have S_YXY_16 : Sta s s.heap "com/example/rotarium/rotarium/EulerSequence" "YXY" "Lcom/example/rotarium/rotarium/EulerSequence;" (.ref w_YXY_17) := Sta.start ev18 (Or.inr ⟨(hw _ (List.mem_of_getElem? (i := 3) rfl)), (hw _ (List.mem_of_getElem? (i := 21) rfl))⟩)
  have E_17 : Exa s s.heap w_YXY_17 "com/example/rotarium/rotarium/EulerSequence" := Exa.start ev18 hn8
  obtain ⟨w_YZY_19, ev20⟩ := exa_v hn9
  have S_YZY_18 : Sta s s.heap "com/example/rotarium/rotarium/EulerSequence" "YZY" "Lcom/example/rotarium/rotarium/EulerSequence;" (.ref w_YZY_19) := Sta.start ev20 (Or.inr ⟨(hw _ (List.mem_of_getElem? (i := 3) rfl)), (hw _ (List.mem_of_getElem? (i := 23) rfl))⟩)
  have E_19 : Exa s s.heap w_YZY_19 "com/example/rotarium/rotarium/EulerSequence" := Exa.start ev20 hn9
  obtain ⟨w_ZXZ_21, ev22⟩ := exa_v hn10
  have S_ZXZ_20 : Sta s s.heap "com/example/rotarium/rotarium/EulerSequence" "ZXZ" "Lcom/example/rotarium/rotarium/EulerSequence;" (.ref w_ZXZ_21) := Sta.start ev22 (Or.inr ⟨(hw _ (List.mem_of_getElem? (i := 3) rfl)), (hw _ (List.mem_of_getElem? (i := 25) rfl))⟩)
  have E_21 : Exa s s.heap w_ZXZ_21 "com/example/rotarium/rotarium/EulerSequence" := Exa.start ev22 hn10
  obtain ⟨w_ZYZ_23, ev24⟩ := exa_v hn11
  have S_ZYZ_22 : Sta s s.heap "com/example/rotarium/rotarium/EulerSequence" "ZYZ" "Lcom/example/rotarium/rotarium/EulerSequence;" (.ref w_ZYZ_23) := Sta.start ev24 (Or.inr ⟨(hw _ (List.mem_of_getElem? (i := 3) rfl)), (hw _ (List.mem_of_getElem? (i := 27) rfl))⟩)
  have E_23 : Exa s s.heap w_ZYZ_23 "com/example/rotarium/rotarium/EulerSequence" := Exa.start ev24 hn11
  have F_firstAxis_24 : Fld s s.heap w_XYZ_1 "com/example/rotarium/rotarium/EulerSequence" "firstAxis" "I" (.int (0 : Int32)) := Fld.start ((fld_at ev2).symm.trans (own_eqI hn12))
  have F_lastAxis_25 : Fld s s.heap w_XYZ_1 "com/example/rotarium/rotarium/EulerSequence" "lastAxis" "I" (.int (2 : Int32)) := Fld.start ((fld_at ev2).symm.trans (own_eqI hn13))
  have F_firstAxis_26 : Fld s s.heap w_YZX_7 "com/example/rotarium/rotarium/EulerSequence" "firstAxis" "I" (.int (1 : Int32)) := Fld.start ((fld_at ev8).symm.trans (own_eqI hn14))
  have F_lastAxis_27 : Fld s s.heap w_YZX_7 "com/example/rotarium/rotarium/EulerSequence" "lastAxis" "I" (.int (0 : Int32)) := Fld.start ((fld_at ev8).symm.trans (own_eqI hn15))
  have F_firstAxis_28 : Fld s s.heap w_YXZ_5 "com/example/rotarium/rotarium/EulerSequence" "firstAxis" "I" (.int (1 : Int32)) := Fld.start ((fld_at ev6).symm.trans (own_eqI hn16))
  have F_lastAxis_29 : Fld s s.heap w_YXZ_5 "com/example/rotarium/rotarium/EulerSequence" "lastAxis" "I" (.int (2 : Int32)) := Fld.start ((fld_at ev6).symm.trans (own_eqI hn17))
  have F_firstAxis_30 : Fld s s.heap w_XZX_15 "com/example/rotarium/rotarium/EulerSequence" "firstAxis" "I" (.int (0 : Int32)) := Fld.start ((fld_at ev16).symm.trans (own_eqI hn18))
  have F_lastAxis_31 : Fld s s.heap w_XZX_15 "com/example/rotarium/rotarium/EulerSequence" "lastAxis" "I" (.int (0 : Int32)) := Fld.start ((fld_at ev16).symm.trans (own_eqI hn19))
  have F_firstAxis_32 : Fld s s.heap w_ZYZ_23 "com/example/rotarium/rotarium/EulerSequence" "firstAxis" "I" (.int (2 : Int32)) := Fld.start ((fld_at ev24).symm.trans (own_eqI hn20))
  have F_lastAxis_33 : Fld s s.heap w_ZYZ_23 "com/example/rotarium/rotarium/EulerSequence" "lastAxis" "I" (.int (2 : Int32)) := Fld.start ((fld_at ev24).symm.trans (own_eqI hn21))
  have F_firstAxis_34 : Fld s s.heap w_ZXY_9 "com/example/rotarium/rotarium/EulerSequence" "firstAxis" "I" (.int (2 : Int32)) := Fld.start ((fld_at ev10).symm.trans (own_eqI hn22))
  have F_lastAxis_35 : Fld s s.heap w_ZXY_9 "com/example/rotarium/rotarium/EulerSequence" "lastAxis" "I" (.int (1 : Int32)) := Fld.start ((fld_at ev10).symm.trans (own_eqI hn23))
  have F_firstAxis_36 : Fld s s.heap w_YXY_17 "com/example/rotarium/rotarium/EulerSequence" "firstAxis" "I" (.int (1 : Int32)) := Fld.start ((fld_at ev18).symm.trans (own_eqI hn24))
  have F_lastAxis_37 : Fld s s.heap w_YXY_17 "com/example/rotarium/rotarium/EulerSequence" "lastAxis" "I" (.int (1 : Int32)) := Fld.start ((fld_at ev18).symm.trans (own_eqI hn25))
  have F_firstAxis_38 : Fld s s.heap w_XZY_3 "com/example/rotarium/rotarium/EulerSequence" "firstAxis" "I" (.int (0 : Int32)) := Fld.start ((fld_at ev4).symm.trans (own_eqI hn26))
  have F_lastAxis_39 : Fld s s.heap w_XZY_3 "com/example/rotarium/rotarium/EulerSequence" "lastAxis" "I" (.int (1 : Int32)) := Fld.start ((fld_at ev4).symm.trans (own_eqI hn27))
  have F_firstAxis_40 : Fld s s.heap w_ZXZ_21 "com/example/rotarium/rotarium/EulerSequence" "firstAxis" "I" (.int (2 : Int32)) := Fld.start ((fld_at ev22).symm.trans (own_eqI hn28))
  have F_lastAxis_41 : Fld s s.heap w_ZXZ_21 "com/example/rotarium/rotarium/EulerSequence" "lastAxis" "I" (.int (2 : Int32)) := Fld.start ((fld_at ev22).symm.trans (own_eqI hn29))
  have F_firstAxis_42 : Fld s s.heap w_YZY_19 "com/example/rotarium/rotarium/EulerSequence" "firstAxis" "I" (.int (1 : Int32)) := Fld.start ((fld_at ev20).symm.trans (own_eqI hn30))
  have F_lastAxis_43 : Fld s s.heap w_YZY_19 "com/example/rotarium/rotarium/EulerSequence" "lastAxis" "I" (.int (1 : Int32)) := Fld.start ((fld_at ev20).symm.trans (own_eqI hn31))
  have F_firstAxis_44 : Fld s s.heap w_XYX_13 "com/example/rotarium/rotarium/EulerSequence" "firstAxis" "I" (.int (0 : Int32)) := Fld.start ((fld_at ev14).symm.trans (own_eqI hn32))
  have F_lastAxis_45 : Fld s s.heap w_XYX_13 "com/example/rotarium/rotarium/EulerSequence" "lastAxis" "I" (.int (0 : Int32)) := Fld.start ((fld_at ev14).symm.trans (own_eqI hn33))
  have F_firstAxis_46 : Fld s s.heap w_ZYX_11 "com/example/rotarium/rotarium/EulerSequence" "firstAxis" "I" (.int (2 : Int32)) := Fld.start ((fld_at ev12).symm.trans (own_eqI hn34))
  have F_lastAxis_47 : Fld s s.heap w_ZYX_11 "com/example/rotarium/rotarium/EulerSequence" "lastAxis" "I" (.int (0 : Int32)) := Fld.start ((fld_at ev12).symm.trans (own_eqI hr34))
  obtain ⟨n, o, h1, h2, h3, _, L, rfl, ⟨rfl, N, -⟩, hq⟩ := rm0 l s _ hw tables_1 i0 w_XYZ_1 w_XZY_3 w_YXZ_5 w_YZX_7 w_ZXY_9 w_ZYX_11 w_XYX_13 w_XZX_15 w_YXY_17 w_YZY_19 w_ZXZ_21 w_ZYZ_23 s.heap s.heap.size (Nat.le_refl _) S_XYZ_0 E_1 S_XZY_2 E_3 S_YXZ_4 E_5 S_YZX_6 E_7 S_ZXY_8 E_9 S_ZYX_10 E_11 S_XYX_12 E_13 S_XZX_14 E_15 S_YXY_16 E_17 S_YZY_18 E_19 S_ZXZ_20 E_21 S_ZYZ_22 E_23 F_firstAxis_24 F_lastAxis_25 F_firstAxis_26 F_lastAxis_27 F_firstAxis_28 F_lastAxis_29 F_firstAxis_30 F_lastAxis_31 F_firstAxis_32 F_lastAxis_33 F_firstAxis_34 F_lastAxis_35 F_firstAxis_36 F_lastAxis_37 F_firstAxis_38 F_lastAxis_39 F_firstAxis_40 F_lastAxis_41 F_firstAxis_42 F_lastAxis_43 F_firstAxis_44 F_lastAxis_45 F_firstAxis_46 F_lastAxis_47 p e ha hc hk s m _ below hf ((Spec.applies_iff_loose hf).mp happ).1 ⟨rfl, State.Warmed39.refl s, rfl⟩ trivial
  refine ⟨n, _, h1, h2, h3, hpost _ _ _ _ _ _ ⟨Cond.after_iff.mpr rfl, Cond.after_iff.mpr (eq_i res_at (Term.int_eval (1)) rfl), trivial⟩ ⟨hq.1, hq.2.1, (hq.2.2.sift fun y hy => Or.inr (N y hy)).mono (by decide) (by decide)⟩⟩
theorem main_1_1 : Claimed_1_1 := comes_1 fun _ _ _ _ _ _ h hF => ⟨h.1, hF⟩
theorem main_1_2 : Claimed_1_2 := comes_1 fun _ _ _ _ _ _ h hF => ⟨h.2.1, hF⟩
end Jvm.Pilot.@@N@@
namespace Jvm.Pilot.@@N@@
open Jvm Jvm.ClassFile Sem Op Lib Jvm.Free Jvm.Stand Jvm.Pilot.@@N@@.Jvm.D
/-! MADE BY PROGRAM (witnessworld.py) out of the Statement's table words and the real class files: 13 classes; the members and pool entries that the words name. The judged class is class 1, her method 1. -/
namespace start1
open Jvm.ClassFile
def u (s : String) : CpInfo := .utf8 (stringToUtf16 s)
/-- a pool by its gaps: so many unusable entries, then the entry; so many at the end -/
def gap : Nat → List CpInfo → List CpInfo
  | 0, r => r
  | n + 1, r => .unusable :: gap n r
def poolList (es : List (Nat × CpInfo)) (last : Nat) : List CpInfo := es.foldr (fun e r => gap e.1 (e.2 :: r)) (gap last [])
def pool (es : List (Nat × CpInfo)) (last : Nat) : Array CpInfo := ⟨poolList es last⟩
def fileOf (pool : Array CpInfo) (this : Nat) (attrs : Array Attribute := #[]) (ms : Array MethodInfo := #[]) (fl : Nat := 33) (sup : Nat := 0) (ifs : Array Nat := #[]) (fds : Array FieldInfo := #[]) : ClassFile where
  minorVersion := 0
  majorVersion := 65
  constantPool := pool
  accessFlags := fl
  thisClass := this
  superClass := sup
  interfaces := ifs
  fields := fds
  methods := ms
  attributes := attrs
def plain (name : String) (sup : Option ClassId) : Class where
  name := name
  kind := .ordinary
  loader := none
  accessFlags := 33
  super := sup
  interfaces := #[]
  cf := none
  fields := #[]
  methods := #[]
  instanceTypes := #[]
  staticTypes := #[]
  resolved := #[]
  callSites := []
  init := .initialized
  statics := none
  mirror := none

def pool0 : Array CpInfo := pool [(5, u "<init>"), (0, u "()V"), (1, .class_ 10), (1, u "java/lang/Object")] 113

def k0m0 : Method := { name := "<init>", desc := "()V", sig := { parameters := [], returnType := none }, accessFlags := 1, code := none }
/-- java/lang/Object -/
def k0 : Class := { plain "java/lang/Object" none with
  accessFlags := 33
  interfaces := #[]
  cf := some (fileOf pool0 8 #[] #[{ accessFlags := 1, nameIndex := 5, descriptorIndex := 6, attributes := #[] }] 33 0 #[] #[])
  fields := #[]
  methods := #[k0m0]
  instanceTypes := #[]
  staticTypes := #[]
  resolved := Array.replicate 124 none
  statics := none }

def pool1 : Array CpInfo := pool [(2, .class_ 4), (1, u "java/lang/Object"), (0, u "<init>"), (0, u "()V"), (0, .class_ 8), (0, u "com/example/rotarium/rotarium/EulerSequence"), (0, .fieldref 7 10), (0, .nameAndType 11 12), (0, u "XYZ"), (0, u "Lcom/example/rotarium/rotarium/EulerSequence;"), (0, .fieldref 7 14), (0, .nameAndType 15 12), (0, u "XZY"), (0, .fieldref 7 17), (0, .nameAndType 18 12), (0, u "YXZ"), (0, .fieldref 7 20), (0, .nameAndType 21 12), (0, u "YZX"), (0, .fieldref 7 23), (0, .nameAndType 24 12), (0, u "ZXY"), (0, .fieldref 7 26), (0, .nameAndType 27 12), (0, u "ZYX"), (0, .fieldref 7 29), (0, .nameAndType 30 12), (0, u "XYX"), (0, .fieldref 7 32), (0, .nameAndType 33 12), (0, u "XZX"), (0, .fieldref 7 35), (0, .nameAndType 36 12), (0, u "YXY"), (0, .fieldref 7 38), (0, .nameAndType 39 12), (0, u "YZY"), (0, .fieldref 7 41), (0, .nameAndType 42 12), (0, u "ZXZ"), (0, .fieldref 7 44), (0, .nameAndType 45 12), (0, u "ZYZ"), (0, .integer 2147483647), (0, .methodref 7 48), (0, .nameAndType 49 50), (0, u "isProperEuler"), (0, u "()Z"), (0, .class_ 52), (0, u "com/example/rotarium/rotarium/EulerSequenceIsProperEulerPinLaw"), (2, u "law"), (0, u "(I)Z")] 5

def k1m0 : Method := { name := "<init>", desc := "()V", sig := { parameters := [], returnType := none }, accessFlags := 1, code := none }
def k1c1 : Code := { maxStack := 4, maxLocals := 4, code := code, exceptionTable := #[], attributes := #[] }
def k1m1 : Method := { name := "law", desc := "(I)Z", sig := { parameters := [.int], returnType := some .boolean }, accessFlags := 9, code := some k1c1 }
/-- com/example/rotarium/rotarium/EulerSequenceIsProperEulerPinLaw -/
def k1 : Class := { plain "com/example/rotarium/rotarium/EulerSequenceIsProperEulerPinLaw" (some 0) with
  accessFlags := 49
  interfaces := #[]
  cf := some (fileOf pool1 51 #[] #[{ accessFlags := 1, nameIndex := 5, descriptorIndex := 6, attributes := #[] }, { accessFlags := 9, nameIndex := 55, descriptorIndex := 56, attributes := #[] }] 49 2 #[] #[])
  fields := #[]
  methods := #[k1m0, k1m1]
  instanceTypes := #[]
  staticTypes := #[]
  resolved := Array.replicate 62 none
  statics := none }

def pool2 : Array CpInfo := pool [(1, .class_ 2), (0, u "java/lang/constant/Constable"), (0, .class_ 4), (0, u "java/lang/Object")] 6

/-- java/lang/constant/Constable -/
def k2 : Class := { plain "java/lang/constant/Constable" (some 0) with
  accessFlags := 1537
  interfaces := #[]
  cf := some (fileOf pool2 1 #[] #[] 1537 3 #[] #[])
  fields := #[]
  methods := #[]
  instanceTypes := #[]
  staticTypes := #[]
  resolved := Array.replicate 11 none
  statics := none }

def pool3 : Array CpInfo := pool [(1, .class_ 2), (0, u "java/lang/Comparable"), (0, .class_ 4), (0, u "java/lang/Object")] 7

/-- java/lang/Comparable -/
def k3 : Class := { plain "java/lang/Comparable" (some 0) with
  accessFlags := 1537
  interfaces := #[]
  cf := some (fileOf pool3 1 #[] #[] 1537 3 #[] #[])
  fields := #[]
  methods := #[]
  instanceTypes := #[]
  staticTypes := #[]
  resolved := Array.replicate 12 none
  statics := none }

def pool4 : Array CpInfo := pool [(1, .class_ 2), (0, u "java/io/Serializable"), (0, .class_ 4), (0, u "java/lang/Object")] 2

/-- java/io/Serializable -/
def k4 : Class := { plain "java/io/Serializable" (some 0) with
  accessFlags := 1537
  interfaces := #[]
  cf := some (fileOf pool4 1 #[] #[] 1537 3 #[] #[])
  fields := #[]
  methods := #[]
  instanceTypes := #[]
  staticTypes := #[]
  resolved := Array.replicate 7 none
  statics := none }

def pool5 : Array CpInfo := pool [(2, .class_ 4), (1, u "java/lang/Enum"), (0, u "name"), (0, u "Ljava/lang/String;"), (2, u "ordinal"), (0, u "I"), (1, .class_ 14), (1, u "java/lang/Object"), (4, u "hash"), (86, .class_ 108), (1, u "java/lang/Enum$EnumDesc"), (2, .class_ 112), (0, u "java/lang/constant/Constable"), (0, .class_ 114), (0, u "java/lang/Comparable"), (0, .class_ 116), (0, u "java/io/Serializable")] 87

/-- java/lang/Enum -/
def k5 : Class := { plain "java/lang/Enum" (some 0) with
  accessFlags := 1057
  interfaces := #[2, 3, 4]
  cf := some (fileOf pool5 2 #[.nestMembers #[106]] #[] 1057 12 #[111, 113, 115] #[{ accessFlags := 18, nameIndex := 5, descriptorIndex := 6, attributes := #[] }, { accessFlags := 18, nameIndex := 9, descriptorIndex := 10, attributes := #[] }, { accessFlags := 2, nameIndex := 19, descriptorIndex := 10, attributes := #[] }])
  fields := #[{ name := "name", type := (.object "java/lang/String"), accessFlags := 18, slot := 0, constantValue := 0 }, { name := "ordinal", type := .int, accessFlags := 18, slot := 1, constantValue := 0 }, { name := "hash", type := .int, accessFlags := 2, slot := 2, constantValue := 0 }]
  methods := #[]
  instanceTypes := #[(.object "java/lang/String"), .int, .int]
  staticTypes := #[]
  resolved := Array.replicate 204 none
  statics := none }

def pool6 : Array CpInfo := pool [(1, .class_ 2), (0, u "com/example/rotarium/rotarium/EulerSequence"), (2, u "XYZ"), (0, u "Lcom/example/rotarium/rotarium/EulerSequence;"), (2, u "XZY"), (2, u "YXZ"), (2, u "YZX"), (2, u "ZXY"), (2, u "ZYX"), (2, u "XYX"), (2, u "XZX"), (2, u "YXY"), (2, u "YZY"), (2, u "ZXZ"), (2, u "ZYZ"), (2, u "$VALUES"), (0, u "[Lcom/example/rotarium/rotarium/EulerSequence;"), (6, .class_ 52), (1, u "java/lang/Enum"), (16, .fieldref 1 70), (0, .nameAndType 71 72), (0, u "firstAxis"), (0, u "I"), (2, u "middleAxis"), (0, .fieldref 1 77), (0, .nameAndType 78 72), (0, u "lastAxis"), (10, u "reversed"), (43, u "isProperEuler"), (0, u "()Z")] 6

def k6c0 : Code := { maxStack := 2, maxLocals := 1, code := prog_5_method_9_code, exceptionTable := #[], attributes := #[] }
def k6m0 : Method := { name := "isProperEuler", desc := "()Z", sig := { parameters := [], returnType := some .boolean }, accessFlags := 0, code := some k6c0 }
/-- com/example/rotarium/rotarium/EulerSequence -/
def k6 : Class := { plain "com/example/rotarium/rotarium/EulerSequence" (some 5) with
  accessFlags := 16433
  interfaces := #[]
  cf := some (fileOf pool6 1 #[] #[{ accessFlags := 0, nameIndex := 133, descriptorIndex := 134, attributes := #[] }] 16433 50 #[] #[{ accessFlags := 16409, nameIndex := 5, descriptorIndex := 6, attributes := #[] }, { accessFlags := 16409, nameIndex := 9, descriptorIndex := 6, attributes := #[] }, { accessFlags := 16409, nameIndex := 12, descriptorIndex := 6, attributes := #[] }, { accessFlags := 16409, nameIndex := 15, descriptorIndex := 6, attributes := #[] }, { accessFlags := 16409, nameIndex := 18, descriptorIndex := 6, attributes := #[] }, { accessFlags := 16409, nameIndex := 21, descriptorIndex := 6, attributes := #[] }, { accessFlags := 16409, nameIndex := 24, descriptorIndex := 6, attributes := #[] }, { accessFlags := 16409, nameIndex := 27, descriptorIndex := 6, attributes := #[] }, { accessFlags := 16409, nameIndex := 30, descriptorIndex := 6, attributes := #[] }, { accessFlags := 16409, nameIndex := 33, descriptorIndex := 6, attributes := #[] }, { accessFlags := 16409, nameIndex := 36, descriptorIndex := 6, attributes := #[] }, { accessFlags := 16409, nameIndex := 39, descriptorIndex := 6, attributes := #[] }, { accessFlags := 18, nameIndex := 71, descriptorIndex := 72, attributes := #[] }, { accessFlags := 18, nameIndex := 75, descriptorIndex := 72, attributes := #[] }, { accessFlags := 18, nameIndex := 78, descriptorIndex := 72, attributes := #[] }, { accessFlags := 2, nameIndex := 89, descriptorIndex := 6, attributes := #[] }, { accessFlags := 4122, nameIndex := 42, descriptorIndex := 43, attributes := #[] }])
  fields := #[{ name := "XYZ", type := (.object "com/example/rotarium/rotarium/EulerSequence"), accessFlags := 16409, slot := 0, constantValue := 0 }, { name := "XZY", type := (.object "com/example/rotarium/rotarium/EulerSequence"), accessFlags := 16409, slot := 1, constantValue := 0 }, { name := "YXZ", type := (.object "com/example/rotarium/rotarium/EulerSequence"), accessFlags := 16409, slot := 2, constantValue := 0 }, { name := "YZX", type := (.object "com/example/rotarium/rotarium/EulerSequence"), accessFlags := 16409, slot := 3, constantValue := 0 }, { name := "ZXY", type := (.object "com/example/rotarium/rotarium/EulerSequence"), accessFlags := 16409, slot := 4, constantValue := 0 }, { name := "ZYX", type := (.object "com/example/rotarium/rotarium/EulerSequence"), accessFlags := 16409, slot := 5, constantValue := 0 }, { name := "XYX", type := (.object "com/example/rotarium/rotarium/EulerSequence"), accessFlags := 16409, slot := 6, constantValue := 0 }, { name := "XZX", type := (.object "com/example/rotarium/rotarium/EulerSequence"), accessFlags := 16409, slot := 7, constantValue := 0 }, { name := "YXY", type := (.object "com/example/rotarium/rotarium/EulerSequence"), accessFlags := 16409, slot := 8, constantValue := 0 }, { name := "YZY", type := (.object "com/example/rotarium/rotarium/EulerSequence"), accessFlags := 16409, slot := 9, constantValue := 0 }, { name := "ZXZ", type := (.object "com/example/rotarium/rotarium/EulerSequence"), accessFlags := 16409, slot := 10, constantValue := 0 }, { name := "ZYZ", type := (.object "com/example/rotarium/rotarium/EulerSequence"), accessFlags := 16409, slot := 11, constantValue := 0 }, { name := "firstAxis", type := .int, accessFlags := 18, slot := 3, constantValue := 0 }, { name := "middleAxis", type := .int, accessFlags := 18, slot := 4, constantValue := 0 }, { name := "lastAxis", type := .int, accessFlags := 18, slot := 5, constantValue := 0 }, { name := "reversed", type := (.object "com/example/rotarium/rotarium/EulerSequence"), accessFlags := 2, slot := 6, constantValue := 0 }, { name := "$VALUES", type := (.array (.object "com/example/rotarium/rotarium/EulerSequence")), accessFlags := 4122, slot := 12, constantValue := 0 }]
  methods := #[k6m0]
  instanceTypes := #[(.object "java/lang/String"), .int, .int, .int, .int, .int, (.object "com/example/rotarium/rotarium/EulerSequence")]
  staticTypes := #[(.object "com/example/rotarium/rotarium/EulerSequence"), (.object "com/example/rotarium/rotarium/EulerSequence"), (.object "com/example/rotarium/rotarium/EulerSequence"), (.object "com/example/rotarium/rotarium/EulerSequence"), (.object "com/example/rotarium/rotarium/EulerSequence"), (.object "com/example/rotarium/rotarium/EulerSequence"), (.object "com/example/rotarium/rotarium/EulerSequence"), (.object "com/example/rotarium/rotarium/EulerSequence"), (.object "com/example/rotarium/rotarium/EulerSequence"), (.object "com/example/rotarium/rotarium/EulerSequence"), (.object "com/example/rotarium/rotarium/EulerSequence"), (.object "com/example/rotarium/rotarium/EulerSequence"), (.array (.object "com/example/rotarium/rotarium/EulerSequence"))]
  resolved := Array.replicate 141 none
  statics := some 0 }

def pool7 : Array CpInfo := pool [(1, u "java/lang/Cloneable"), (0, .class_ 1), (0, u "java/lang/Object"), (0, .class_ 3)] 3

/-- java/lang/Cloneable -/
def k7 : Class := { plain "java/lang/Cloneable" (some 0) with
  accessFlags := 1537
  interfaces := #[]
  cf := some (fileOf pool7 2 #[] #[] 1537 4 #[] #[])
  fields := #[]
  methods := #[]
  instanceTypes := #[]
  staticTypes := #[]
  resolved := Array.replicate 8 none
  statics := none }

/-- the primitive byte -/
def k8 : Class := { plain "byte" none with kind := .primitive 'B', accessFlags := 0x411 }
/-- [B -/
def k9 : Class := { plain "[B" (some 0) with kind := .array 8 .byte, interfaces := #[7, 4], accessFlags := 1041 }

/-- the primitive int -/
def k10 : Class := { plain "int" none with kind := .primitive 'I', accessFlags := 0x411 }
/-- [I -/
def k11 : Class := { plain "[I" (some 0) with kind := .array 10 .int, interfaces := #[7, 4], accessFlags := 1041 }

/-- [Lcom/example/rotarium/rotarium/EulerSequence; -/
def k12 : Class := { plain "[Lcom/example/rotarium/rotarium/EulerSequence;" (some 0) with kind := .array 6 (.object "com/example/rotarium/rotarium/EulerSequence"), interfaces := #[7, 4], accessFlags := 1041 }

def heap : Heap := #[{ cls := 6, slots := #[.ref 1, .ref 2, .ref 3, .ref 4, .ref 5, .ref 6, .ref 7, .ref 8, .ref 9, .ref 10, .ref 11, .ref 12, .null], vm := .statics 6 },
  { cls := 6, slots := #[.null, .int 0, .int 0, .int 0, .int 0, .int 2, .null], vm := .none },
  { cls := 6, slots := #[.null, .int 0, .int 0, .int 0, .int 0, .int 1, .null], vm := .none },
  { cls := 6, slots := #[.null, .int 0, .int 0, .int 1, .int 0, .int 2, .null], vm := .none },
  { cls := 6, slots := #[.null, .int 0, .int 0, .int 1, .int 0, .int 0, .null], vm := .none },
  { cls := 6, slots := #[.null, .int 0, .int 0, .int 2, .int 0, .int 1, .null], vm := .none },
  { cls := 6, slots := #[.null, .int 0, .int 0, .int 2, .int 0, .int 0, .null], vm := .none },
  { cls := 6, slots := #[.null, .int 0, .int 0, .int 0, .int 0, .int 0, .null], vm := .none },
  { cls := 6, slots := #[.null, .int 0, .int 0, .int 0, .int 0, .int 0, .null], vm := .none },
  { cls := 6, slots := #[.null, .int 0, .int 0, .int 1, .int 0, .int 1, .null], vm := .none },
  { cls := 6, slots := #[.null, .int 0, .int 0, .int 1, .int 0, .int 1, .null], vm := .none },
  { cls := 6, slots := #[.null, .int 0, .int 0, .int 2, .int 0, .int 2, .null], vm := .none },
  { cls := 6, slots := #[.null, .int 0, .int 0, .int 2, .int 0, .int 2, .null], vm := .none }]
def classes : Array Class := #[k0, k1, k2, k3, k4, k5, k6, k7, k8, k9, k10, k11, k12]
def interned : List (Array UInt16 × Addr) := []
def slotsUsed : Nat := 97
def theMethod : MethodId := ⟨1, 1⟩
def args0 : Array Value := #[.int 3]
def aboutOver (below : List Frame) : State where
  vm := { classes := classes, interned := interned.toArray }
  heap := heap
  slotsUsed := slotsUsed
  threads := #[{ frames := .invoking theMethod args0 :: below }]
def below0 : List Frame := [.native { method := ⟨0, 0⟩, args := #[] }]
def about1 : State := aboutOver below0
def p0 : Program := .bare "" "" ""
def e0 : Env := launch0.env 0 0 0
theorem w_frames : about1.frames = Frame.invoking theMethod args0 :: below0 := rfl
set_option maxRecDepth 65536 in
theorem w_args : argsFit about1.vm theMethod args0 = true := by decide +kernel
set_option maxRecDepth 65536 in
theorem w_heap : heapFits about1 = true := by decide +kernel
set_option maxRecDepth 65536 in
theorem w_runnable : about1.curStatus? = some .runnable := by decide +kernel
set_option maxRecDepth 65536 in
theorem w_alone : about1.alone = true := by decide +kernel
set_option maxRecDepth 65536 in
theorem w_named : about1.methodNamed? x = some theMethod := by decide +kernel
set_option maxRecDepth 65536 in
theorem w_hears : about1.hears theMethod below0 = true := by decide +kernel
set_option maxRecDepth 65536 in
theorem w_ripe : about1.ripe theMethod args0 below0 = true := by decide +kernel
theorem w_running : about1.status = .running := rfl
set_option maxRecDepth 65536 in
theorem w_room : about1.hasRoom e0.platform room_1 = true :=
  launch0.hasRoom_least _ room_1 (by decide +kernel) (by decide +kernel) (by decide +kernel) (by decide +kernel) (by decide +kernel) (by decide +kernel)
theorem allAtoms_all (ts : List Jvm.Cond) (a : Array Jvm.Value) (st : Jvm.State) : (allAtoms ts).before a st = ts.all (fun c => c.before a st) := by
  induction ts with
  | nil => rfl
  | cons c t ih =>
    show (Jvm.Cond.and c (allAtoms t)).before a st = _
    rw [Jvm.Cond.before_and, ih, List.all_cons]
def words1 : List Jvm.Cond := Jvm.Cond.code x code maxLocals ret :: tables_1
/-- a 'code' word, met by the world's own term for the bytes: nothing is compared byte by byte -/
theorem code_word {y : MethodName} {bytes : ByteArray} {mx : Nat} {rt : Option FieldType} {a : Array Value} {s : State} {m : MethodId} {meth : Method} {c : Code} (h1 : s.methodNamed? y = some m) (h2 : s.vm.method? m = some meth) (h3 : meth.code = some c) (h4 : c.code = bytes)
    (h5 : (c.maxLocals == mx && c.exceptionTable.isEmpty && decide (c.maxStack ≤ mostOperands) && decide (meth.sig.returnType = rt) && !meth.locks && decide (parseMethodDescriptor y.desc = some meth.sig)) = true) : (Jvm.Cond.code y bytes mx rt).before a s = true := by
  simp only [Bool.and_eq_true, beq_iff_eq, Bool.not_eq_true', decide_eq_true_eq] at h5
  obtain ⟨⟨⟨⟨⟨g1, g2⟩, g3⟩, g4⟩, g5⟩, g6⟩ := h5
  simp [Cond.before, Cond.holds, Cond.value, h1, h2, h3, h4, g1, g2, g3, g4, g5, g6]
def isCode : Jvm.Cond → Bool
  | .code _ _ _ _ => true
  | _ => false
theorem all_split {L : List Jvm.Cond} {P : Jvm.Cond → Bool} (h1 : L.all (fun c => isCode c || P c) = true) (h2 : ∀ c ∈ L.filter isCode, P c = true) : L.all P = true := by
  refine List.all_eq_true.mpr fun c hc => ?_
  have h := List.all_eq_true.mp h1 c hc
  rcases Bool.eq_false_or_eq_true (isCode c) with hi | hi
  · exact h2 c (List.mem_filter.mpr ⟨hc, hi⟩)
  · simpa [hi] using h
set_option maxRecDepth 65536 in
theorem w_c0 : (Jvm.Cond.code x code maxLocals ret).before args0 about1 = true := code_word (m := ⟨1, 1⟩) (meth := k1m1) (c := k1c1) (by decide +kernel) rfl rfl rfl (by decide +kernel)
set_option maxRecDepth 65536 in
theorem w_c1 : (Jvm.Cond.code ({ cls := "com/example/rotarium/rotarium/EulerSequence", name := "isProperEuler", desc := "()Z" } : Jvm.MethodName) prog_5_method_9_code (1 : Nat) (Option.some Jvm.ClassFile.FieldType.boolean)).before args0 about1 = true := code_word (m := ⟨6, 0⟩) (meth := k6m0) (c := k6c0) (by decide +kernel) rfl rfl rfl (by decide +kernel)
def codes1 : List Jvm.Cond := [Jvm.Cond.code x code maxLocals ret, Jvm.Cond.code ({ cls := "com/example/rotarium/rotarium/EulerSequence", name := "isProperEuler", desc := "()Z" } : Jvm.MethodName) prog_5_method_9_code (1 : Nat) (Option.some Jvm.ClassFile.FieldType.boolean)]
set_option maxRecDepth 65536 in
theorem codes_eq : words1.filter isCode = codes1 := rfl
theorem w_codes : ∀ c ∈ words1.filter isCode, c.before args0 about1 = true := by
  rw [codes_eq]
  intro c hc
  simp only [codes1, List.mem_cons, List.not_mem_nil, or_false] at hc
  rcases hc with rfl | rfl
  · exact w_c0
  · exact w_c1
set_option maxRecDepth 65536 in
theorem w_t1 : (words1.take 24).all (fun c => isCode c || c.before args0 about1) = true := by decide +kernel
set_option maxRecDepth 65536 in
theorem w_t2 : (words1.drop 24).all (fun c => isCode c || c.before args0 about1) = true := by decide +kernel
theorem w_tables : (allAtoms (Jvm.Cond.code x code maxLocals ret :: tables_1)).before args0 about1 = true := by
  rw [allAtoms_all]
  show words1.all (fun c => c.before args0 about1) = true
  refine all_split ?_ w_codes
  rw [← List.take_append_drop 24 words1, List.all_append, w_t1, w_t2]
  rfl
set_option maxRecDepth 65536 in
theorem w_case : (Jvm.Cond.and given_1 narrow_1).before args0 about1 = true := by decide +kernel
theorem w_applies : (headSpec (Jvm.Cond.code x code maxLocals ret :: tables_1) room_1).applies x e0.platform about1 = true :=
  (Spec.applies_iff w_frames).mpr ⟨w_running, w_runnable, w_alone, w_named, w_hears, w_ripe, w_room, w_tables⟩
theorem atStart : AtStart classFile x code maxLocals ret World_1 tables_1 room_1 Calls_1 rest_1 Pre_1 launch0 p0 e0 about1 theMethod args0 below0 :=
  ⟨lists_1, trivial, launch0.admits_env _ _ _, launch0.least_env, fairChoices_fair.cas, fairChoices_fair.clock, w_frames, w_args, w_heap, w_applies, trivial, trivial, w_case⟩
end start1
theorem witness_1 : WitnessClaimed_1 := ⟨start1.p0, start1.e0, start1.about1, start1.theMethod, start1.args0, start1.below0, start1.atStart⟩
end Jvm.Pilot.@@N@@
