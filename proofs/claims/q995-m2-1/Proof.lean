import JvmDerived
import JvmDerived.Pilot.@@N@@Statement
import JvmDerived.Pilot.@@N@@Code
set_option linter.unusedVariables false
set_option linter.unusedSimpArgs false
namespace Jvm.RoadKit
open Sem ClassFile Op Lib Jvm.Stand Jvm.Free Jvm.LawKit
section New
variable {p : Program} {l : Launch} {e : Env} {R : Room} {s : State} {m : MethodId} {args : Array Value} {below : List Frame} {meth : Method} {c : Code} {T : State} {locs : List Loc} {cells slots : Nat}
theorem retI (X : Stand p l e R s m args below meth c T locs cells slots) (hx : p.tables.exec = Jvm.exec) {pc : Nat} {Ls : Array Slot} {z : Int32} {rest : List Value} (hret : meth.sig.returnType = some .int) (hd : decode c.code pc = .ok (.ireturn, 1)) {fs : List Frame}
    (hl : ∀ (f : JFrame) (acts : List Action), f.method = m → f.locked = none → f.entered = [] → (doReturn e (T.setTop f) acts (some (.int z))).1 = T.setFrames fs) : Steps p.tables e below (T.setTop (mkF m pc Ls (.int z :: rest))) (T.setFrames fs) := by
  have hm' : T.vm.method? m = some meth := X.method'
  have hn : narrow .int (.int z) = .int z := rfl
  show Steps p.tables e below (T.setTop { method := m, pc := pc, locals := Ls, stack := _ :: rest, locked := none }) _
  jvm_step X.here [X.here.top, hx, hd, hm', hret, hn]
  first | (intro acts; rw [hl _ acts rfl rfl rfl]) | rw [hl _ _ rfl rfl rfl]
  exact Steps.refl _
end New
end Jvm.RoadKit
namespace Jvm.Pilot.@@N@@
open Jvm Jvm.ClassFile Sem Op Lib Jvm.Free Jvm.Stand Jvm.LawKit Jvm.RoadKit Bundle Jvm.Pilot.@@N@@.Jvm.D
theorem own_eqI {t : Term} {args : Array Value} {first s : State} {o : Option Outcome} {idx : List Nat} {k : Int32} (h : (Jvm.Cond.eq t (.int k)).value args first o s idx = some true) : t.eval args first o idx s = some (.int k) := by
  cases ht : t.eval args first o idx s with
  | none => simp [Cond.value, ht] at h
  | some x => cases x <;> simp [Cond.value, ht, Term.eval] at h ⊢ <;> exact h
theorem own_eqJ {t : Term} {args : Array Value} {first s : State} {o : Option Outcome} {idx : List Nat} {k : Int64} (h : (Jvm.Cond.eq t (.long k)).value args first o s idx = some true) : t.eval args first o idx s = some (.long k) := by
  cases ht : t.eval args first o idx s with
  | none => simp [Cond.value, ht] at h
  | some x => cases x <;> simp [Cond.value, ht, Term.eval] at h ⊢ <;> exact h
theorem own_eqR {t u : Term} {args : Array Value} {first s : State} {o : Option Outcome} {idx : List Nat} {x : Addr} (h : (Jvm.Cond.eq t u).value args first o s idx = some true) (hu : u.eval args first o idx s = some (.ref x)) : t.eval args first o idx s = some (.ref x) := by
  cases ht : t.eval args first o idx s with
  | none => simp [Cond.value, ht] at h
  | some z => cases z <;> simp [Cond.value, ht, hu] at h ⊢ <;> exact h
theorem cat_of {v : Value} (h : v.isRef = true) : v.category = 1 := by rcases ref_cases h with rfl | ⟨a, rfl⟩ <;> rfl
theorem own_fits {n : String} {v : Value} (h : v.isRef = true) : fits (.object n) v = true := by rcases ref_cases h with rfl | ⟨a, rfl⟩ <;> rfl
theorem own_exa_ns {Z : State} {h : Heap} {a : Addr} {C : String} (E : Exa Z h a C) : ∀ c : Cell, h[a]? = some c → c.vm.isStatics = false := fun c hc => by
  obtain ⟨cell, k, h1, -, -, h4, -⟩ := E
  cases h1.symm.trans hc; exact h4
theorem own_sta_keep {Z : State} {h h' : Heap} {ws : List Addr} {C n d : String} {v : Value} (F : Sta Z h C n d v) (K : Keep h h' ws) (q : ∀ x ∈ ws, ∀ c : Cell, h[x]? = some c → c.vm.isStatics = false) : Sta Z h' C n d v := by
  obtain ⟨cf, i, k, f, st, cell, h1, h2, h3, h4, h5, h6, r⟩ := F
  refine ⟨cf, i, k, f, st, cell, h1, h2, h3, h4, K.2.1 st cell h5 (fun hm => ?_), h6, r⟩
  have := q st hm cell h5
  rw [h6] at this; cases this
theorem own_last12 {i : Int32} (hr : 0 ≤ i.toInt ∧ i.toInt < 12) (h0 : ¬ i = 0) (h1 : ¬ i = 1) (h2 : ¬ i = 2) (h3 : ¬ i = 3) (h4 : ¬ i = 4) (h5 : ¬ i = 5) (h6 : ¬ i = 6) (h7 : ¬ i = 7) (h8 : ¬ i = 8) (h9 : ¬ i = 9) (h10 : ¬ i = 10) : 11 = i := by
  apply Int32.toInt_inj.mp
  have g : ∀ k : Int32, ¬ i = k → i.toInt ≠ k.toInt := fun k h e => h (Int32.toInt_inj.mp e)
  have := g 0 h0; have := g 1 h1; have := g 2 h2; have := g 3 h3; have := g 4 h4; have := g 5 h5; have := g 6 h6; have := g 7 h7; have := g 8 h8; have := g 9 h9; have := g 10 h10
  have q : (0 : Int32).toInt = 0 ∧ (1 : Int32).toInt = 1 ∧ (2 : Int32).toInt = 2 ∧ (3 : Int32).toInt = 3 ∧ (4 : Int32).toInt = 4 ∧ (5 : Int32).toInt = 5 ∧ (6 : Int32).toInt = 6 ∧ (7 : Int32).toInt = 7 ∧ (8 : Int32).toInt = 8 ∧ (9 : Int32).toInt = 9 ∧ (10 : Int32).toInt = 10 ∧ (11 : Int32).toInt = 11 := by decide
  omega
theorem own_rng (x y : Int32) (d : Int) (hy : y.toInt = d) (hd : 0 < d) : 0 ≤ ((x &&& 2147483647) % y).toInt ∧ ((x &&& 2147483647) % y).toInt < d := by
  have h := c_and x 2147483647 (by decide)
  have g := (c_irem (x &&& 2147483647) y d hy).1 h.1
  rw [g]; exact ⟨Int.emod_nonneg _ (by omega), Int.emod_lt_of_pos _ hd⟩
theorem pn_0 : plainName "com/example/rotarium/rotarium/EulerSequenceParityPinLaw" = true := by first | (simp [plainName, overriddenIn]; done) | decide +kernel
theorem d1_0 : decode method_3_code 0 = .ok (.iload_n 0, 1) := by decide +kernel
theorem d1_1 : decode method_3_code 1 = .ok (.ifCond .ne 7, 3) := by decide +kernel
theorem d1_4 : decode method_3_code 4 = .ok (.getstatic 22, 3) := by decide +kernel
theorem d1_7 : decode method_3_code 7 = .ok (.areturn, 1) := by decide +kernel
theorem d1_8 : decode method_3_code 8 = .ok (.iload_n 0, 1) := by decide +kernel
theorem d1_9 : decode method_3_code 9 = .ok (.iconst 1, 1) := by decide +kernel
theorem d1_10 : decode method_3_code 10 = .ok (.if_icmp .ne 7, 3) := by decide +kernel
theorem d1_13 : decode method_3_code 13 = .ok (.getstatic 26, 3) := by decide +kernel
theorem d1_16 : decode method_3_code 16 = .ok (.areturn, 1) := by decide +kernel
theorem d1_17 : decode method_3_code 17 = .ok (.iload_n 0, 1) := by decide +kernel
theorem d1_18 : decode method_3_code 18 = .ok (.iconst 2, 1) := by decide +kernel
theorem d1_19 : decode method_3_code 19 = .ok (.if_icmp .ne 7, 3) := by decide +kernel
theorem d1_22 : decode method_3_code 22 = .ok (.getstatic 29, 3) := by decide +kernel
theorem d1_25 : decode method_3_code 25 = .ok (.areturn, 1) := by decide +kernel
theorem d1_26 : decode method_3_code 26 = .ok (.iload_n 0, 1) := by decide +kernel
theorem d1_27 : decode method_3_code 27 = .ok (.iconst 3, 1) := by decide +kernel
theorem d1_28 : decode method_3_code 28 = .ok (.if_icmp .ne 7, 3) := by decide +kernel
theorem d1_31 : decode method_3_code 31 = .ok (.getstatic 32, 3) := by decide +kernel
theorem d1_34 : decode method_3_code 34 = .ok (.areturn, 1) := by decide +kernel
theorem d1_35 : decode method_3_code 35 = .ok (.iload_n 0, 1) := by decide +kernel
theorem d1_36 : decode method_3_code 36 = .ok (.iconst 4, 1) := by decide +kernel
theorem d1_37 : decode method_3_code 37 = .ok (.if_icmp .ne 7, 3) := by decide +kernel
theorem d1_40 : decode method_3_code 40 = .ok (.getstatic 35, 3) := by decide +kernel
theorem d1_43 : decode method_3_code 43 = .ok (.areturn, 1) := by decide +kernel
theorem d1_44 : decode method_3_code 44 = .ok (.iload_n 0, 1) := by decide +kernel
theorem d1_45 : decode method_3_code 45 = .ok (.iconst 5, 1) := by decide +kernel
theorem d1_46 : decode method_3_code 46 = .ok (.if_icmp .ne 7, 3) := by decide +kernel
theorem d1_49 : decode method_3_code 49 = .ok (.getstatic 38, 3) := by decide +kernel
theorem d1_52 : decode method_3_code 52 = .ok (.areturn, 1) := by decide +kernel
theorem d1_53 : decode method_3_code 53 = .ok (.iload_n 0, 1) := by decide +kernel
theorem d1_54 : decode method_3_code 54 = .ok (.bipush 6, 2) := by decide +kernel
theorem d1_56 : decode method_3_code 56 = .ok (.if_icmp .ne 7, 3) := by decide +kernel
theorem d1_59 : decode method_3_code 59 = .ok (.getstatic 41, 3) := by decide +kernel
theorem d1_62 : decode method_3_code 62 = .ok (.areturn, 1) := by decide +kernel
theorem d1_63 : decode method_3_code 63 = .ok (.iload_n 0, 1) := by decide +kernel
theorem d1_64 : decode method_3_code 64 = .ok (.bipush 7, 2) := by decide +kernel
theorem d1_66 : decode method_3_code 66 = .ok (.if_icmp .ne 7, 3) := by decide +kernel
theorem d1_69 : decode method_3_code 69 = .ok (.getstatic 44, 3) := by decide +kernel
theorem d1_72 : decode method_3_code 72 = .ok (.areturn, 1) := by decide +kernel
theorem d1_73 : decode method_3_code 73 = .ok (.iload_n 0, 1) := by decide +kernel
theorem d1_74 : decode method_3_code 74 = .ok (.bipush 8, 2) := by decide +kernel
theorem d1_76 : decode method_3_code 76 = .ok (.if_icmp .ne 7, 3) := by decide +kernel
theorem d1_79 : decode method_3_code 79 = .ok (.getstatic 47, 3) := by decide +kernel
theorem d1_82 : decode method_3_code 82 = .ok (.areturn, 1) := by decide +kernel
theorem d1_83 : decode method_3_code 83 = .ok (.iload_n 0, 1) := by decide +kernel
theorem d1_84 : decode method_3_code 84 = .ok (.bipush 9, 2) := by decide +kernel
theorem d1_86 : decode method_3_code 86 = .ok (.if_icmp .ne 7, 3) := by decide +kernel
theorem d1_89 : decode method_3_code 89 = .ok (.getstatic 50, 3) := by decide +kernel
theorem d1_92 : decode method_3_code 92 = .ok (.areturn, 1) := by decide +kernel
theorem d1_93 : decode method_3_code 93 = .ok (.iload_n 0, 1) := by decide +kernel
theorem d1_94 : decode method_3_code 94 = .ok (.bipush 10, 2) := by decide +kernel
theorem d1_96 : decode method_3_code 96 = .ok (.if_icmp .ne 7, 3) := by decide +kernel
theorem d1_99 : decode method_3_code 99 = .ok (.getstatic 53, 3) := by decide +kernel
theorem d1_102 : decode method_3_code 102 = .ok (.areturn, 1) := by decide +kernel
theorem d1_103 : decode method_3_code 103 = .ok (.getstatic 56, 3) := by decide +kernel
theorem d1_106 : decode method_3_code 106 = .ok (.areturn, 1) := by decide +kernel
theorem ef_1 (m : MethodId) (x0 : Int32)  : entryFrame m #[(.int x0)] 1 = mkF m 0 #[.val (.int x0)] [] := by first | (simp [entryFrame, mkF, argsToLocals, Value.category]; done) | rfl
def Q1 (Z : State) (p0 : Int32) (w_XYZ_0 : Addr) (w_XZY_1 : Addr) (w_YXZ_2 : Addr) (w_YZX_3 : Addr) (w_ZXY_4 : Addr) (w_ZYX_5 : Addr) (w_XYX_6 : Addr) (w_XZX_7 : Addr) (w_YXY_8 : Addr) (w_YZY_9 : Addr) (w_ZXZ_10 : Addr) (w_ZYZ_11 : Addr) (h0 : Heap) (n0 : Nat) (v : Option Value) (h : Heap) (L : List Loc) : Prop := (∃ r : Addr, v = some (.ref r) ∧ (((0 : Int32) = p0 ∧ w_XYZ_0 = r) ∨ ((1 : Int32) = p0 ∧ w_XZY_1 = r) ∨ ((2 : Int32) = p0 ∧ w_YXZ_2 = r) ∨ ((3 : Int32) = p0 ∧ w_YZX_3 = r) ∨ ((4 : Int32) = p0 ∧ w_ZXY_4 = r) ∨ ((5 : Int32) = p0 ∧ w_ZYX_5 = r) ∨ ((6 : Int32) = p0 ∧ w_XYX_6 = r) ∨ ((7 : Int32) = p0 ∧ w_XZX_7 = r) ∨ ((8 : Int32) = p0 ∧ w_YXY_8 = r) ∨ ((9 : Int32) = p0 ∧ w_YZY_9 = r) ∨ ((10 : Int32) = p0 ∧ w_ZXZ_10 = r) ∨ ((11 : Int32) = p0 ∧ w_ZYZ_11 = r))) ∧ Fr n0 L ∧ h = h0
set_option maxRecDepth 65536 in
set_option maxHeartbeats 40000000 in
theorem rm1 (l : Launch) (Z : State) (aw : Array Value) (hw : ∀ d ∈ tables_1, d.before aw Z = true) (ws : List Jvm.Cond) (p0 : Int32) (w_XYZ_0 : Addr) (w_XZY_1 : Addr) (w_YXZ_2 : Addr) (w_YZX_3 : Addr) (w_ZXY_4 : Addr) (w_ZYX_5 : Addr) (w_XYX_6 : Addr) (w_XZX_7 : Addr) (w_YXY_8 : Addr) (w_YZY_9 : Addr) (w_ZXZ_10 : Addr) (w_ZYZ_11 : Addr) (h0 : Heap) (n0 : Nat) (Z0 : n0 ≤ h0.size) (hrg : 0 ≤ p0.toInt ∧ p0.toInt < 12) (Sf_XYZ_1 : Sta Z h0 "com/example/rotarium/rotarium/EulerSequence" "XYZ" "Lcom/example/rotarium/rotarium/EulerSequence;" (.ref w_XYZ_0)) (Sf_XZY_2 : Sta Z h0 "com/example/rotarium/rotarium/EulerSequence" "XZY" "Lcom/example/rotarium/rotarium/EulerSequence;" (.ref w_XZY_1)) (Sf_YXZ_3 : Sta Z h0 "com/example/rotarium/rotarium/EulerSequence" "YXZ" "Lcom/example/rotarium/rotarium/EulerSequence;" (.ref w_YXZ_2)) (Sf_YZX_4 : Sta Z h0 "com/example/rotarium/rotarium/EulerSequence" "YZX" "Lcom/example/rotarium/rotarium/EulerSequence;" (.ref w_YZX_3)) (Sf_ZXY_5 : Sta Z h0 "com/example/rotarium/rotarium/EulerSequence" "ZXY" "Lcom/example/rotarium/rotarium/EulerSequence;" (.ref w_ZXY_4)) (Sf_ZYX_6 : Sta Z h0 "com/example/rotarium/rotarium/EulerSequence" "ZYX" "Lcom/example/rotarium/rotarium/EulerSequence;" (.ref w_ZYX_5)) (Sf_XYX_7 : Sta Z h0 "com/example/rotarium/rotarium/EulerSequence" "XYX" "Lcom/example/rotarium/rotarium/EulerSequence;" (.ref w_XYX_6)) (Sf_XZX_8 : Sta Z h0 "com/example/rotarium/rotarium/EulerSequence" "XZX" "Lcom/example/rotarium/rotarium/EulerSequence;" (.ref w_XZX_7)) (Sf_YXY_9 : Sta Z h0 "com/example/rotarium/rotarium/EulerSequence" "YXY" "Lcom/example/rotarium/rotarium/EulerSequence;" (.ref w_YXY_8)) (Sf_YZY_10 : Sta Z h0 "com/example/rotarium/rotarium/EulerSequence" "YZY" "Lcom/example/rotarium/rotarium/EulerSequence;" (.ref w_YZY_9)) (Sf_ZXZ_11 : Sta Z h0 "com/example/rotarium/rotarium/EulerSequence" "ZXZ" "Lcom/example/rotarium/rotarium/EulerSequence;" (.ref w_ZXZ_10)) (Sf_ZYZ_12 : Sta Z h0 "com/example/rotarium/rotarium/EulerSequence" "ZYZ" "Lcom/example/rotarium/rotarium/EulerSequence;" (.ref w_ZYZ_11)) :
    MetFree l (⟨"com/example/rotarium/rotarium/EulerSequenceParityPinLaw", "pick", "(I)Lcom/example/rotarium/rotarium/EulerSequence;"⟩ : MethodName) (head1 (Jvm.Cond.code (⟨"com/example/rotarium/rotarium/EulerSequenceParityPinLaw", "pick", "(I)Lcom/example/rotarium/rotarium/EulerSequence;"⟩ : MethodName) method_3_code 1 (some (.object "com/example/rotarium/rotarium/EulerSequence")) :: ws) ({ frames := 0, cells := 0, slots := 0, locals := 0 } : Room)) (fun a U => a = #[(.int p0)] ∧ Z.Warmed39 U.vm ∧ U.heap = h0) (fun _ _ _ _ _ => True) (fun _ U o U' => ∃ v L, o = .returned v ∧ Q1 Z p0 w_XYZ_0 w_XZY_1 w_YXZ_2 w_YZX_3 w_ZXY_4 w_ZYX_5 w_XYX_6 w_XZX_7 w_YXY_8 w_YZY_9 w_ZXZ_10 w_ZYZ_11 h0 n0 v U'.heap L ∧ FrameEnd U o U' L ({ frames := 0, cells := 0, slots := 0, locals := 0 } : Room).cells ({ frames := 0, cells := 0, slots := 0, locals := 0 } : Room).slots) := by
  refine MetFree.of_bodySF (plainFor_of_name pn_0) hisR ?_
  intro p e s m args below meth c s₁ Bd hml0 hP hK
  obtain ⟨rfl, hZ, hh⟩ := hP
  have hx := Bd.exec
  have hby := Bd.bytes
  have hml : c.maxLocals = 1 := hml0
  have hown : s.vm.findClass "com/example/rotarium/rotarium/EulerSequenceParityPinLaw" = some m.cls := findClass_of_methodNamed Bd.named
  have hnm := (name_of_methodNamed Bd.named Bd.method).1
  have X0 : Stand p l e ({ frames := 0, cells := 0, slots := 0, locals := 0 } : Room) s m #[(.int p0)] below meth c s₁ [] 0 0 := Stand.of_body Bd
  have e0 : s₁.heap = h0 := by rw [← hh, Bd.state]; rfl
  have N0 := Fr.nil n0
  have pre0 : ∀ t, Steps p.tables e below (s₁.setTop (mkF m 0 #[.val (.int p0)] [])) t → Steps p.tables e below (s₁.setTop (entryFrame m #[(.int p0)] 1)) t := fun t k => castTop (ef_1 m p0 ) k
  have pre1 : ∀ t, Steps p.tables e below (s₁.setTop (mkF m 1 #[.val (.int p0)] [(.int p0)])) t → Steps p.tables e below (s₁.setTop (entryFrame m #[(.int p0)] 1)) t := fun t kt => pre0 t (by
      show Steps p.tables e below (s₁.setTop (mkF m 0 #[.val (.int p0)] [])) _
      refine XS.iloadN X0.here hx rfl (hb hby d1_0) rfl ?_
      exact kt)
  by_cases hc2 : p0 = (0 : Int32)
  · skip
    obtain ⟨T3, X3, e3, st3⟩ := getS2 X0 hx hZ hown (host := "") (Or.inl (hw _ (List.mem_of_getElem? (i := 5) rfl))) Via.refl e0 Sf_XYZ_1 (g := (mkF m 4 #[.val (.int p0)] [])) rfl (hb hby d1_4)
    have pre4 : ∀ t, Steps p.tables e below (T3.setTop (mkF m 7 #[.val (.int p0)] [(.ref w_XYZ_0)])) t → Steps p.tables e below (s₁.setTop (entryFrame m #[(.int p0)] 1)) t := fun t kt => pre1 t (by
        show Steps p.tables e below (s₁.setTop (mkF m 1 #[.val (.int p0)] [(.int p0)])) _
        refine XS.ifNo X0.here hx rfl (hb hby d1_1) rfl ((if0 _ _).trans (teq hc2).2) ?_
        show Steps p.tables e below (s₁.setTop (mkF m 4 #[.val (.int p0)] [])) _
        refine st3 _ ?_
        exact kt)
    obtain ⟨fs, hr, hrun, hended, hW, hsame⟩ := X3.leave (v := some (.ref w_XYZ_0)) (fun h => by rw [Bd.returns] at h; cases h)
    refine ⟨_, _, pre4 _ ?_, hrun, hended, _, _, rfl, ?_, ⟨_, rfl⟩, hW, hsame.mono (by decide) (by decide)⟩
    · show Steps p.tables e below (T3.setTop (mkF m 7 #[.val (.int p0)] [(.ref w_XYZ_0)])) _
      jvm_step X3.here [X3.here.top, hx, (hb hby d1_7), X3.method', Bd.returns, Value.isRef, FieldType.isReference]
      first | (intro acts; rw [hr _ acts rfl rfl rfl]) | rw [hr _ _ rfl rfl rfl]
      exact Steps.refl _
    · show Q1 Z _ _ _ _ _ _ _ _ _ _ _ _ _ h0 n0 _ T3.heap _
      rw [e3]
      exact ⟨⟨_, rfl, Or.inl ⟨hc2.symm, rfl⟩⟩, N0, rfl⟩
  · skip
    have pre5 : ∀ t, Steps p.tables e below (s₁.setTop (mkF m 10 #[.val (.int p0)] [(.int (1 : Int32)), (.int p0)])) t → Steps p.tables e below (s₁.setTop (entryFrame m #[(.int p0)] 1)) t := fun t kt => pre1 t (by
        show Steps p.tables e below (s₁.setTop (mkF m 1 #[.val (.int p0)] [(.int p0)])) _
        refine XS.ifYes X0.here hx rfl (pc0 := 1) (pc' := 8) rfl (hb hby d1_1) rfl ((if0 _ _).trans (feq hc2).2) (by decide) (by decide) ?_
        show Steps p.tables e below (s₁.setTop (mkF m 8 #[.val (.int p0)] [])) _
        refine XS.iloadN X0.here hx rfl (hb hby d1_8) rfl ?_
        show Steps p.tables e below (s₁.setTop (mkF m 9 #[.val (.int p0)] [(.int p0)])) _
        refine XS.iconst X0.here hx rfl (hb hby d1_9) ?_
        exact kt)
    by_cases hc6 : p0 = (1 : Int32)
    · skip
      obtain ⟨T7, X7, e7, st7⟩ := getS2 X0 hx hZ hown (host := "") (Or.inl (hw _ (List.mem_of_getElem? (i := 31) rfl))) Via.refl e0 Sf_XZY_2 (g := (mkF m 13 #[.val (.int p0)] [])) rfl (hb hby d1_13)
      have pre8 : ∀ t, Steps p.tables e below (T7.setTop (mkF m 16 #[.val (.int p0)] [(.ref w_XZY_1)])) t → Steps p.tables e below (s₁.setTop (entryFrame m #[(.int p0)] 1)) t := fun t kt => pre5 t (by
          show Steps p.tables e below (s₁.setTop (mkF m 10 #[.val (.int p0)] [(.int (1 : Int32)), (.int p0)])) _
          refine XS.icmpNo X0.here hx rfl (hb hby d1_10) rfl (teq hc6).2 ?_
          show Steps p.tables e below (s₁.setTop (mkF m 13 #[.val (.int p0)] [])) _
          refine st7 _ ?_
          exact kt)
      obtain ⟨fs, hr, hrun, hended, hW, hsame⟩ := X7.leave (v := some (.ref w_XZY_1)) (fun h => by rw [Bd.returns] at h; cases h)
      refine ⟨_, _, pre8 _ ?_, hrun, hended, _, _, rfl, ?_, ⟨_, rfl⟩, hW, hsame.mono (by decide) (by decide)⟩
      · show Steps p.tables e below (T7.setTop (mkF m 16 #[.val (.int p0)] [(.ref w_XZY_1)])) _
        jvm_step X7.here [X7.here.top, hx, (hb hby d1_16), X7.method', Bd.returns, Value.isRef, FieldType.isReference]
        first | (intro acts; rw [hr _ acts rfl rfl rfl]) | rw [hr _ _ rfl rfl rfl]
        exact Steps.refl _
      · show Q1 Z _ _ _ _ _ _ _ _ _ _ _ _ _ h0 n0 _ T7.heap _
        rw [e7]
        exact ⟨⟨_, rfl, Or.inr (Or.inl ⟨hc6.symm, rfl⟩)⟩, N0, rfl⟩
    · skip
      have pre9 : ∀ t, Steps p.tables e below (s₁.setTop (mkF m 19 #[.val (.int p0)] [(.int (2 : Int32)), (.int p0)])) t → Steps p.tables e below (s₁.setTop (entryFrame m #[(.int p0)] 1)) t := fun t kt => pre5 t (by
          show Steps p.tables e below (s₁.setTop (mkF m 10 #[.val (.int p0)] [(.int (1 : Int32)), (.int p0)])) _
          refine XS.icmpYes X0.here hx rfl (pc0 := 10) (pc' := 17) rfl (hb hby d1_10) rfl (feq hc6).2 (by decide) (by decide) ?_
          show Steps p.tables e below (s₁.setTop (mkF m 17 #[.val (.int p0)] [])) _
          refine XS.iloadN X0.here hx rfl (hb hby d1_17) rfl ?_
          show Steps p.tables e below (s₁.setTop (mkF m 18 #[.val (.int p0)] [(.int p0)])) _
          refine XS.iconst X0.here hx rfl (hb hby d1_18) ?_
          exact kt)
      by_cases hc10 : p0 = (2 : Int32)
      · skip
        obtain ⟨T11, X11, e11, st11⟩ := getS2 X0 hx hZ hown (host := "") (Or.inl (hw _ (List.mem_of_getElem? (i := 19) rfl))) Via.refl e0 Sf_YXZ_3 (g := (mkF m 22 #[.val (.int p0)] [])) rfl (hb hby d1_22)
        have pre12 : ∀ t, Steps p.tables e below (T11.setTop (mkF m 25 #[.val (.int p0)] [(.ref w_YXZ_2)])) t → Steps p.tables e below (s₁.setTop (entryFrame m #[(.int p0)] 1)) t := fun t kt => pre9 t (by
            show Steps p.tables e below (s₁.setTop (mkF m 19 #[.val (.int p0)] [(.int (2 : Int32)), (.int p0)])) _
            refine XS.icmpNo X0.here hx rfl (hb hby d1_19) rfl (teq hc10).2 ?_
            show Steps p.tables e below (s₁.setTop (mkF m 22 #[.val (.int p0)] [])) _
            refine st11 _ ?_
            exact kt)
        obtain ⟨fs, hr, hrun, hended, hW, hsame⟩ := X11.leave (v := some (.ref w_YXZ_2)) (fun h => by rw [Bd.returns] at h; cases h)
        refine ⟨_, _, pre12 _ ?_, hrun, hended, _, _, rfl, ?_, ⟨_, rfl⟩, hW, hsame.mono (by decide) (by decide)⟩
        · show Steps p.tables e below (T11.setTop (mkF m 25 #[.val (.int p0)] [(.ref w_YXZ_2)])) _
          jvm_step X11.here [X11.here.top, hx, (hb hby d1_25), X11.method', Bd.returns, Value.isRef, FieldType.isReference]
          first | (intro acts; rw [hr _ acts rfl rfl rfl]) | rw [hr _ _ rfl rfl rfl]
          exact Steps.refl _
        · show Q1 Z _ _ _ _ _ _ _ _ _ _ _ _ _ h0 n0 _ T11.heap _
          rw [e11]
          exact ⟨⟨_, rfl, Or.inr (Or.inr (Or.inl ⟨hc10.symm, rfl⟩))⟩, N0, rfl⟩
      · skip
        have pre13 : ∀ t, Steps p.tables e below (s₁.setTop (mkF m 28 #[.val (.int p0)] [(.int (3 : Int32)), (.int p0)])) t → Steps p.tables e below (s₁.setTop (entryFrame m #[(.int p0)] 1)) t := fun t kt => pre9 t (by
            show Steps p.tables e below (s₁.setTop (mkF m 19 #[.val (.int p0)] [(.int (2 : Int32)), (.int p0)])) _
            refine XS.icmpYes X0.here hx rfl (pc0 := 19) (pc' := 26) rfl (hb hby d1_19) rfl (feq hc10).2 (by decide) (by decide) ?_
            show Steps p.tables e below (s₁.setTop (mkF m 26 #[.val (.int p0)] [])) _
            refine XS.iloadN X0.here hx rfl (hb hby d1_26) rfl ?_
            show Steps p.tables e below (s₁.setTop (mkF m 27 #[.val (.int p0)] [(.int p0)])) _
            refine XS.iconst X0.here hx rfl (hb hby d1_27) ?_
            exact kt)
        by_cases hc14 : p0 = (3 : Int32)
        · skip
          obtain ⟨T15, X15, e15, st15⟩ := getS2 X0 hx hZ hown (host := "") (Or.inl (hw _ (List.mem_of_getElem? (i := 17) rfl))) Via.refl e0 Sf_YZX_4 (g := (mkF m 31 #[.val (.int p0)] [])) rfl (hb hby d1_31)
          have pre16 : ∀ t, Steps p.tables e below (T15.setTop (mkF m 34 #[.val (.int p0)] [(.ref w_YZX_3)])) t → Steps p.tables e below (s₁.setTop (entryFrame m #[(.int p0)] 1)) t := fun t kt => pre13 t (by
              show Steps p.tables e below (s₁.setTop (mkF m 28 #[.val (.int p0)] [(.int (3 : Int32)), (.int p0)])) _
              refine XS.icmpNo X0.here hx rfl (hb hby d1_28) rfl (teq hc14).2 ?_
              show Steps p.tables e below (s₁.setTop (mkF m 31 #[.val (.int p0)] [])) _
              refine st15 _ ?_
              exact kt)
          obtain ⟨fs, hr, hrun, hended, hW, hsame⟩ := X15.leave (v := some (.ref w_YZX_3)) (fun h => by rw [Bd.returns] at h; cases h)
          refine ⟨_, _, pre16 _ ?_, hrun, hended, _, _, rfl, ?_, ⟨_, rfl⟩, hW, hsame.mono (by decide) (by decide)⟩
          · show Steps p.tables e below (T15.setTop (mkF m 34 #[.val (.int p0)] [(.ref w_YZX_3)])) _
            jvm_step X15.here [X15.here.top, hx, (hb hby d1_34), X15.method', Bd.returns, Value.isRef, FieldType.isReference]
            first | (intro acts; rw [hr _ acts rfl rfl rfl]) | rw [hr _ _ rfl rfl rfl]
            exact Steps.refl _
          · show Q1 Z _ _ _ _ _ _ _ _ _ _ _ _ _ h0 n0 _ T15.heap _
            rw [e15]
            exact ⟨⟨_, rfl, Or.inr (Or.inr (Or.inr (Or.inl ⟨hc14.symm, rfl⟩)))⟩, N0, rfl⟩
        · skip
          have pre17 : ∀ t, Steps p.tables e below (s₁.setTop (mkF m 37 #[.val (.int p0)] [(.int (4 : Int32)), (.int p0)])) t → Steps p.tables e below (s₁.setTop (entryFrame m #[(.int p0)] 1)) t := fun t kt => pre13 t (by
              show Steps p.tables e below (s₁.setTop (mkF m 28 #[.val (.int p0)] [(.int (3 : Int32)), (.int p0)])) _
              refine XS.icmpYes X0.here hx rfl (pc0 := 28) (pc' := 35) rfl (hb hby d1_28) rfl (feq hc14).2 (by decide) (by decide) ?_
              show Steps p.tables e below (s₁.setTop (mkF m 35 #[.val (.int p0)] [])) _
              refine XS.iloadN X0.here hx rfl (hb hby d1_35) rfl ?_
              show Steps p.tables e below (s₁.setTop (mkF m 36 #[.val (.int p0)] [(.int p0)])) _
              refine XS.iconst X0.here hx rfl (hb hby d1_36) ?_
              exact kt)
          by_cases hc18 : p0 = (4 : Int32)
          · skip
            obtain ⟨T19, X19, e19, st19⟩ := getS2 X0 hx hZ hown (host := "") (Or.inl (hw _ (List.mem_of_getElem? (i := 27) rfl))) Via.refl e0 Sf_ZXY_5 (g := (mkF m 40 #[.val (.int p0)] [])) rfl (hb hby d1_40)
            have pre20 : ∀ t, Steps p.tables e below (T19.setTop (mkF m 43 #[.val (.int p0)] [(.ref w_ZXY_4)])) t → Steps p.tables e below (s₁.setTop (entryFrame m #[(.int p0)] 1)) t := fun t kt => pre17 t (by
                show Steps p.tables e below (s₁.setTop (mkF m 37 #[.val (.int p0)] [(.int (4 : Int32)), (.int p0)])) _
                refine XS.icmpNo X0.here hx rfl (hb hby d1_37) rfl (teq hc18).2 ?_
                show Steps p.tables e below (s₁.setTop (mkF m 40 #[.val (.int p0)] [])) _
                refine st19 _ ?_
                exact kt)
            obtain ⟨fs, hr, hrun, hended, hW, hsame⟩ := X19.leave (v := some (.ref w_ZXY_4)) (fun h => by rw [Bd.returns] at h; cases h)
            refine ⟨_, _, pre20 _ ?_, hrun, hended, _, _, rfl, ?_, ⟨_, rfl⟩, hW, hsame.mono (by decide) (by decide)⟩
            · show Steps p.tables e below (T19.setTop (mkF m 43 #[.val (.int p0)] [(.ref w_ZXY_4)])) _
              jvm_step X19.here [X19.here.top, hx, (hb hby d1_43), X19.method', Bd.returns, Value.isRef, FieldType.isReference]
              first | (intro acts; rw [hr _ acts rfl rfl rfl]) | rw [hr _ _ rfl rfl rfl]
              exact Steps.refl _
            · show Q1 Z _ _ _ _ _ _ _ _ _ _ _ _ _ h0 n0 _ T19.heap _
              rw [e19]
              exact ⟨⟨_, rfl, Or.inr (Or.inr (Or.inr (Or.inr (Or.inl ⟨hc18.symm, rfl⟩))))⟩, N0, rfl⟩
          · skip
            have pre21 : ∀ t, Steps p.tables e below (s₁.setTop (mkF m 46 #[.val (.int p0)] [(.int (5 : Int32)), (.int p0)])) t → Steps p.tables e below (s₁.setTop (entryFrame m #[(.int p0)] 1)) t := fun t kt => pre17 t (by
                show Steps p.tables e below (s₁.setTop (mkF m 37 #[.val (.int p0)] [(.int (4 : Int32)), (.int p0)])) _
                refine XS.icmpYes X0.here hx rfl (pc0 := 37) (pc' := 44) rfl (hb hby d1_37) rfl (feq hc18).2 (by decide) (by decide) ?_
                show Steps p.tables e below (s₁.setTop (mkF m 44 #[.val (.int p0)] [])) _
                refine XS.iloadN X0.here hx rfl (hb hby d1_44) rfl ?_
                show Steps p.tables e below (s₁.setTop (mkF m 45 #[.val (.int p0)] [(.int p0)])) _
                refine XS.iconst X0.here hx rfl (hb hby d1_45) ?_
                exact kt)
            by_cases hc22 : p0 = (5 : Int32)
            · skip
              obtain ⟨T23, X23, e23, st23⟩ := getS2 X0 hx hZ hown (host := "") (Or.inl (hw _ (List.mem_of_getElem? (i := 39) rfl))) Via.refl e0 Sf_ZYX_6 (g := (mkF m 49 #[.val (.int p0)] [])) rfl (hb hby d1_49)
              have pre24 : ∀ t, Steps p.tables e below (T23.setTop (mkF m 52 #[.val (.int p0)] [(.ref w_ZYX_5)])) t → Steps p.tables e below (s₁.setTop (entryFrame m #[(.int p0)] 1)) t := fun t kt => pre21 t (by
                  show Steps p.tables e below (s₁.setTop (mkF m 46 #[.val (.int p0)] [(.int (5 : Int32)), (.int p0)])) _
                  refine XS.icmpNo X0.here hx rfl (hb hby d1_46) rfl (teq hc22).2 ?_
                  show Steps p.tables e below (s₁.setTop (mkF m 49 #[.val (.int p0)] [])) _
                  refine st23 _ ?_
                  exact kt)
              obtain ⟨fs, hr, hrun, hended, hW, hsame⟩ := X23.leave (v := some (.ref w_ZYX_5)) (fun h => by rw [Bd.returns] at h; cases h)
              refine ⟨_, _, pre24 _ ?_, hrun, hended, _, _, rfl, ?_, ⟨_, rfl⟩, hW, hsame.mono (by decide) (by decide)⟩
              · show Steps p.tables e below (T23.setTop (mkF m 52 #[.val (.int p0)] [(.ref w_ZYX_5)])) _
                jvm_step X23.here [X23.here.top, hx, (hb hby d1_52), X23.method', Bd.returns, Value.isRef, FieldType.isReference]
                first | (intro acts; rw [hr _ acts rfl rfl rfl]) | rw [hr _ _ rfl rfl rfl]
                exact Steps.refl _
              · show Q1 Z _ _ _ _ _ _ _ _ _ _ _ _ _ h0 n0 _ T23.heap _
                rw [e23]
                exact ⟨⟨_, rfl, Or.inr (Or.inr (Or.inr (Or.inr (Or.inr (Or.inl ⟨hc22.symm, rfl⟩)))))⟩, N0, rfl⟩
            · skip
              have pre25 : ∀ t, Steps p.tables e below (s₁.setTop (mkF m 56 #[.val (.int p0)] [(.int (6 : Int32)), (.int p0)])) t → Steps p.tables e below (s₁.setTop (entryFrame m #[(.int p0)] 1)) t := fun t kt => pre21 t (by
                  show Steps p.tables e below (s₁.setTop (mkF m 46 #[.val (.int p0)] [(.int (5 : Int32)), (.int p0)])) _
                  refine XS.icmpYes X0.here hx rfl (pc0 := 46) (pc' := 53) rfl (hb hby d1_46) rfl (feq hc22).2 (by decide) (by decide) ?_
                  show Steps p.tables e below (s₁.setTop (mkF m 53 #[.val (.int p0)] [])) _
                  refine XS.iloadN X0.here hx rfl (hb hby d1_53) rfl ?_
                  show Steps p.tables e below (s₁.setTop (mkF m 54 #[.val (.int p0)] [(.int p0)])) _
                  refine XS.bipush X0.here hx rfl (hb hby d1_54) ?_
                  exact kt)
              by_cases hc26 : p0 = (6 : Int32)
              · skip
                obtain ⟨T27, X27, e27, st27⟩ := getS2 X0 hx hZ hown (host := "") (Or.inl (hw _ (List.mem_of_getElem? (i := 37) rfl))) Via.refl e0 Sf_XYX_7 (g := (mkF m 59 #[.val (.int p0)] [])) rfl (hb hby d1_59)
                have pre28 : ∀ t, Steps p.tables e below (T27.setTop (mkF m 62 #[.val (.int p0)] [(.ref w_XYX_6)])) t → Steps p.tables e below (s₁.setTop (entryFrame m #[(.int p0)] 1)) t := fun t kt => pre25 t (by
                    show Steps p.tables e below (s₁.setTop (mkF m 56 #[.val (.int p0)] [(.int (6 : Int32)), (.int p0)])) _
                    refine XS.icmpNo X0.here hx rfl (hb hby d1_56) rfl (teq hc26).2 ?_
                    show Steps p.tables e below (s₁.setTop (mkF m 59 #[.val (.int p0)] [])) _
                    refine st27 _ ?_
                    exact kt)
                obtain ⟨fs, hr, hrun, hended, hW, hsame⟩ := X27.leave (v := some (.ref w_XYX_6)) (fun h => by rw [Bd.returns] at h; cases h)
                refine ⟨_, _, pre28 _ ?_, hrun, hended, _, _, rfl, ?_, ⟨_, rfl⟩, hW, hsame.mono (by decide) (by decide)⟩
                · show Steps p.tables e below (T27.setTop (mkF m 62 #[.val (.int p0)] [(.ref w_XYX_6)])) _
                  jvm_step X27.here [X27.here.top, hx, (hb hby d1_62), X27.method', Bd.returns, Value.isRef, FieldType.isReference]
                  first | (intro acts; rw [hr _ acts rfl rfl rfl]) | rw [hr _ _ rfl rfl rfl]
                  exact Steps.refl _
                · show Q1 Z _ _ _ _ _ _ _ _ _ _ _ _ _ h0 n0 _ T27.heap _
                  rw [e27]
                  exact ⟨⟨_, rfl, Or.inr (Or.inr (Or.inr (Or.inr (Or.inr (Or.inr (Or.inl ⟨hc26.symm, rfl⟩))))))⟩, N0, rfl⟩
              · skip
                have pre29 : ∀ t, Steps p.tables e below (s₁.setTop (mkF m 66 #[.val (.int p0)] [(.int (7 : Int32)), (.int p0)])) t → Steps p.tables e below (s₁.setTop (entryFrame m #[(.int p0)] 1)) t := fun t kt => pre25 t (by
                    show Steps p.tables e below (s₁.setTop (mkF m 56 #[.val (.int p0)] [(.int (6 : Int32)), (.int p0)])) _
                    refine XS.icmpYes X0.here hx rfl (pc0 := 56) (pc' := 63) rfl (hb hby d1_56) rfl (feq hc26).2 (by decide) (by decide) ?_
                    show Steps p.tables e below (s₁.setTop (mkF m 63 #[.val (.int p0)] [])) _
                    refine XS.iloadN X0.here hx rfl (hb hby d1_63) rfl ?_
                    show Steps p.tables e below (s₁.setTop (mkF m 64 #[.val (.int p0)] [(.int p0)])) _
                    refine XS.bipush X0.here hx rfl (hb hby d1_64) ?_
                    exact kt)
                by_cases hc30 : p0 = (7 : Int32)
                · skip
                  obtain ⟨T31, X31, e31, st31⟩ := getS2 X0 hx hZ hown (host := "") (Or.inl (hw _ (List.mem_of_getElem? (i := 23) rfl))) Via.refl e0 Sf_XZX_8 (g := (mkF m 69 #[.val (.int p0)] [])) rfl (hb hby d1_69)
                  have pre32 : ∀ t, Steps p.tables e below (T31.setTop (mkF m 72 #[.val (.int p0)] [(.ref w_XZX_7)])) t → Steps p.tables e below (s₁.setTop (entryFrame m #[(.int p0)] 1)) t := fun t kt => pre29 t (by
                      show Steps p.tables e below (s₁.setTop (mkF m 66 #[.val (.int p0)] [(.int (7 : Int32)), (.int p0)])) _
                      refine XS.icmpNo X0.here hx rfl (hb hby d1_66) rfl (teq hc30).2 ?_
                      show Steps p.tables e below (s₁.setTop (mkF m 69 #[.val (.int p0)] [])) _
                      refine st31 _ ?_
                      exact kt)
                  obtain ⟨fs, hr, hrun, hended, hW, hsame⟩ := X31.leave (v := some (.ref w_XZX_7)) (fun h => by rw [Bd.returns] at h; cases h)
                  refine ⟨_, _, pre32 _ ?_, hrun, hended, _, _, rfl, ?_, ⟨_, rfl⟩, hW, hsame.mono (by decide) (by decide)⟩
                  · show Steps p.tables e below (T31.setTop (mkF m 72 #[.val (.int p0)] [(.ref w_XZX_7)])) _
                    jvm_step X31.here [X31.here.top, hx, (hb hby d1_72), X31.method', Bd.returns, Value.isRef, FieldType.isReference]
                    first | (intro acts; rw [hr _ acts rfl rfl rfl]) | rw [hr _ _ rfl rfl rfl]
                    exact Steps.refl _
                  · show Q1 Z _ _ _ _ _ _ _ _ _ _ _ _ _ h0 n0 _ T31.heap _
                    rw [e31]
                    exact ⟨⟨_, rfl, Or.inr (Or.inr (Or.inr (Or.inr (Or.inr (Or.inr (Or.inr (Or.inl ⟨hc30.symm, rfl⟩)))))))⟩, N0, rfl⟩
                · skip
                  have pre33 : ∀ t, Steps p.tables e below (s₁.setTop (mkF m 76 #[.val (.int p0)] [(.int (8 : Int32)), (.int p0)])) t → Steps p.tables e below (s₁.setTop (entryFrame m #[(.int p0)] 1)) t := fun t kt => pre29 t (by
                      show Steps p.tables e below (s₁.setTop (mkF m 66 #[.val (.int p0)] [(.int (7 : Int32)), (.int p0)])) _
                      refine XS.icmpYes X0.here hx rfl (pc0 := 66) (pc' := 73) rfl (hb hby d1_66) rfl (feq hc30).2 (by decide) (by decide) ?_
                      show Steps p.tables e below (s₁.setTop (mkF m 73 #[.val (.int p0)] [])) _
                      refine XS.iloadN X0.here hx rfl (hb hby d1_73) rfl ?_
                      show Steps p.tables e below (s₁.setTop (mkF m 74 #[.val (.int p0)] [(.int p0)])) _
                      refine XS.bipush X0.here hx rfl (hb hby d1_74) ?_
                      exact kt)
                  by_cases hc34 : p0 = (8 : Int32)
                  · skip
                    obtain ⟨T35, X35, e35, st35⟩ := getS2 X0 hx hZ hown (host := "") (Or.inl (hw _ (List.mem_of_getElem? (i := 29) rfl))) Via.refl e0 Sf_YXY_9 (g := (mkF m 79 #[.val (.int p0)] [])) rfl (hb hby d1_79)
                    have pre36 : ∀ t, Steps p.tables e below (T35.setTop (mkF m 82 #[.val (.int p0)] [(.ref w_YXY_8)])) t → Steps p.tables e below (s₁.setTop (entryFrame m #[(.int p0)] 1)) t := fun t kt => pre33 t (by
                        show Steps p.tables e below (s₁.setTop (mkF m 76 #[.val (.int p0)] [(.int (8 : Int32)), (.int p0)])) _
                        refine XS.icmpNo X0.here hx rfl (hb hby d1_76) rfl (teq hc34).2 ?_
                        show Steps p.tables e below (s₁.setTop (mkF m 79 #[.val (.int p0)] [])) _
                        refine st35 _ ?_
                        exact kt)
                    obtain ⟨fs, hr, hrun, hended, hW, hsame⟩ := X35.leave (v := some (.ref w_YXY_8)) (fun h => by rw [Bd.returns] at h; cases h)
                    refine ⟨_, _, pre36 _ ?_, hrun, hended, _, _, rfl, ?_, ⟨_, rfl⟩, hW, hsame.mono (by decide) (by decide)⟩
                    · show Steps p.tables e below (T35.setTop (mkF m 82 #[.val (.int p0)] [(.ref w_YXY_8)])) _
                      jvm_step X35.here [X35.here.top, hx, (hb hby d1_82), X35.method', Bd.returns, Value.isRef, FieldType.isReference]
                      first | (intro acts; rw [hr _ acts rfl rfl rfl]) | rw [hr _ _ rfl rfl rfl]
                      exact Steps.refl _
                    · show Q1 Z _ _ _ _ _ _ _ _ _ _ _ _ _ h0 n0 _ T35.heap _
                      rw [e35]
                      exact ⟨⟨_, rfl, Or.inr (Or.inr (Or.inr (Or.inr (Or.inr (Or.inr (Or.inr (Or.inr (Or.inl ⟨hc34.symm, rfl⟩))))))))⟩, N0, rfl⟩
                  · skip
                    have pre37 : ∀ t, Steps p.tables e below (s₁.setTop (mkF m 86 #[.val (.int p0)] [(.int (9 : Int32)), (.int p0)])) t → Steps p.tables e below (s₁.setTop (entryFrame m #[(.int p0)] 1)) t := fun t kt => pre33 t (by
                        show Steps p.tables e below (s₁.setTop (mkF m 76 #[.val (.int p0)] [(.int (8 : Int32)), (.int p0)])) _
                        refine XS.icmpYes X0.here hx rfl (pc0 := 76) (pc' := 83) rfl (hb hby d1_76) rfl (feq hc34).2 (by decide) (by decide) ?_
                        show Steps p.tables e below (s₁.setTop (mkF m 83 #[.val (.int p0)] [])) _
                        refine XS.iloadN X0.here hx rfl (hb hby d1_83) rfl ?_
                        show Steps p.tables e below (s₁.setTop (mkF m 84 #[.val (.int p0)] [(.int p0)])) _
                        refine XS.bipush X0.here hx rfl (hb hby d1_84) ?_
                        exact kt)
                    by_cases hc38 : p0 = (9 : Int32)
                    · skip
                      obtain ⟨T39, X39, e39, st39⟩ := getS2 X0 hx hZ hown (host := "") (Or.inl (hw _ (List.mem_of_getElem? (i := 35) rfl))) Via.refl e0 Sf_YZY_10 (g := (mkF m 89 #[.val (.int p0)] [])) rfl (hb hby d1_89)
                      have pre40 : ∀ t, Steps p.tables e below (T39.setTop (mkF m 92 #[.val (.int p0)] [(.ref w_YZY_9)])) t → Steps p.tables e below (s₁.setTop (entryFrame m #[(.int p0)] 1)) t := fun t kt => pre37 t (by
                          show Steps p.tables e below (s₁.setTop (mkF m 86 #[.val (.int p0)] [(.int (9 : Int32)), (.int p0)])) _
                          refine XS.icmpNo X0.here hx rfl (hb hby d1_86) rfl (teq hc38).2 ?_
                          show Steps p.tables e below (s₁.setTop (mkF m 89 #[.val (.int p0)] [])) _
                          refine st39 _ ?_
                          exact kt)
                      obtain ⟨fs, hr, hrun, hended, hW, hsame⟩ := X39.leave (v := some (.ref w_YZY_9)) (fun h => by rw [Bd.returns] at h; cases h)
                      refine ⟨_, _, pre40 _ ?_, hrun, hended, _, _, rfl, ?_, ⟨_, rfl⟩, hW, hsame.mono (by decide) (by decide)⟩
                      · show Steps p.tables e below (T39.setTop (mkF m 92 #[.val (.int p0)] [(.ref w_YZY_9)])) _
                        jvm_step X39.here [X39.here.top, hx, (hb hby d1_92), X39.method', Bd.returns, Value.isRef, FieldType.isReference]
                        first | (intro acts; rw [hr _ acts rfl rfl rfl]) | rw [hr _ _ rfl rfl rfl]
                        exact Steps.refl _
                      · show Q1 Z _ _ _ _ _ _ _ _ _ _ _ _ _ h0 n0 _ T39.heap _
                        rw [e39]
                        exact ⟨⟨_, rfl, Or.inr (Or.inr (Or.inr (Or.inr (Or.inr (Or.inr (Or.inr (Or.inr (Or.inr (Or.inl ⟨hc38.symm, rfl⟩)))))))))⟩, N0, rfl⟩
                    · skip
                      have pre41 : ∀ t, Steps p.tables e below (s₁.setTop (mkF m 96 #[.val (.int p0)] [(.int (10 : Int32)), (.int p0)])) t → Steps p.tables e below (s₁.setTop (entryFrame m #[(.int p0)] 1)) t := fun t kt => pre37 t (by
                          show Steps p.tables e below (s₁.setTop (mkF m 86 #[.val (.int p0)] [(.int (9 : Int32)), (.int p0)])) _
                          refine XS.icmpYes X0.here hx rfl (pc0 := 86) (pc' := 93) rfl (hb hby d1_86) rfl (feq hc38).2 (by decide) (by decide) ?_
                          show Steps p.tables e below (s₁.setTop (mkF m 93 #[.val (.int p0)] [])) _
                          refine XS.iloadN X0.here hx rfl (hb hby d1_93) rfl ?_
                          show Steps p.tables e below (s₁.setTop (mkF m 94 #[.val (.int p0)] [(.int p0)])) _
                          refine XS.bipush X0.here hx rfl (hb hby d1_94) ?_
                          exact kt)
                      by_cases hc42 : p0 = (10 : Int32)
                      · skip
                        obtain ⟨T43, X43, e43, st43⟩ := getS2 X0 hx hZ hown (host := "") (Or.inl (hw _ (List.mem_of_getElem? (i := 33) rfl))) Via.refl e0 Sf_ZXZ_11 (g := (mkF m 99 #[.val (.int p0)] [])) rfl (hb hby d1_99)
                        have pre44 : ∀ t, Steps p.tables e below (T43.setTop (mkF m 102 #[.val (.int p0)] [(.ref w_ZXZ_10)])) t → Steps p.tables e below (s₁.setTop (entryFrame m #[(.int p0)] 1)) t := fun t kt => pre41 t (by
                            show Steps p.tables e below (s₁.setTop (mkF m 96 #[.val (.int p0)] [(.int (10 : Int32)), (.int p0)])) _
                            refine XS.icmpNo X0.here hx rfl (hb hby d1_96) rfl (teq hc42).2 ?_
                            show Steps p.tables e below (s₁.setTop (mkF m 99 #[.val (.int p0)] [])) _
                            refine st43 _ ?_
                            exact kt)
                        obtain ⟨fs, hr, hrun, hended, hW, hsame⟩ := X43.leave (v := some (.ref w_ZXZ_10)) (fun h => by rw [Bd.returns] at h; cases h)
                        refine ⟨_, _, pre44 _ ?_, hrun, hended, _, _, rfl, ?_, ⟨_, rfl⟩, hW, hsame.mono (by decide) (by decide)⟩
                        · show Steps p.tables e below (T43.setTop (mkF m 102 #[.val (.int p0)] [(.ref w_ZXZ_10)])) _
                          jvm_step X43.here [X43.here.top, hx, (hb hby d1_102), X43.method', Bd.returns, Value.isRef, FieldType.isReference]
                          first | (intro acts; rw [hr _ acts rfl rfl rfl]) | rw [hr _ _ rfl rfl rfl]
                          exact Steps.refl _
                        · show Q1 Z _ _ _ _ _ _ _ _ _ _ _ _ _ h0 n0 _ T43.heap _
                          rw [e43]
                          exact ⟨⟨_, rfl, Or.inr (Or.inr (Or.inr (Or.inr (Or.inr (Or.inr (Or.inr (Or.inr (Or.inr (Or.inr (Or.inl ⟨hc42.symm, rfl⟩))))))))))⟩, N0, rfl⟩
                      · skip
                        obtain ⟨T45, X45, e45, st45⟩ := getS2 X0 hx hZ hown (host := "") (Or.inl (hw _ (List.mem_of_getElem? (i := 25) rfl))) Via.refl e0 Sf_ZYZ_12 (g := (mkF m 103 #[.val (.int p0)] [])) rfl (hb hby d1_103)
                        have pre46 : ∀ t, Steps p.tables e below (T45.setTop (mkF m 106 #[.val (.int p0)] [(.ref w_ZYZ_11)])) t → Steps p.tables e below (s₁.setTop (entryFrame m #[(.int p0)] 1)) t := fun t kt => pre41 t (by
                            show Steps p.tables e below (s₁.setTop (mkF m 96 #[.val (.int p0)] [(.int (10 : Int32)), (.int p0)])) _
                            refine XS.icmpYes X0.here hx rfl (pc0 := 96) (pc' := 103) rfl (hb hby d1_96) rfl (feq hc42).2 (by decide) (by decide) ?_
                            show Steps p.tables e below (s₁.setTop (mkF m 103 #[.val (.int p0)] [])) _
                            refine st45 _ ?_
                            exact kt)
                        obtain ⟨fs, hr, hrun, hended, hW, hsame⟩ := X45.leave (v := some (.ref w_ZYZ_11)) (fun h => by rw [Bd.returns] at h; cases h)
                        refine ⟨_, _, pre46 _ ?_, hrun, hended, _, _, rfl, ?_, ⟨_, rfl⟩, hW, hsame.mono (by decide) (by decide)⟩
                        · show Steps p.tables e below (T45.setTop (mkF m 106 #[.val (.int p0)] [(.ref w_ZYZ_11)])) _
                          jvm_step X45.here [X45.here.top, hx, (hb hby d1_106), X45.method', Bd.returns, Value.isRef, FieldType.isReference]
                          first | (intro acts; rw [hr _ acts rfl rfl rfl]) | rw [hr _ _ rfl rfl rfl]
                          exact Steps.refl _
                        · show Q1 Z _ _ _ _ _ _ _ _ _ _ _ _ _ h0 n0 _ T45.heap _
                          rw [e45]
                          exact ⟨⟨_, rfl, Or.inr (Or.inr (Or.inr (Or.inr (Or.inr (Or.inr (Or.inr (Or.inr (Or.inr (Or.inr (Or.inr (⟨(own_last12 hrg hc2 hc6 hc10 hc14 hc18 hc22 hc26 hc30 hc34 hc38 hc42), rfl⟩)))))))))))⟩, N0, rfl⟩
theorem pn_1 : plainName "com/example/rotarium/rotarium/EulerSequence" = true := by first | (simp [plainName, overriddenIn]; done) | decide +kernel
theorem d2_0 : decode prog_5_method_10_code 0 = .ok (.aload_n 0, 1) := by decide +kernel
theorem d2_1 : decode prog_5_method_10_code 1 = .ok (.getfield 73, 3) := by decide +kernel
theorem d2_4 : decode prog_5_method_10_code 4 = .ok (.aload_n 0, 1) := by decide +kernel
theorem d2_5 : decode prog_5_method_10_code 5 = .ok (.getfield 69, 3) := by decide +kernel
theorem d2_8 : decode prog_5_method_10_code 8 = .ok (.isub, 1) := by decide +kernel
theorem d2_9 : decode prog_5_method_10_code 9 = .ok (.iconst 3, 1) := by decide +kernel
theorem d2_10 : decode prog_5_method_10_code 10 = .ok (.iadd, 1) := by decide +kernel
theorem d2_11 : decode prog_5_method_10_code 11 = .ok (.iconst 3, 1) := by decide +kernel
theorem d2_12 : decode prog_5_method_10_code 12 = .ok (.irem, 1) := by decide +kernel
theorem d2_13 : decode prog_5_method_10_code 13 = .ok (.iconst 1, 1) := by decide +kernel
theorem d2_14 : decode prog_5_method_10_code 14 = .ok (.if_icmp .ne 7, 3) := by decide +kernel
theorem d2_17 : decode prog_5_method_10_code 17 = .ok (.dconst 1, 1) := by decide +kernel
theorem d2_18 : decode prog_5_method_10_code 18 = .ok (.goto 6, 3) := by decide +kernel
theorem d2_21 : decode prog_5_method_10_code 21 = .ok (.ldc2_w 90, 3) := by decide +kernel
theorem d2_24 : decode prog_5_method_10_code 24 = .ok (.dreturn, 1) := by decide +kernel
theorem ef_2 (m : MethodId) (x0 : Addr)  : entryFrame m #[(.ref x0)] 1 = mkF m 0 #[.val (.ref x0)] [] := by first | (simp [entryFrame, mkF, argsToLocals, Value.category]; done) | rfl
def Q2 (Z : State) (a0 : Addr) (w_middleAxis_0 : Int32) (w_firstAxis_1 : Int32) (h0 : Heap) (n0 : Nat) (v : Option Value) (h : Heap) (L : List Loc) : Prop := (∃ r : UInt64, v = some (.double r) ∧ (((((w_middleAxis_0 - w_firstAxis_1) + (3 : Int32)) % (3 : Int32)) = (1 : Int32) → FP.dconst1 = r) ∧ (¬ (((w_middleAxis_0 - w_firstAxis_1) + (3 : Int32)) % (3 : Int32)) = (1 : Int32) → (13830554455654793216 : UInt64) = r))) ∧ Fr n0 L ∧ h = h0
set_option maxRecDepth 65536 in
set_option maxHeartbeats 40000000 in
theorem rm2 (l : Launch) (Z : State) (aw : Array Value) (hw : ∀ d ∈ tables_1, d.before aw Z = true) (ws : List Jvm.Cond) (a0 : Addr) (w_middleAxis_0 : Int32) (w_firstAxis_1 : Int32) (h0 : Heap) (n0 : Nat) (Z0 : n0 ≤ h0.size) (Ff_middleAxis_0 : Fld Z h0 a0 "com/example/rotarium/rotarium/EulerSequence" "middleAxis" "I" (.int w_middleAxis_0)) (Ff_firstAxis_1 : Fld Z h0 a0 "com/example/rotarium/rotarium/EulerSequence" "firstAxis" "I" (.int w_firstAxis_1)) :
    MetFree l (⟨"com/example/rotarium/rotarium/EulerSequence", "parity", "()D"⟩ : MethodName) (head1 (Jvm.Cond.code (⟨"com/example/rotarium/rotarium/EulerSequence", "parity", "()D"⟩ : MethodName) prog_5_method_10_code 1 (some .double) :: ws) ({ frames := 0, cells := 0, slots := 0, locals := 0 } : Room)) (fun a U => a = #[(.ref a0)] ∧ Z.Warmed39 U.vm ∧ U.heap = h0) (fun _ _ _ _ _ => True) (fun _ U o U' => ∃ v L, o = .returned v ∧ Q2 Z a0 w_middleAxis_0 w_firstAxis_1 h0 n0 v U'.heap L ∧ FrameEnd U o U' L ({ frames := 0, cells := 0, slots := 0, locals := 0 } : Room).cells ({ frames := 0, cells := 0, slots := 0, locals := 0 } : Room).slots) := by
  refine MetFree.of_bodySF (plainFor_of_name pn_1) hisR ?_
  intro p e s m args below meth c s₁ Bd hml0 hP hK
  obtain ⟨rfl, hZ, hh⟩ := hP
  have hx := Bd.exec
  have hby := Bd.bytes
  have hml : c.maxLocals = 1 := hml0
  have hown : s.vm.findClass "com/example/rotarium/rotarium/EulerSequence" = some m.cls := findClass_of_methodNamed Bd.named
  have hnm := (name_of_methodNamed Bd.named Bd.method).1
  have X0 : Stand p l e ({ frames := 0, cells := 0, slots := 0, locals := 0 } : Room) s m #[(.ref a0)] below meth c s₁ [] 0 0 := Stand.of_body Bd
  have e0 : s₁.heap = h0 := by rw [← hh, Bd.state]; rfl
  have N0 := Fr.nil n0
  have pre0 : ∀ t, Steps p.tables e below (s₁.setTop (mkF m 0 #[.val (.ref a0)] [])) t → Steps p.tables e below (s₁.setTop (entryFrame m #[(.ref a0)] 1)) t := fun t k => castTop (ef_2 m a0 ) k
  obtain ⟨T1, X1, e1, st1⟩ := getF X0 hx hZ hown (host := "") (Or.inl (hw _ (List.mem_of_getElem? (i := 13) rfl))) Via.refl e0 Ff_middleAxis_0 (g := (mkF m 1 #[.val (.ref a0)] [(.ref a0)])) rfl rfl (hb hby d2_1)
  obtain ⟨T2, X2, e2, st2⟩ := getF X1 hx hZ hown (host := "") (Or.inl (hw _ (List.mem_of_getElem? (i := 15) rfl))) Via.refl e1 Ff_firstAxis_1 (g := (mkF m 5 #[.val (.ref a0)] [(.ref a0), (.int w_middleAxis_0)])) rfl rfl (hb hby d2_5)
  have pre3 : ∀ t, Steps p.tables e below (T2.setTop (mkF m 14 #[.val (.ref a0)] [(.int (1 : Int32)), (.int (((w_middleAxis_0 - w_firstAxis_1) + (3 : Int32)) % (3 : Int32)))])) t → Steps p.tables e below (s₁.setTop (entryFrame m #[(.ref a0)] 1)) t := fun t kt => pre0 t (by
      show Steps p.tables e below (s₁.setTop (mkF m 0 #[.val (.ref a0)] [])) _
      refine XS.aloadN X0.here hx rfl (hb hby d2_0) rfl rfl ?_
      show Steps p.tables e below (s₁.setTop (mkF m 1 #[.val (.ref a0)] [(.ref a0)])) _
      refine st1 _ ?_
      show Steps p.tables e below (T1.setTop (mkF m 4 #[.val (.ref a0)] [(.int w_middleAxis_0)])) _
      refine XS.aloadN X1.here hx rfl (hb hby d2_4) rfl rfl ?_
      show Steps p.tables e below (T1.setTop (mkF m 5 #[.val (.ref a0)] [(.ref a0), (.int w_middleAxis_0)])) _
      refine st2 _ ?_
      show Steps p.tables e below (T2.setTop (mkF m 8 #[.val (.ref a0)] [(.int w_firstAxis_1), (.int w_middleAxis_0)])) _
      refine XS.isub X2.here hx rfl (hb hby d2_8) rfl ?_
      show Steps p.tables e below (T2.setTop (mkF m 9 #[.val (.ref a0)] [(.int (w_middleAxis_0 - w_firstAxis_1))])) _
      refine XS.iconst X2.here hx rfl (hb hby d2_9) ?_
      show Steps p.tables e below (T2.setTop (mkF m 10 #[.val (.ref a0)] [(.int (3 : Int32)), (.int (w_middleAxis_0 - w_firstAxis_1))])) _
      refine XS.iadd X2.here hx rfl (hb hby d2_10) rfl ?_
      show Steps p.tables e below (T2.setTop (mkF m 11 #[.val (.ref a0)] [(.int ((w_middleAxis_0 - w_firstAxis_1) + (3 : Int32)))])) _
      refine XS.iconst X2.here hx rfl (hb hby d2_11) ?_
      show Steps p.tables e below (T2.setTop (mkF m 12 #[.val (.ref a0)] [(.int (3 : Int32)), (.int ((w_middleAxis_0 - w_firstAxis_1) + (3 : Int32)))])) _
      refine iremM X2 hx rfl (hb hby d2_12) rfl (by decide) ?_
      show Steps p.tables e below (T2.setTop (mkF m 13 #[.val (.ref a0)] [(.int (((w_middleAxis_0 - w_firstAxis_1) + (3 : Int32)) % (3 : Int32)))])) _
      refine XS.iconst X2.here hx rfl (hb hby d2_13) ?_
      exact kt)
  by_cases hc4 : (((w_middleAxis_0 - w_firstAxis_1) + (3 : Int32)) % (3 : Int32)) = (1 : Int32)
  · skip
    have pre5 : ∀ t, Steps p.tables e below (T2.setTop (mkF m 24 #[.val (.ref a0)] [(.double FP.dconst1)])) t → Steps p.tables e below (s₁.setTop (entryFrame m #[(.ref a0)] 1)) t := fun t kt => pre3 t (by
        show Steps p.tables e below (T2.setTop (mkF m 14 #[.val (.ref a0)] [(.int (1 : Int32)), (.int (((w_middleAxis_0 - w_firstAxis_1) + (3 : Int32)) % (3 : Int32)))])) _
        refine XS.icmpNo X2.here hx rfl (hb hby d2_14) rfl (teq hc4).2 ?_
        show Steps p.tables e below (T2.setTop (mkF m 17 #[.val (.ref a0)] [])) _
        refine XS.dconst1 X2.here hx rfl (hb hby d2_17) rfl ?_
        show Steps p.tables e below (T2.setTop (mkF m 18 #[.val (.ref a0)] [(.double FP.dconst1)])) _
        refine XS.goto X2.here hx rfl (pc0 := 18) (pc' := 24) rfl (hb hby d2_18) (by decide) (by decide) ?_
        exact kt)
    obtain ⟨fs, hr, hrun, hended, hW, hsame⟩ := X2.leave (v := some (.double FP.dconst1)) (fun h => by rw [Bd.returns] at h; cases h)
    refine ⟨_, _, pre5 _ ?_, hrun, hended, _, _, rfl, ?_, ⟨_, rfl⟩, hW, hsame.mono (by decide) (by decide)⟩
    · show Steps p.tables e below (T2.setTop (mkF m 24 #[.val (.ref a0)] [(.double FP.dconst1)])) _
      jvm_step X2.here [X2.here.top, hx, (hb hby d2_24), X2.method', Bd.returns, narrow]
      first | (intro acts; rw [hr _ acts rfl rfl rfl]) | rw [hr _ _ rfl rfl rfl]
      exact Steps.refl _
    · show Q2 Z _ _ _ h0 n0 _ T2.heap _
      rw [e2]
      exact ⟨⟨_, rfl, by simp [hc4]⟩, N0, rfl⟩
  · skip
    have pre6 : ∀ t, Steps p.tables e below (T2.setTop (mkF m 24 #[.val (.ref a0)] [(.double (13830554455654793216 : UInt64))])) t → Steps p.tables e below (s₁.setTop (entryFrame m #[(.ref a0)] 1)) t := fun t kt => pre3 t (by
        show Steps p.tables e below (T2.setTop (mkF m 14 #[.val (.ref a0)] [(.int (1 : Int32)), (.int (((w_middleAxis_0 - w_firstAxis_1) + (3 : Int32)) % (3 : Int32)))])) _
        refine XS.icmpYes X2.here hx rfl (pc0 := 14) (pc' := 21) rfl (hb hby d2_14) rfl (feq hc4).2 (by decide) (by decide) ?_
        show Steps p.tables e below (T2.setTop (mkF m 21 #[.val (.ref a0)] [])) _
        refine X2.ldc2DoubleC hx hown (mvT hZ (hw _ (List.mem_of_getElem? (i := 22) rfl))) (g := (mkF m 21 #[.val (.ref a0)] [])) rfl (hb hby d2_21) _ ?_
        exact kt)
    obtain ⟨fs, hr, hrun, hended, hW, hsame⟩ := X2.leave (v := some (.double (13830554455654793216 : UInt64))) (fun h => by rw [Bd.returns] at h; cases h)
    refine ⟨_, _, pre6 _ ?_, hrun, hended, _, _, rfl, ?_, ⟨_, rfl⟩, hW, hsame.mono (by decide) (by decide)⟩
    · show Steps p.tables e below (T2.setTop (mkF m 24 #[.val (.ref a0)] [(.double (13830554455654793216 : UInt64))])) _
      jvm_step X2.here [X2.here.top, hx, (hb hby d2_24), X2.method', Bd.returns, narrow]
      first | (intro acts; rw [hr _ acts rfl rfl rfl]) | rw [hr _ _ rfl rfl rfl]
      exact Steps.refl _
    · show Q2 Z _ _ _ h0 n0 _ T2.heap _
      rw [e2]
      exact ⟨⟨_, rfl, by simp [hc4]⟩, N0, rfl⟩
theorem pd_0 : parseMethodDescriptor "(I)Lcom/example/rotarium/rotarium/EulerSequence;" = some ⟨[.int], some (.object "com/example/rotarium/rotarium/EulerSequence")⟩ := by decide +kernel
theorem pd_1 : parseMethodDescriptor "()D" = some ⟨[], some .double⟩ := by decide +kernel
theorem ef_0 (m : MethodId) (x0 : Int32)  : entryFrame m #[(.int x0)] maxLocals = mkF m 0 #[.val (.int x0), .unset, .unset, .unset, .unset] [] := by first | (simp [entryFrame, mkF, argsToLocals, Value.category, maxLocals]; done) | rfl
def Q0 (Z : State) (p0 : Int32) (w_XYZ_1 : Addr) (w_YZX_3 : Addr) (w_YXZ_5 : Addr) (w_XZX_7 : Addr) (w_ZYZ_9 : Addr) (w_ZXY_11 : Addr) (w_YXY_13 : Addr) (w_XZY_15 : Addr) (w_ZXZ_17 : Addr) (w_YZY_19 : Addr) (w_XYX_21 : Addr) (w_ZYX_23 : Addr) (h0 : Heap) (n0 : Nat) (v : Option Value) (h : Heap) (L : List Loc) : Prop := v = some (.int (1 : Int32)) ∧ Fr n0 L ∧ h = h0
set_option maxRecDepth 65536 in
set_option maxHeartbeats 40000000 in
theorem rm0 (l : Launch) (Z : State) (aw : Array Value) (hw : ∀ d ∈ tables_1, d.before aw Z = true) (ws : List Jvm.Cond) (p0 : Int32) (w_XYZ_1 : Addr) (w_YZX_3 : Addr) (w_YXZ_5 : Addr) (w_XZX_7 : Addr) (w_ZYZ_9 : Addr) (w_ZXY_11 : Addr) (w_YXY_13 : Addr) (w_XZY_15 : Addr) (w_ZXZ_17 : Addr) (w_YZY_19 : Addr) (w_XYX_21 : Addr) (w_ZYX_23 : Addr) (h0 : Heap) (n0 : Nat) (Z0 : n0 ≤ h0.size) (S_XYZ_0 : Sta Z h0 "com/example/rotarium/rotarium/EulerSequence" "XYZ" "Lcom/example/rotarium/rotarium/EulerSequence;" (.ref w_XYZ_1)) (E_1 : Exa Z h0 w_XYZ_1 "com/example/rotarium/rotarium/EulerSequence") (F_middleAxis_2 : Fld Z h0 w_XYZ_1 "com/example/rotarium/rotarium/EulerSequence" "middleAxis" "I" (.int (1 : Int32))) (F_firstAxis_3 : Fld Z h0 w_XYZ_1 "com/example/rotarium/rotarium/EulerSequence" "firstAxis" "I" (.int (0 : Int32))) (S_YZX_4 : Sta Z h0 "com/example/rotarium/rotarium/EulerSequence" "YZX" "Lcom/example/rotarium/rotarium/EulerSequence;" (.ref w_YZX_3)) (E_5 : Exa Z h0 w_YZX_3 "com/example/rotarium/rotarium/EulerSequence") (F_middleAxis_6 : Fld Z h0 w_YZX_3 "com/example/rotarium/rotarium/EulerSequence" "middleAxis" "I" (.int (2 : Int32))) (F_firstAxis_7 : Fld Z h0 w_YZX_3 "com/example/rotarium/rotarium/EulerSequence" "firstAxis" "I" (.int (1 : Int32))) (S_YXZ_8 : Sta Z h0 "com/example/rotarium/rotarium/EulerSequence" "YXZ" "Lcom/example/rotarium/rotarium/EulerSequence;" (.ref w_YXZ_5)) (E_9 : Exa Z h0 w_YXZ_5 "com/example/rotarium/rotarium/EulerSequence") (F_middleAxis_10 : Fld Z h0 w_YXZ_5 "com/example/rotarium/rotarium/EulerSequence" "middleAxis" "I" (.int (0 : Int32))) (F_firstAxis_11 : Fld Z h0 w_YXZ_5 "com/example/rotarium/rotarium/EulerSequence" "firstAxis" "I" (.int (1 : Int32))) (S_XZX_12 : Sta Z h0 "com/example/rotarium/rotarium/EulerSequence" "XZX" "Lcom/example/rotarium/rotarium/EulerSequence;" (.ref w_XZX_7)) (E_13 : Exa Z h0 w_XZX_7 "com/example/rotarium/rotarium/EulerSequence") (F_middleAxis_14 : Fld Z h0 w_XZX_7 "com/example/rotarium/rotarium/EulerSequence" "middleAxis" "I" (.int (2 : Int32))) (F_firstAxis_15 : Fld Z h0 w_XZX_7 "com/example/rotarium/rotarium/EulerSequence" "firstAxis" "I" (.int (0 : Int32))) (S_ZYZ_16 : Sta Z h0 "com/example/rotarium/rotarium/EulerSequence" "ZYZ" "Lcom/example/rotarium/rotarium/EulerSequence;" (.ref w_ZYZ_9)) (E_17 : Exa Z h0 w_ZYZ_9 "com/example/rotarium/rotarium/EulerSequence") (F_middleAxis_18 : Fld Z h0 w_ZYZ_9 "com/example/rotarium/rotarium/EulerSequence" "middleAxis" "I" (.int (1 : Int32))) (F_firstAxis_19 : Fld Z h0 w_ZYZ_9 "com/example/rotarium/rotarium/EulerSequence" "firstAxis" "I" (.int (2 : Int32))) (S_ZXY_20 : Sta Z h0 "com/example/rotarium/rotarium/EulerSequence" "ZXY" "Lcom/example/rotarium/rotarium/EulerSequence;" (.ref w_ZXY_11)) (E_21 : Exa Z h0 w_ZXY_11 "com/example/rotarium/rotarium/EulerSequence") (F_middleAxis_22 : Fld Z h0 w_ZXY_11 "com/example/rotarium/rotarium/EulerSequence" "middleAxis" "I" (.int (0 : Int32))) (F_firstAxis_23 : Fld Z h0 w_ZXY_11 "com/example/rotarium/rotarium/EulerSequence" "firstAxis" "I" (.int (2 : Int32))) (S_YXY_24 : Sta Z h0 "com/example/rotarium/rotarium/EulerSequence" "YXY" "Lcom/example/rotarium/rotarium/EulerSequence;" (.ref w_YXY_13)) (E_25 : Exa Z h0 w_YXY_13 "com/example/rotarium/rotarium/EulerSequence") (F_middleAxis_26 : Fld Z h0 w_YXY_13 "com/example/rotarium/rotarium/EulerSequence" "middleAxis" "I" (.int (0 : Int32))) (F_firstAxis_27 : Fld Z h0 w_YXY_13 "com/example/rotarium/rotarium/EulerSequence" "firstAxis" "I" (.int (1 : Int32))) (S_XZY_28 : Sta Z h0 "com/example/rotarium/rotarium/EulerSequence" "XZY" "Lcom/example/rotarium/rotarium/EulerSequence;" (.ref w_XZY_15)) (E_29 : Exa Z h0 w_XZY_15 "com/example/rotarium/rotarium/EulerSequence") (F_middleAxis_30 : Fld Z h0 w_XZY_15 "com/example/rotarium/rotarium/EulerSequence" "middleAxis" "I" (.int (2 : Int32))) (F_firstAxis_31 : Fld Z h0 w_XZY_15 "com/example/rotarium/rotarium/EulerSequence" "firstAxis" "I" (.int (0 : Int32))) (S_ZXZ_32 : Sta Z h0 "com/example/rotarium/rotarium/EulerSequence" "ZXZ" "Lcom/example/rotarium/rotarium/EulerSequence;" (.ref w_ZXZ_17)) (E_33 : Exa Z h0 w_ZXZ_17 "com/example/rotarium/rotarium/EulerSequence") (F_middleAxis_34 : Fld Z h0 w_ZXZ_17 "com/example/rotarium/rotarium/EulerSequence" "middleAxis" "I" (.int (0 : Int32))) (F_firstAxis_35 : Fld Z h0 w_ZXZ_17 "com/example/rotarium/rotarium/EulerSequence" "firstAxis" "I" (.int (2 : Int32))) (S_YZY_36 : Sta Z h0 "com/example/rotarium/rotarium/EulerSequence" "YZY" "Lcom/example/rotarium/rotarium/EulerSequence;" (.ref w_YZY_19)) (E_37 : Exa Z h0 w_YZY_19 "com/example/rotarium/rotarium/EulerSequence") (F_middleAxis_38 : Fld Z h0 w_YZY_19 "com/example/rotarium/rotarium/EulerSequence" "middleAxis" "I" (.int (2 : Int32))) (F_firstAxis_39 : Fld Z h0 w_YZY_19 "com/example/rotarium/rotarium/EulerSequence" "firstAxis" "I" (.int (1 : Int32))) (S_XYX_40 : Sta Z h0 "com/example/rotarium/rotarium/EulerSequence" "XYX" "Lcom/example/rotarium/rotarium/EulerSequence;" (.ref w_XYX_21)) (E_41 : Exa Z h0 w_XYX_21 "com/example/rotarium/rotarium/EulerSequence") (F_middleAxis_42 : Fld Z h0 w_XYX_21 "com/example/rotarium/rotarium/EulerSequence" "middleAxis" "I" (.int (1 : Int32))) (F_firstAxis_43 : Fld Z h0 w_XYX_21 "com/example/rotarium/rotarium/EulerSequence" "firstAxis" "I" (.int (0 : Int32))) (S_ZYX_44 : Sta Z h0 "com/example/rotarium/rotarium/EulerSequence" "ZYX" "Lcom/example/rotarium/rotarium/EulerSequence;" (.ref w_ZYX_23)) (E_45 : Exa Z h0 w_ZYX_23 "com/example/rotarium/rotarium/EulerSequence") (F_middleAxis_46 : Fld Z h0 w_ZYX_23 "com/example/rotarium/rotarium/EulerSequence" "middleAxis" "I" (.int (1 : Int32))) (F_firstAxis_47 : Fld Z h0 w_ZYX_23 "com/example/rotarium/rotarium/EulerSequence" "firstAxis" "I" (.int (2 : Int32))) :
    MetFree l x (head1 (Jvm.Cond.code x code maxLocals ret :: ws) room_1) (fun a U => a = #[(.int p0)] ∧ Z.Warmed39 U.vm ∧ U.heap = h0) (fun _ _ _ _ _ => True) (fun _ U o U' => ∃ v L, o = .returned v ∧ Q0 Z p0 w_XYZ_1 w_YZX_3 w_YXZ_5 w_XZX_7 w_ZYZ_9 w_ZXY_11 w_YXY_13 w_XZY_15 w_ZXZ_17 w_YZY_19 w_XYX_21 w_ZYX_23 h0 n0 v U'.heap L ∧ FrameEnd U o U' L room_1.cells room_1.slots) := by
  refine MetFree.of_bodySF (plainFor_of_name pn_0) hisR ?_
  intro p e s m args below meth c s₁ Bd hml0 hP hK
  obtain ⟨rfl, hZ, hh⟩ := hP
  have hx := Bd.exec
  have hby := Bd.bytes
  have hml : c.maxLocals = 5 := hml0
  have hown : s.vm.findClass "com/example/rotarium/rotarium/EulerSequenceParityPinLaw" = some m.cls := findClass_of_methodNamed Bd.named
  have hnm := (name_of_methodNamed Bd.named Bd.method).1
  have X0 : Stand p l e room_1 s m #[(.int p0)] below meth c s₁ [] 0 0 := Stand.of_body Bd
  have e0 : s₁.heap = h0 := by rw [← hh, Bd.state]; rfl
  have N0 := Fr.nil n0
  have pre0 : ∀ t, Steps p.tables e below (s₁.setTop (mkF m 0 #[.val (.int p0), .unset, .unset, .unset, .unset] [])) t → Steps p.tables e below (s₁.setTop (entryFrame m #[(.int p0)] maxLocals)) t := fun t k => castTop (ef_0 m p0 ) k
  obtain ⟨_, _, ⟨T1, L1, k1, n1⟩, -, X1, ⟨Lc1, hQ1, l1, y1, z1⟩, st1⟩ := Jvm.LawKit.callS X0 hx (y := (⟨"com/example/rotarium/rotarium/EulerSequenceParityPinLaw", "pick", "(I)Lcom/example/rotarium/rotarium/EulerSequence;"⟩ : MethodName)) hown (mvT hZ (hw _ (List.mem_of_getElem? (i := 1) rfl))) (mvT hZ (hw _ (List.mem_of_getElem? (i := 2) rfl))) (mvT hZ (hw _ (List.mem_of_getElem? (i := 3) rfl))) (mvT hZ (hw _ (List.mem_of_getElem? (i := 4) rfl))) (by decide) (backOf (W := 0) (rm1 l Z aw hw [] ((p0 &&& (2147483647 : Int32)) % (12 : Int32)) w_XYZ_1 w_XZY_15 w_YXZ_5 w_YZX_3 w_ZXY_11 w_ZYX_23 w_XYX_21 w_XZX_7 w_YXY_13 w_YZY_19 w_ZXZ_17 w_ZYZ_9 h0 n0 Z0 (own_rng _ _ 12 rfl (by decide)) S_XYZ_0 S_XZY_28 S_YXZ_8 S_YZX_4 S_ZXY_20 S_ZYX_44 S_XYX_40 S_XZX_12 S_YXY_24 S_YZY_36 S_ZXZ_32 S_ZYZ_16) hZ (hw _ (List.mem_of_getElem? (i := 4) rfl)) (hw _ (List.mem_of_getElem? (i := 3) rfl)) (by decide) (by decide)) (g := (mkF m 9 #[.val (.int p0), .val (.int ((p0 &&& (2147483647 : Int32)) % (12 : Int32))), .unset, .unset, .unset] [(.int ((p0 &&& (2147483647 : Int32)) % (12 : Int32)))])) rfl (by rw [hml]; rfl) (argsL := [(.int ((p0 &&& (2147483647 : Int32)) % (12 : Int32)))]) (rest := []) (lenOf pd_0 rfl) rfl (by show 2 * 0 + _ ≤ _; exact Nat.le_of_eq rfl) (hb hby at_9) (fun _ _ => ⟨rfl, e0, (by decide : 0 + 0 ≤ _), (by decide : 0 + 0 ≤ _)⟩)
  dsimp only [Pt.U, Pt.locs, Pt.cells, Pt.slots] at X1 l1 y1 z1 st1 hQ1
  subst l1 y1 z1
  obtain ⟨⟨r2, rfl, Pr2⟩, Nq1, e1⟩ := hQ1
  have N1 := Fr.app N0 Nq1
  have pre3 : ∀ t, Steps p.tables e below (T1.setTop (mkF m 12 #[.val (.int p0), .val (.int ((p0 &&& (2147483647 : Int32)) % (12 : Int32))), .unset, .unset, .unset] [(.ref r2)])) t → Steps p.tables e below (s₁.setTop (entryFrame m #[(.int p0)] maxLocals)) t := fun t kt => pre0 t (by
      show Steps p.tables e below (s₁.setTop (mkF m 0 #[.val (.int p0), .unset, .unset, .unset, .unset] [])) _
      refine XS.iloadN X0.here hx rfl (hb hby at_0) rfl ?_
      show Steps p.tables e below (s₁.setTop (mkF m 1 #[.val (.int p0), .unset, .unset, .unset, .unset] [(.int p0)])) _
      refine X0.ldcInt hx hown (mvT hZ (hw _ (List.mem_of_getElem? (i := 0) rfl))) (g := (mkF m 1 #[.val (.int p0), .unset, .unset, .unset, .unset] [(.int p0)])) rfl (hb hby at_1) _ ?_
      show Steps p.tables e below (s₁.setTop (mkF m 3 #[.val (.int p0), .unset, .unset, .unset, .unset] [(.int (2147483647 : Int32)), (.int p0)])) _
      refine XS.iand X0.here hx rfl (hb hby at_3) rfl ?_
      show Steps p.tables e below (s₁.setTop (mkF m 4 #[.val (.int p0), .unset, .unset, .unset, .unset] [(.int (p0 &&& (2147483647 : Int32)))])) _
      refine XS.bipush X0.here hx rfl (hb hby at_4) ?_
      show Steps p.tables e below (s₁.setTop (mkF m 6 #[.val (.int p0), .unset, .unset, .unset, .unset] [(.int (12 : Int32)), (.int (p0 &&& (2147483647 : Int32)))])) _
      refine iremM X0 hx rfl (hb hby at_6) rfl (by decide) ?_
      show Steps p.tables e below (s₁.setTop (mkF m 7 #[.val (.int p0), .unset, .unset, .unset, .unset] [(.int ((p0 &&& (2147483647 : Int32)) % (12 : Int32)))])) _
      refine XS.istoreN X0.here hx rfl (hb hby at_7) rfl (l' := #[.val (.int p0), .val (.int ((p0 &&& (2147483647 : Int32)) % (12 : Int32))), .unset, .unset, .unset]) rfl ?_
      show Steps p.tables e below (s₁.setTop (mkF m 8 #[.val (.int p0), .val (.int ((p0 &&& (2147483647 : Int32)) % (12 : Int32))), .unset, .unset, .unset] [])) _
      refine XS.iloadN X0.here hx rfl (hb hby at_8) rfl ?_
      show Steps p.tables e below (s₁.setTop (mkF m 9 #[.val (.int p0), .val (.int ((p0 &&& (2147483647 : Int32)) % (12 : Int32))), .unset, .unset, .unset] [(.int ((p0 &&& (2147483647 : Int32)) % (12 : Int32)))])) _
      refine st1 _ ?_
      exact kt)
  obtain ⟨i, hi⟩ : ∃ z, z = ((p0 &&& (2147483647 : Int32)) % (12 : Int32)) := ⟨_, rfl⟩
  rw [← hi] at pre3 Pr2
  rcases Pr2 with ⟨rfl, rfl⟩ | ⟨rfl, rfl⟩ | ⟨rfl, rfl⟩ | ⟨rfl, rfl⟩ | ⟨rfl, rfl⟩ | ⟨rfl, rfl⟩ | ⟨rfl, rfl⟩ | ⟨rfl, rfl⟩ | ⟨rfl, rfl⟩ | ⟨rfl, rfl⟩ | ⟨rfl, rfl⟩ | ⟨rfl, rfl⟩
  · skip
    obtain ⟨cq4, kq4, q4a, q4b, q4c⟩ := isOf hZ e1 E_1
    obtain ⟨_, _, ⟨T4, L4, k4, n4⟩, -, X4, ⟨Lc4, hQ4, l4, y4, z4⟩, st4⟩ := X1.virtualBack hx (y := (⟨"com/example/rotarium/rotarium/EulerSequence", "parity", "()D"⟩ : MethodName)) (z := (⟨"com/example/rotarium/rotarium/EulerSequence", "parity", "()D"⟩ : MethodName)) hown (mvT hZ (hw _ (List.mem_of_getElem? (i := 8) rfl))) (mvT hZ (hw _ (List.mem_of_getElem? (i := 9) rfl))) (notFace_of_selects (args := #[]) (mvT hZ (hw _ (List.mem_of_getElem? (i := 11) rfl)))) (mvT hZ (hw _ (List.mem_of_getElem? (i := 11) rfl))) (mvT hZ (hw _ (List.mem_of_getElem? (i := 10) rfl))) (by decide) (backOf (W := 0) (rm2 l Z aw hw [] w_XYZ_1 (1 : Int32) (0 : Int32) h0 n0 Z0 F_middleAxis_2 F_firstAxis_3) hZ (hw _ (List.mem_of_getElem? (i := 12) rfl)) (hw _ (List.mem_of_getElem? (i := 6) rfl)) (by decide) (by decide)) q4a q4c (g := (mkF m 54 #[.val (.int p0), .val (.int (0 : Int32)), .val (.ref w_XYZ_1), .val (.double FP.dconst1), .second] [(.ref w_XYZ_1)])) rfl (by rw [hml]; rfl) (Steps.refl _) (argsL := []) (rest := []) (lenOf pd_1 rfl) rfl (by show 2 * 0 + _ ≤ _; exact Nat.le_of_eq rfl) (hb hby at_54) (fun _ _ => ⟨rfl, e1, (by decide : 0 + 0 ≤ _), (by decide : 0 + 0 ≤ _)⟩)
    dsimp only [Pt.U, Pt.locs, Pt.cells, Pt.slots] at X4 l4 y4 z4 st4 hQ4
    subst l4 y4 z4
    obtain ⟨⟨r5, rfl, Pr5⟩, Nq4, e4⟩ := hQ4
    have N4 := Fr.app N1 Nq4
    have pre6 : ∀ t, Steps p.tables e below (T4.setTop (mkF m 57 #[.val (.int p0), .val (.int (0 : Int32)), .val (.ref w_XYZ_1), .val (.double FP.dconst1), .second] [(.double r5)])) t → Steps p.tables e below (s₁.setTop (entryFrame m #[(.int p0)] maxLocals)) t := fun t kt => pre3 t (by
        show Steps p.tables e below (T1.setTop (mkF m 12 #[.val (.int p0), .val (.int (0 : Int32)), .unset, .unset, .unset] [(.ref w_XYZ_1)])) _
        refine XS.astoreN X1.here hx rfl (hb hby at_12) rfl rfl (l' := #[.val (.int p0), .val (.int (0 : Int32)), .val (.ref w_XYZ_1), .unset, .unset]) rfl ?_
        show Steps p.tables e below (T1.setTop (mkF m 13 #[.val (.int p0), .val (.int (0 : Int32)), .val (.ref w_XYZ_1), .unset, .unset] [])) _
        refine XS.iloadN X1.here hx rfl (hb hby at_13) rfl ?_
        show Steps p.tables e below (T1.setTop (mkF m 14 #[.val (.int p0), .val (.int (0 : Int32)), .val (.ref w_XYZ_1), .unset, .unset] [(.int (0 : Int32))])) _
        refine XS.ifYes X1.here hx rfl (pc0 := 14) (pc' := 45) rfl (hb hby at_14) rfl ((if0 _ _).trans (teq (rfl : (0 : Int32) = (0 : Int32))).1) (by decide) (by decide) ?_
        show Steps p.tables e below (T1.setTop (mkF m 45 #[.val (.int p0), .val (.int (0 : Int32)), .val (.ref w_XYZ_1), .unset, .unset] [])) _
        refine XS.dconst1 X1.here hx rfl (hb hby at_45) rfl ?_
        show Steps p.tables e below (T1.setTop (mkF m 46 #[.val (.int p0), .val (.int (0 : Int32)), .val (.ref w_XYZ_1), .unset, .unset] [(.double FP.dconst1)])) _
        refine XS.goto X1.here hx rfl (pc0 := 46) (pc' := 52) rfl (hb hby at_46) (by decide) (by decide) ?_
        show Steps p.tables e below (T1.setTop (mkF m 52 #[.val (.int p0), .val (.int (0 : Int32)), .val (.ref w_XYZ_1), .unset, .unset] [(.double FP.dconst1)])) _
        refine XS.dstoreN X1.here hx rfl (hb hby at_52) rfl (l' := #[.val (.int p0), .val (.int (0 : Int32)), .val (.ref w_XYZ_1), .val (.double FP.dconst1), .second]) rfl ?_
        show Steps p.tables e below (T1.setTop (mkF m 53 #[.val (.int p0), .val (.int (0 : Int32)), .val (.ref w_XYZ_1), .val (.double FP.dconst1), .second] [])) _
        refine XS.aloadN X1.here hx rfl (hb hby at_53) rfl rfl ?_
        show Steps p.tables e below (T1.setTop (mkF m 54 #[.val (.int p0), .val (.int (0 : Int32)), .val (.ref w_XYZ_1), .val (.double FP.dconst1), .second] [(.ref w_XYZ_1)])) _
        refine st4.trans ?_
        exact kt)
    obtain rfl : FP.dconst1 = r5 := Pr5.1 (by decide)
    have pre7 : ∀ t, Steps p.tables e below (T4.setTop (mkF m 67 #[.val (.int p0), .val (.int (0 : Int32)), .val (.ref w_XYZ_1), .val (.double FP.dconst1), .second] [(.int (1 : Int32))])) t → Steps p.tables e below (s₁.setTop (entryFrame m #[(.int p0)] maxLocals)) t := fun t kt => pre6 t (by
        show Steps p.tables e below (T4.setTop (mkF m 57 #[.val (.int p0), .val (.int (0 : Int32)), .val (.ref w_XYZ_1), .val (.double FP.dconst1), .second] [(.double FP.dconst1)])) _
        refine XS.dloadN X4.here hx rfl (hb hby at_57) rfl ?_
        show Steps p.tables e below (T4.setTop (mkF m 58 #[.val (.int p0), .val (.int (0 : Int32)), .val (.ref w_XYZ_1), .val (.double FP.dconst1), .second] [(.double FP.dconst1), (.double FP.dconst1)])) _
        refine XS.dcmpS X4.here hx rfl (hb hby at_58) rfl (v := (0 : Int32)) (by decide +kernel) ?_
        show Steps p.tables e below (T4.setTop (mkF m 59 #[.val (.int p0), .val (.int (0 : Int32)), .val (.ref w_XYZ_1), .val (.double FP.dconst1), .second] [(.int (0 : Int32))])) _
        refine XS.ifNo X4.here hx rfl (hb hby at_59) rfl ((if0 _ _).trans (teq (rfl : (0 : Int32) = (0 : Int32))).2) ?_
        show Steps p.tables e below (T4.setTop (mkF m 62 #[.val (.int p0), .val (.int (0 : Int32)), .val (.ref w_XYZ_1), .val (.double FP.dconst1), .second] [])) _
        refine XS.iconst X4.here hx rfl (hb hby at_62) ?_
        show Steps p.tables e below (T4.setTop (mkF m 63 #[.val (.int p0), .val (.int (0 : Int32)), .val (.ref w_XYZ_1), .val (.double FP.dconst1), .second] [(.int (1 : Int32))])) _
        refine XS.goto X4.here hx rfl (pc0 := 63) (pc' := 67) rfl (hb hby at_63) (by decide) (by decide) ?_
        exact kt)
    obtain ⟨fs, hr, hrun, hended, hW, hsame⟩ := X4.leave (v := some (.int (1 : Int32))) (fun h => by rw [Bd.returns] at h; cases h)
    refine ⟨_, _, pre7 _ ?_, hrun, hended, _, _, rfl, ?_, ⟨_, rfl⟩, hW, hsame.mono (by decide) (by decide)⟩
    · show Steps p.tables e below (T4.setTop (mkF m 67 #[.val (.int p0), .val (.int (0 : Int32)), .val (.ref w_XYZ_1), .val (.double FP.dconst1), .second] [(.int (1 : Int32))])) _
      exact retN X4 hx (t := .boolean) Bd.returns (by simp) (hb hby at_67) hr
    · show Q0 Z _ _ _ _ _ _ _ _ _ _ _ _ _ h0 n0 _ T4.heap _
      rw [e4]
      exact ⟨rfl, N4, rfl⟩
  · skip
    obtain ⟨cq8, kq8, q8a, q8b, q8c⟩ := isOf hZ e1 E_29
    obtain ⟨_, _, ⟨T8, L8, k8, n8⟩, -, X8, ⟨Lc8, hQ8, l8, y8, z8⟩, st8⟩ := X1.virtualBack hx (y := (⟨"com/example/rotarium/rotarium/EulerSequence", "parity", "()D"⟩ : MethodName)) (z := (⟨"com/example/rotarium/rotarium/EulerSequence", "parity", "()D"⟩ : MethodName)) hown (mvT hZ (hw _ (List.mem_of_getElem? (i := 8) rfl))) (mvT hZ (hw _ (List.mem_of_getElem? (i := 9) rfl))) (notFace_of_selects (args := #[]) (mvT hZ (hw _ (List.mem_of_getElem? (i := 11) rfl)))) (mvT hZ (hw _ (List.mem_of_getElem? (i := 11) rfl))) (mvT hZ (hw _ (List.mem_of_getElem? (i := 10) rfl))) (by decide) (backOf (W := 0) (rm2 l Z aw hw [] w_XZY_15 (2 : Int32) (0 : Int32) h0 n0 Z0 F_middleAxis_30 F_firstAxis_31) hZ (hw _ (List.mem_of_getElem? (i := 12) rfl)) (hw _ (List.mem_of_getElem? (i := 6) rfl)) (by decide) (by decide)) q8a q8c (g := (mkF m 54 #[.val (.int p0), .val (.int (1 : Int32)), .val (.ref w_XZY_15), .val (.double (13830554455654793216 : UInt64)), .second] [(.ref w_XZY_15)])) rfl (by rw [hml]; rfl) (Steps.refl _) (argsL := []) (rest := []) (lenOf pd_1 rfl) rfl (by show 2 * 0 + _ ≤ _; exact Nat.le_of_eq rfl) (hb hby at_54) (fun _ _ => ⟨rfl, e1, (by decide : 0 + 0 ≤ _), (by decide : 0 + 0 ≤ _)⟩)
    dsimp only [Pt.U, Pt.locs, Pt.cells, Pt.slots] at X8 l8 y8 z8 st8 hQ8
    subst l8 y8 z8
    obtain ⟨⟨r9, rfl, Pr9⟩, Nq8, e8⟩ := hQ8
    have N8 := Fr.app N1 Nq8
    have pre10 : ∀ t, Steps p.tables e below (T8.setTop (mkF m 57 #[.val (.int p0), .val (.int (1 : Int32)), .val (.ref w_XZY_15), .val (.double (13830554455654793216 : UInt64)), .second] [(.double r9)])) t → Steps p.tables e below (s₁.setTop (entryFrame m #[(.int p0)] maxLocals)) t := fun t kt => pre3 t (by
        show Steps p.tables e below (T1.setTop (mkF m 12 #[.val (.int p0), .val (.int (1 : Int32)), .unset, .unset, .unset] [(.ref w_XZY_15)])) _
        refine XS.astoreN X1.here hx rfl (hb hby at_12) rfl rfl (l' := #[.val (.int p0), .val (.int (1 : Int32)), .val (.ref w_XZY_15), .unset, .unset]) rfl ?_
        show Steps p.tables e below (T1.setTop (mkF m 13 #[.val (.int p0), .val (.int (1 : Int32)), .val (.ref w_XZY_15), .unset, .unset] [])) _
        refine XS.iloadN X1.here hx rfl (hb hby at_13) rfl ?_
        show Steps p.tables e below (T1.setTop (mkF m 14 #[.val (.int p0), .val (.int (1 : Int32)), .val (.ref w_XZY_15), .unset, .unset] [(.int (1 : Int32))])) _
        refine XS.ifNo X1.here hx rfl (hb hby at_14) rfl ((if0 _ _).trans (feq (by decide : ¬ ((1 : Int32) = (0 : Int32)))).1) ?_
        show Steps p.tables e below (T1.setTop (mkF m 17 #[.val (.int p0), .val (.int (1 : Int32)), .val (.ref w_XZY_15), .unset, .unset] [])) _
        refine XS.iloadN X1.here hx rfl (hb hby at_17) rfl ?_
        show Steps p.tables e below (T1.setTop (mkF m 18 #[.val (.int p0), .val (.int (1 : Int32)), .val (.ref w_XZY_15), .unset, .unset] [(.int (1 : Int32))])) _
        refine XS.iconst X1.here hx rfl (hb hby at_18) ?_
        show Steps p.tables e below (T1.setTop (mkF m 19 #[.val (.int p0), .val (.int (1 : Int32)), .val (.ref w_XZY_15), .unset, .unset] [(.int (3 : Int32)), (.int (1 : Int32))])) _
        refine XS.icmpNo X1.here hx rfl (hb hby at_19) rfl (feq (by decide : ¬ ((1 : Int32) = (3 : Int32)))).1 ?_
        show Steps p.tables e below (T1.setTop (mkF m 22 #[.val (.int p0), .val (.int (1 : Int32)), .val (.ref w_XZY_15), .unset, .unset] [])) _
        refine XS.iloadN X1.here hx rfl (hb hby at_22) rfl ?_
        show Steps p.tables e below (T1.setTop (mkF m 23 #[.val (.int p0), .val (.int (1 : Int32)), .val (.ref w_XZY_15), .unset, .unset] [(.int (1 : Int32))])) _
        refine XS.iconst X1.here hx rfl (hb hby at_23) ?_
        show Steps p.tables e below (T1.setTop (mkF m 24 #[.val (.int p0), .val (.int (1 : Int32)), .val (.ref w_XZY_15), .unset, .unset] [(.int (4 : Int32)), (.int (1 : Int32))])) _
        refine XS.icmpNo X1.here hx rfl (hb hby at_24) rfl (feq (by decide : ¬ ((1 : Int32) = (4 : Int32)))).1 ?_
        show Steps p.tables e below (T1.setTop (mkF m 27 #[.val (.int p0), .val (.int (1 : Int32)), .val (.ref w_XZY_15), .unset, .unset] [])) _
        refine XS.iloadN X1.here hx rfl (hb hby at_27) rfl ?_
        show Steps p.tables e below (T1.setTop (mkF m 28 #[.val (.int p0), .val (.int (1 : Int32)), .val (.ref w_XZY_15), .unset, .unset] [(.int (1 : Int32))])) _
        refine XS.bipush X1.here hx rfl (hb hby at_28) ?_
        show Steps p.tables e below (T1.setTop (mkF m 30 #[.val (.int p0), .val (.int (1 : Int32)), .val (.ref w_XZY_15), .unset, .unset] [(.int (6 : Int32)), (.int (1 : Int32))])) _
        refine XS.icmpNo X1.here hx rfl (hb hby at_30) rfl (feq (by decide : ¬ ((1 : Int32) = (6 : Int32)))).1 ?_
        show Steps p.tables e below (T1.setTop (mkF m 33 #[.val (.int p0), .val (.int (1 : Int32)), .val (.ref w_XZY_15), .unset, .unset] [])) _
        refine XS.iloadN X1.here hx rfl (hb hby at_33) rfl ?_
        show Steps p.tables e below (T1.setTop (mkF m 34 #[.val (.int p0), .val (.int (1 : Int32)), .val (.ref w_XZY_15), .unset, .unset] [(.int (1 : Int32))])) _
        refine XS.bipush X1.here hx rfl (hb hby at_34) ?_
        show Steps p.tables e below (T1.setTop (mkF m 36 #[.val (.int p0), .val (.int (1 : Int32)), .val (.ref w_XZY_15), .unset, .unset] [(.int (9 : Int32)), (.int (1 : Int32))])) _
        refine XS.icmpNo X1.here hx rfl (hb hby at_36) rfl (feq (by decide : ¬ ((1 : Int32) = (9 : Int32)))).1 ?_
        show Steps p.tables e below (T1.setTop (mkF m 39 #[.val (.int p0), .val (.int (1 : Int32)), .val (.ref w_XZY_15), .unset, .unset] [])) _
        refine XS.iloadN X1.here hx rfl (hb hby at_39) rfl ?_
        show Steps p.tables e below (T1.setTop (mkF m 40 #[.val (.int p0), .val (.int (1 : Int32)), .val (.ref w_XZY_15), .unset, .unset] [(.int (1 : Int32))])) _
        refine XS.bipush X1.here hx rfl (hb hby at_40) ?_
        show Steps p.tables e below (T1.setTop (mkF m 42 #[.val (.int p0), .val (.int (1 : Int32)), .val (.ref w_XZY_15), .unset, .unset] [(.int (10 : Int32)), (.int (1 : Int32))])) _
        refine XS.icmpYes X1.here hx rfl (pc0 := 42) (pc' := 49) rfl (hb hby at_42) rfl (feq (by decide : ¬ ((1 : Int32) = (10 : Int32)))).2 (by decide) (by decide) ?_
        show Steps p.tables e below (T1.setTop (mkF m 49 #[.val (.int p0), .val (.int (1 : Int32)), .val (.ref w_XZY_15), .unset, .unset] [])) _
        refine X1.ldc2DoubleC hx hown (mvT hZ (hw _ (List.mem_of_getElem? (i := 21) rfl))) (g := (mkF m 49 #[.val (.int p0), .val (.int (1 : Int32)), .val (.ref w_XZY_15), .unset, .unset] [])) rfl (hb hby at_49) _ ?_
        show Steps p.tables e below (T1.setTop (mkF m 52 #[.val (.int p0), .val (.int (1 : Int32)), .val (.ref w_XZY_15), .unset, .unset] [(.double (13830554455654793216 : UInt64))])) _
        refine XS.dstoreN X1.here hx rfl (hb hby at_52) rfl (l' := #[.val (.int p0), .val (.int (1 : Int32)), .val (.ref w_XZY_15), .val (.double (13830554455654793216 : UInt64)), .second]) rfl ?_
        show Steps p.tables e below (T1.setTop (mkF m 53 #[.val (.int p0), .val (.int (1 : Int32)), .val (.ref w_XZY_15), .val (.double (13830554455654793216 : UInt64)), .second] [])) _
        refine XS.aloadN X1.here hx rfl (hb hby at_53) rfl rfl ?_
        show Steps p.tables e below (T1.setTop (mkF m 54 #[.val (.int p0), .val (.int (1 : Int32)), .val (.ref w_XZY_15), .val (.double (13830554455654793216 : UInt64)), .second] [(.ref w_XZY_15)])) _
        refine st8.trans ?_
        exact kt)
    obtain rfl : (13830554455654793216 : UInt64) = r9 := Pr9.2 (by decide)
    have pre11 : ∀ t, Steps p.tables e below (T8.setTop (mkF m 67 #[.val (.int p0), .val (.int (1 : Int32)), .val (.ref w_XZY_15), .val (.double (13830554455654793216 : UInt64)), .second] [(.int (1 : Int32))])) t → Steps p.tables e below (s₁.setTop (entryFrame m #[(.int p0)] maxLocals)) t := fun t kt => pre10 t (by
        show Steps p.tables e below (T8.setTop (mkF m 57 #[.val (.int p0), .val (.int (1 : Int32)), .val (.ref w_XZY_15), .val (.double (13830554455654793216 : UInt64)), .second] [(.double (13830554455654793216 : UInt64))])) _
        refine XS.dloadN X8.here hx rfl (hb hby at_57) rfl ?_
        show Steps p.tables e below (T8.setTop (mkF m 58 #[.val (.int p0), .val (.int (1 : Int32)), .val (.ref w_XZY_15), .val (.double (13830554455654793216 : UInt64)), .second] [(.double (13830554455654793216 : UInt64)), (.double (13830554455654793216 : UInt64))])) _
        refine XS.dcmpS X8.here hx rfl (hb hby at_58) rfl (v := (0 : Int32)) (by decide +kernel) ?_
        show Steps p.tables e below (T8.setTop (mkF m 59 #[.val (.int p0), .val (.int (1 : Int32)), .val (.ref w_XZY_15), .val (.double (13830554455654793216 : UInt64)), .second] [(.int (0 : Int32))])) _
        refine XS.ifNo X8.here hx rfl (hb hby at_59) rfl ((if0 _ _).trans (teq (rfl : (0 : Int32) = (0 : Int32))).2) ?_
        show Steps p.tables e below (T8.setTop (mkF m 62 #[.val (.int p0), .val (.int (1 : Int32)), .val (.ref w_XZY_15), .val (.double (13830554455654793216 : UInt64)), .second] [])) _
        refine XS.iconst X8.here hx rfl (hb hby at_62) ?_
        show Steps p.tables e below (T8.setTop (mkF m 63 #[.val (.int p0), .val (.int (1 : Int32)), .val (.ref w_XZY_15), .val (.double (13830554455654793216 : UInt64)), .second] [(.int (1 : Int32))])) _
        refine XS.goto X8.here hx rfl (pc0 := 63) (pc' := 67) rfl (hb hby at_63) (by decide) (by decide) ?_
        exact kt)
    obtain ⟨fs, hr, hrun, hended, hW, hsame⟩ := X8.leave (v := some (.int (1 : Int32))) (fun h => by rw [Bd.returns] at h; cases h)
    refine ⟨_, _, pre11 _ ?_, hrun, hended, _, _, rfl, ?_, ⟨_, rfl⟩, hW, hsame.mono (by decide) (by decide)⟩
    · show Steps p.tables e below (T8.setTop (mkF m 67 #[.val (.int p0), .val (.int (1 : Int32)), .val (.ref w_XZY_15), .val (.double (13830554455654793216 : UInt64)), .second] [(.int (1 : Int32))])) _
      exact retN X8 hx (t := .boolean) Bd.returns (by simp) (hb hby at_67) hr
    · show Q0 Z _ _ _ _ _ _ _ _ _ _ _ _ _ h0 n0 _ T8.heap _
      rw [e8]
      exact ⟨rfl, N8, rfl⟩
  · skip
    obtain ⟨cq12, kq12, q12a, q12b, q12c⟩ := isOf hZ e1 E_9
    obtain ⟨_, _, ⟨T12, L12, k12, n12⟩, -, X12, ⟨Lc12, hQ12, l12, y12, z12⟩, st12⟩ := X1.virtualBack hx (y := (⟨"com/example/rotarium/rotarium/EulerSequence", "parity", "()D"⟩ : MethodName)) (z := (⟨"com/example/rotarium/rotarium/EulerSequence", "parity", "()D"⟩ : MethodName)) hown (mvT hZ (hw _ (List.mem_of_getElem? (i := 8) rfl))) (mvT hZ (hw _ (List.mem_of_getElem? (i := 9) rfl))) (notFace_of_selects (args := #[]) (mvT hZ (hw _ (List.mem_of_getElem? (i := 11) rfl)))) (mvT hZ (hw _ (List.mem_of_getElem? (i := 11) rfl))) (mvT hZ (hw _ (List.mem_of_getElem? (i := 10) rfl))) (by decide) (backOf (W := 0) (rm2 l Z aw hw [] w_YXZ_5 (0 : Int32) (1 : Int32) h0 n0 Z0 F_middleAxis_10 F_firstAxis_11) hZ (hw _ (List.mem_of_getElem? (i := 12) rfl)) (hw _ (List.mem_of_getElem? (i := 6) rfl)) (by decide) (by decide)) q12a q12c (g := (mkF m 54 #[.val (.int p0), .val (.int (2 : Int32)), .val (.ref w_YXZ_5), .val (.double (13830554455654793216 : UInt64)), .second] [(.ref w_YXZ_5)])) rfl (by rw [hml]; rfl) (Steps.refl _) (argsL := []) (rest := []) (lenOf pd_1 rfl) rfl (by show 2 * 0 + _ ≤ _; exact Nat.le_of_eq rfl) (hb hby at_54) (fun _ _ => ⟨rfl, e1, (by decide : 0 + 0 ≤ _), (by decide : 0 + 0 ≤ _)⟩)
    dsimp only [Pt.U, Pt.locs, Pt.cells, Pt.slots] at X12 l12 y12 z12 st12 hQ12
    subst l12 y12 z12
    obtain ⟨⟨r13, rfl, Pr13⟩, Nq12, e12⟩ := hQ12
    have N12 := Fr.app N1 Nq12
    have pre14 : ∀ t, Steps p.tables e below (T12.setTop (mkF m 57 #[.val (.int p0), .val (.int (2 : Int32)), .val (.ref w_YXZ_5), .val (.double (13830554455654793216 : UInt64)), .second] [(.double r13)])) t → Steps p.tables e below (s₁.setTop (entryFrame m #[(.int p0)] maxLocals)) t := fun t kt => pre3 t (by
        show Steps p.tables e below (T1.setTop (mkF m 12 #[.val (.int p0), .val (.int (2 : Int32)), .unset, .unset, .unset] [(.ref w_YXZ_5)])) _
        refine XS.astoreN X1.here hx rfl (hb hby at_12) rfl rfl (l' := #[.val (.int p0), .val (.int (2 : Int32)), .val (.ref w_YXZ_5), .unset, .unset]) rfl ?_
        show Steps p.tables e below (T1.setTop (mkF m 13 #[.val (.int p0), .val (.int (2 : Int32)), .val (.ref w_YXZ_5), .unset, .unset] [])) _
        refine XS.iloadN X1.here hx rfl (hb hby at_13) rfl ?_
        show Steps p.tables e below (T1.setTop (mkF m 14 #[.val (.int p0), .val (.int (2 : Int32)), .val (.ref w_YXZ_5), .unset, .unset] [(.int (2 : Int32))])) _
        refine XS.ifNo X1.here hx rfl (hb hby at_14) rfl ((if0 _ _).trans (feq (by decide : ¬ ((2 : Int32) = (0 : Int32)))).1) ?_
        show Steps p.tables e below (T1.setTop (mkF m 17 #[.val (.int p0), .val (.int (2 : Int32)), .val (.ref w_YXZ_5), .unset, .unset] [])) _
        refine XS.iloadN X1.here hx rfl (hb hby at_17) rfl ?_
        show Steps p.tables e below (T1.setTop (mkF m 18 #[.val (.int p0), .val (.int (2 : Int32)), .val (.ref w_YXZ_5), .unset, .unset] [(.int (2 : Int32))])) _
        refine XS.iconst X1.here hx rfl (hb hby at_18) ?_
        show Steps p.tables e below (T1.setTop (mkF m 19 #[.val (.int p0), .val (.int (2 : Int32)), .val (.ref w_YXZ_5), .unset, .unset] [(.int (3 : Int32)), (.int (2 : Int32))])) _
        refine XS.icmpNo X1.here hx rfl (hb hby at_19) rfl (feq (by decide : ¬ ((2 : Int32) = (3 : Int32)))).1 ?_
        show Steps p.tables e below (T1.setTop (mkF m 22 #[.val (.int p0), .val (.int (2 : Int32)), .val (.ref w_YXZ_5), .unset, .unset] [])) _
        refine XS.iloadN X1.here hx rfl (hb hby at_22) rfl ?_
        show Steps p.tables e below (T1.setTop (mkF m 23 #[.val (.int p0), .val (.int (2 : Int32)), .val (.ref w_YXZ_5), .unset, .unset] [(.int (2 : Int32))])) _
        refine XS.iconst X1.here hx rfl (hb hby at_23) ?_
        show Steps p.tables e below (T1.setTop (mkF m 24 #[.val (.int p0), .val (.int (2 : Int32)), .val (.ref w_YXZ_5), .unset, .unset] [(.int (4 : Int32)), (.int (2 : Int32))])) _
        refine XS.icmpNo X1.here hx rfl (hb hby at_24) rfl (feq (by decide : ¬ ((2 : Int32) = (4 : Int32)))).1 ?_
        show Steps p.tables e below (T1.setTop (mkF m 27 #[.val (.int p0), .val (.int (2 : Int32)), .val (.ref w_YXZ_5), .unset, .unset] [])) _
        refine XS.iloadN X1.here hx rfl (hb hby at_27) rfl ?_
        show Steps p.tables e below (T1.setTop (mkF m 28 #[.val (.int p0), .val (.int (2 : Int32)), .val (.ref w_YXZ_5), .unset, .unset] [(.int (2 : Int32))])) _
        refine XS.bipush X1.here hx rfl (hb hby at_28) ?_
        show Steps p.tables e below (T1.setTop (mkF m 30 #[.val (.int p0), .val (.int (2 : Int32)), .val (.ref w_YXZ_5), .unset, .unset] [(.int (6 : Int32)), (.int (2 : Int32))])) _
        refine XS.icmpNo X1.here hx rfl (hb hby at_30) rfl (feq (by decide : ¬ ((2 : Int32) = (6 : Int32)))).1 ?_
        show Steps p.tables e below (T1.setTop (mkF m 33 #[.val (.int p0), .val (.int (2 : Int32)), .val (.ref w_YXZ_5), .unset, .unset] [])) _
        refine XS.iloadN X1.here hx rfl (hb hby at_33) rfl ?_
        show Steps p.tables e below (T1.setTop (mkF m 34 #[.val (.int p0), .val (.int (2 : Int32)), .val (.ref w_YXZ_5), .unset, .unset] [(.int (2 : Int32))])) _
        refine XS.bipush X1.here hx rfl (hb hby at_34) ?_
        show Steps p.tables e below (T1.setTop (mkF m 36 #[.val (.int p0), .val (.int (2 : Int32)), .val (.ref w_YXZ_5), .unset, .unset] [(.int (9 : Int32)), (.int (2 : Int32))])) _
        refine XS.icmpNo X1.here hx rfl (hb hby at_36) rfl (feq (by decide : ¬ ((2 : Int32) = (9 : Int32)))).1 ?_
        show Steps p.tables e below (T1.setTop (mkF m 39 #[.val (.int p0), .val (.int (2 : Int32)), .val (.ref w_YXZ_5), .unset, .unset] [])) _
        refine XS.iloadN X1.here hx rfl (hb hby at_39) rfl ?_
        show Steps p.tables e below (T1.setTop (mkF m 40 #[.val (.int p0), .val (.int (2 : Int32)), .val (.ref w_YXZ_5), .unset, .unset] [(.int (2 : Int32))])) _
        refine XS.bipush X1.here hx rfl (hb hby at_40) ?_
        show Steps p.tables e below (T1.setTop (mkF m 42 #[.val (.int p0), .val (.int (2 : Int32)), .val (.ref w_YXZ_5), .unset, .unset] [(.int (10 : Int32)), (.int (2 : Int32))])) _
        refine XS.icmpYes X1.here hx rfl (pc0 := 42) (pc' := 49) rfl (hb hby at_42) rfl (feq (by decide : ¬ ((2 : Int32) = (10 : Int32)))).2 (by decide) (by decide) ?_
        show Steps p.tables e below (T1.setTop (mkF m 49 #[.val (.int p0), .val (.int (2 : Int32)), .val (.ref w_YXZ_5), .unset, .unset] [])) _
        refine X1.ldc2DoubleC hx hown (mvT hZ (hw _ (List.mem_of_getElem? (i := 21) rfl))) (g := (mkF m 49 #[.val (.int p0), .val (.int (2 : Int32)), .val (.ref w_YXZ_5), .unset, .unset] [])) rfl (hb hby at_49) _ ?_
        show Steps p.tables e below (T1.setTop (mkF m 52 #[.val (.int p0), .val (.int (2 : Int32)), .val (.ref w_YXZ_5), .unset, .unset] [(.double (13830554455654793216 : UInt64))])) _
        refine XS.dstoreN X1.here hx rfl (hb hby at_52) rfl (l' := #[.val (.int p0), .val (.int (2 : Int32)), .val (.ref w_YXZ_5), .val (.double (13830554455654793216 : UInt64)), .second]) rfl ?_
        show Steps p.tables e below (T1.setTop (mkF m 53 #[.val (.int p0), .val (.int (2 : Int32)), .val (.ref w_YXZ_5), .val (.double (13830554455654793216 : UInt64)), .second] [])) _
        refine XS.aloadN X1.here hx rfl (hb hby at_53) rfl rfl ?_
        show Steps p.tables e below (T1.setTop (mkF m 54 #[.val (.int p0), .val (.int (2 : Int32)), .val (.ref w_YXZ_5), .val (.double (13830554455654793216 : UInt64)), .second] [(.ref w_YXZ_5)])) _
        refine st12.trans ?_
        exact kt)
    obtain rfl : (13830554455654793216 : UInt64) = r13 := Pr13.2 (by decide)
    have pre15 : ∀ t, Steps p.tables e below (T12.setTop (mkF m 67 #[.val (.int p0), .val (.int (2 : Int32)), .val (.ref w_YXZ_5), .val (.double (13830554455654793216 : UInt64)), .second] [(.int (1 : Int32))])) t → Steps p.tables e below (s₁.setTop (entryFrame m #[(.int p0)] maxLocals)) t := fun t kt => pre14 t (by
        show Steps p.tables e below (T12.setTop (mkF m 57 #[.val (.int p0), .val (.int (2 : Int32)), .val (.ref w_YXZ_5), .val (.double (13830554455654793216 : UInt64)), .second] [(.double (13830554455654793216 : UInt64))])) _
        refine XS.dloadN X12.here hx rfl (hb hby at_57) rfl ?_
        show Steps p.tables e below (T12.setTop (mkF m 58 #[.val (.int p0), .val (.int (2 : Int32)), .val (.ref w_YXZ_5), .val (.double (13830554455654793216 : UInt64)), .second] [(.double (13830554455654793216 : UInt64)), (.double (13830554455654793216 : UInt64))])) _
        refine XS.dcmpS X12.here hx rfl (hb hby at_58) rfl (v := (0 : Int32)) (by decide +kernel) ?_
        show Steps p.tables e below (T12.setTop (mkF m 59 #[.val (.int p0), .val (.int (2 : Int32)), .val (.ref w_YXZ_5), .val (.double (13830554455654793216 : UInt64)), .second] [(.int (0 : Int32))])) _
        refine XS.ifNo X12.here hx rfl (hb hby at_59) rfl ((if0 _ _).trans (teq (rfl : (0 : Int32) = (0 : Int32))).2) ?_
        show Steps p.tables e below (T12.setTop (mkF m 62 #[.val (.int p0), .val (.int (2 : Int32)), .val (.ref w_YXZ_5), .val (.double (13830554455654793216 : UInt64)), .second] [])) _
        refine XS.iconst X12.here hx rfl (hb hby at_62) ?_
        show Steps p.tables e below (T12.setTop (mkF m 63 #[.val (.int p0), .val (.int (2 : Int32)), .val (.ref w_YXZ_5), .val (.double (13830554455654793216 : UInt64)), .second] [(.int (1 : Int32))])) _
        refine XS.goto X12.here hx rfl (pc0 := 63) (pc' := 67) rfl (hb hby at_63) (by decide) (by decide) ?_
        exact kt)
    obtain ⟨fs, hr, hrun, hended, hW, hsame⟩ := X12.leave (v := some (.int (1 : Int32))) (fun h => by rw [Bd.returns] at h; cases h)
    refine ⟨_, _, pre15 _ ?_, hrun, hended, _, _, rfl, ?_, ⟨_, rfl⟩, hW, hsame.mono (by decide) (by decide)⟩
    · show Steps p.tables e below (T12.setTop (mkF m 67 #[.val (.int p0), .val (.int (2 : Int32)), .val (.ref w_YXZ_5), .val (.double (13830554455654793216 : UInt64)), .second] [(.int (1 : Int32))])) _
      exact retN X12 hx (t := .boolean) Bd.returns (by simp) (hb hby at_67) hr
    · show Q0 Z _ _ _ _ _ _ _ _ _ _ _ _ _ h0 n0 _ T12.heap _
      rw [e12]
      exact ⟨rfl, N12, rfl⟩
  · skip
    obtain ⟨cq16, kq16, q16a, q16b, q16c⟩ := isOf hZ e1 E_5
    obtain ⟨_, _, ⟨T16, L16, k16, n16⟩, -, X16, ⟨Lc16, hQ16, l16, y16, z16⟩, st16⟩ := X1.virtualBack hx (y := (⟨"com/example/rotarium/rotarium/EulerSequence", "parity", "()D"⟩ : MethodName)) (z := (⟨"com/example/rotarium/rotarium/EulerSequence", "parity", "()D"⟩ : MethodName)) hown (mvT hZ (hw _ (List.mem_of_getElem? (i := 8) rfl))) (mvT hZ (hw _ (List.mem_of_getElem? (i := 9) rfl))) (notFace_of_selects (args := #[]) (mvT hZ (hw _ (List.mem_of_getElem? (i := 11) rfl)))) (mvT hZ (hw _ (List.mem_of_getElem? (i := 11) rfl))) (mvT hZ (hw _ (List.mem_of_getElem? (i := 10) rfl))) (by decide) (backOf (W := 0) (rm2 l Z aw hw [] w_YZX_3 (2 : Int32) (1 : Int32) h0 n0 Z0 F_middleAxis_6 F_firstAxis_7) hZ (hw _ (List.mem_of_getElem? (i := 12) rfl)) (hw _ (List.mem_of_getElem? (i := 6) rfl)) (by decide) (by decide)) q16a q16c (g := (mkF m 54 #[.val (.int p0), .val (.int (3 : Int32)), .val (.ref w_YZX_3), .val (.double FP.dconst1), .second] [(.ref w_YZX_3)])) rfl (by rw [hml]; rfl) (Steps.refl _) (argsL := []) (rest := []) (lenOf pd_1 rfl) rfl (by show 2 * 0 + _ ≤ _; exact Nat.le_of_eq rfl) (hb hby at_54) (fun _ _ => ⟨rfl, e1, (by decide : 0 + 0 ≤ _), (by decide : 0 + 0 ≤ _)⟩)
    dsimp only [Pt.U, Pt.locs, Pt.cells, Pt.slots] at X16 l16 y16 z16 st16 hQ16
    subst l16 y16 z16
    obtain ⟨⟨r17, rfl, Pr17⟩, Nq16, e16⟩ := hQ16
    have N16 := Fr.app N1 Nq16
    have pre18 : ∀ t, Steps p.tables e below (T16.setTop (mkF m 57 #[.val (.int p0), .val (.int (3 : Int32)), .val (.ref w_YZX_3), .val (.double FP.dconst1), .second] [(.double r17)])) t → Steps p.tables e below (s₁.setTop (entryFrame m #[(.int p0)] maxLocals)) t := fun t kt => pre3 t (by
        show Steps p.tables e below (T1.setTop (mkF m 12 #[.val (.int p0), .val (.int (3 : Int32)), .unset, .unset, .unset] [(.ref w_YZX_3)])) _
        refine XS.astoreN X1.here hx rfl (hb hby at_12) rfl rfl (l' := #[.val (.int p0), .val (.int (3 : Int32)), .val (.ref w_YZX_3), .unset, .unset]) rfl ?_
        show Steps p.tables e below (T1.setTop (mkF m 13 #[.val (.int p0), .val (.int (3 : Int32)), .val (.ref w_YZX_3), .unset, .unset] [])) _
        refine XS.iloadN X1.here hx rfl (hb hby at_13) rfl ?_
        show Steps p.tables e below (T1.setTop (mkF m 14 #[.val (.int p0), .val (.int (3 : Int32)), .val (.ref w_YZX_3), .unset, .unset] [(.int (3 : Int32))])) _
        refine XS.ifNo X1.here hx rfl (hb hby at_14) rfl ((if0 _ _).trans (feq (by decide : ¬ ((3 : Int32) = (0 : Int32)))).1) ?_
        show Steps p.tables e below (T1.setTop (mkF m 17 #[.val (.int p0), .val (.int (3 : Int32)), .val (.ref w_YZX_3), .unset, .unset] [])) _
        refine XS.iloadN X1.here hx rfl (hb hby at_17) rfl ?_
        show Steps p.tables e below (T1.setTop (mkF m 18 #[.val (.int p0), .val (.int (3 : Int32)), .val (.ref w_YZX_3), .unset, .unset] [(.int (3 : Int32))])) _
        refine XS.iconst X1.here hx rfl (hb hby at_18) ?_
        show Steps p.tables e below (T1.setTop (mkF m 19 #[.val (.int p0), .val (.int (3 : Int32)), .val (.ref w_YZX_3), .unset, .unset] [(.int (3 : Int32)), (.int (3 : Int32))])) _
        refine XS.icmpYes X1.here hx rfl (pc0 := 19) (pc' := 45) rfl (hb hby at_19) rfl (teq (rfl : (3 : Int32) = (3 : Int32))).1 (by decide) (by decide) ?_
        show Steps p.tables e below (T1.setTop (mkF m 45 #[.val (.int p0), .val (.int (3 : Int32)), .val (.ref w_YZX_3), .unset, .unset] [])) _
        refine XS.dconst1 X1.here hx rfl (hb hby at_45) rfl ?_
        show Steps p.tables e below (T1.setTop (mkF m 46 #[.val (.int p0), .val (.int (3 : Int32)), .val (.ref w_YZX_3), .unset, .unset] [(.double FP.dconst1)])) _
        refine XS.goto X1.here hx rfl (pc0 := 46) (pc' := 52) rfl (hb hby at_46) (by decide) (by decide) ?_
        show Steps p.tables e below (T1.setTop (mkF m 52 #[.val (.int p0), .val (.int (3 : Int32)), .val (.ref w_YZX_3), .unset, .unset] [(.double FP.dconst1)])) _
        refine XS.dstoreN X1.here hx rfl (hb hby at_52) rfl (l' := #[.val (.int p0), .val (.int (3 : Int32)), .val (.ref w_YZX_3), .val (.double FP.dconst1), .second]) rfl ?_
        show Steps p.tables e below (T1.setTop (mkF m 53 #[.val (.int p0), .val (.int (3 : Int32)), .val (.ref w_YZX_3), .val (.double FP.dconst1), .second] [])) _
        refine XS.aloadN X1.here hx rfl (hb hby at_53) rfl rfl ?_
        show Steps p.tables e below (T1.setTop (mkF m 54 #[.val (.int p0), .val (.int (3 : Int32)), .val (.ref w_YZX_3), .val (.double FP.dconst1), .second] [(.ref w_YZX_3)])) _
        refine st16.trans ?_
        exact kt)
    obtain rfl : FP.dconst1 = r17 := Pr17.1 (by decide)
    have pre19 : ∀ t, Steps p.tables e below (T16.setTop (mkF m 67 #[.val (.int p0), .val (.int (3 : Int32)), .val (.ref w_YZX_3), .val (.double FP.dconst1), .second] [(.int (1 : Int32))])) t → Steps p.tables e below (s₁.setTop (entryFrame m #[(.int p0)] maxLocals)) t := fun t kt => pre18 t (by
        show Steps p.tables e below (T16.setTop (mkF m 57 #[.val (.int p0), .val (.int (3 : Int32)), .val (.ref w_YZX_3), .val (.double FP.dconst1), .second] [(.double FP.dconst1)])) _
        refine XS.dloadN X16.here hx rfl (hb hby at_57) rfl ?_
        show Steps p.tables e below (T16.setTop (mkF m 58 #[.val (.int p0), .val (.int (3 : Int32)), .val (.ref w_YZX_3), .val (.double FP.dconst1), .second] [(.double FP.dconst1), (.double FP.dconst1)])) _
        refine XS.dcmpS X16.here hx rfl (hb hby at_58) rfl (v := (0 : Int32)) (by decide +kernel) ?_
        show Steps p.tables e below (T16.setTop (mkF m 59 #[.val (.int p0), .val (.int (3 : Int32)), .val (.ref w_YZX_3), .val (.double FP.dconst1), .second] [(.int (0 : Int32))])) _
        refine XS.ifNo X16.here hx rfl (hb hby at_59) rfl ((if0 _ _).trans (teq (rfl : (0 : Int32) = (0 : Int32))).2) ?_
        show Steps p.tables e below (T16.setTop (mkF m 62 #[.val (.int p0), .val (.int (3 : Int32)), .val (.ref w_YZX_3), .val (.double FP.dconst1), .second] [])) _
        refine XS.iconst X16.here hx rfl (hb hby at_62) ?_
        show Steps p.tables e below (T16.setTop (mkF m 63 #[.val (.int p0), .val (.int (3 : Int32)), .val (.ref w_YZX_3), .val (.double FP.dconst1), .second] [(.int (1 : Int32))])) _
        refine XS.goto X16.here hx rfl (pc0 := 63) (pc' := 67) rfl (hb hby at_63) (by decide) (by decide) ?_
        exact kt)
    obtain ⟨fs, hr, hrun, hended, hW, hsame⟩ := X16.leave (v := some (.int (1 : Int32))) (fun h => by rw [Bd.returns] at h; cases h)
    refine ⟨_, _, pre19 _ ?_, hrun, hended, _, _, rfl, ?_, ⟨_, rfl⟩, hW, hsame.mono (by decide) (by decide)⟩
    · show Steps p.tables e below (T16.setTop (mkF m 67 #[.val (.int p0), .val (.int (3 : Int32)), .val (.ref w_YZX_3), .val (.double FP.dconst1), .second] [(.int (1 : Int32))])) _
      exact retN X16 hx (t := .boolean) Bd.returns (by simp) (hb hby at_67) hr
    · show Q0 Z _ _ _ _ _ _ _ _ _ _ _ _ _ h0 n0 _ T16.heap _
      rw [e16]
      exact ⟨rfl, N16, rfl⟩
  · skip
    obtain ⟨cq20, kq20, q20a, q20b, q20c⟩ := isOf hZ e1 E_21
    obtain ⟨_, _, ⟨T20, L20, k20, n20⟩, -, X20, ⟨Lc20, hQ20, l20, y20, z20⟩, st20⟩ := X1.virtualBack hx (y := (⟨"com/example/rotarium/rotarium/EulerSequence", "parity", "()D"⟩ : MethodName)) (z := (⟨"com/example/rotarium/rotarium/EulerSequence", "parity", "()D"⟩ : MethodName)) hown (mvT hZ (hw _ (List.mem_of_getElem? (i := 8) rfl))) (mvT hZ (hw _ (List.mem_of_getElem? (i := 9) rfl))) (notFace_of_selects (args := #[]) (mvT hZ (hw _ (List.mem_of_getElem? (i := 11) rfl)))) (mvT hZ (hw _ (List.mem_of_getElem? (i := 11) rfl))) (mvT hZ (hw _ (List.mem_of_getElem? (i := 10) rfl))) (by decide) (backOf (W := 0) (rm2 l Z aw hw [] w_ZXY_11 (0 : Int32) (2 : Int32) h0 n0 Z0 F_middleAxis_22 F_firstAxis_23) hZ (hw _ (List.mem_of_getElem? (i := 12) rfl)) (hw _ (List.mem_of_getElem? (i := 6) rfl)) (by decide) (by decide)) q20a q20c (g := (mkF m 54 #[.val (.int p0), .val (.int (4 : Int32)), .val (.ref w_ZXY_11), .val (.double FP.dconst1), .second] [(.ref w_ZXY_11)])) rfl (by rw [hml]; rfl) (Steps.refl _) (argsL := []) (rest := []) (lenOf pd_1 rfl) rfl (by show 2 * 0 + _ ≤ _; exact Nat.le_of_eq rfl) (hb hby at_54) (fun _ _ => ⟨rfl, e1, (by decide : 0 + 0 ≤ _), (by decide : 0 + 0 ≤ _)⟩)
    dsimp only [Pt.U, Pt.locs, Pt.cells, Pt.slots] at X20 l20 y20 z20 st20 hQ20
    subst l20 y20 z20
    obtain ⟨⟨r21, rfl, Pr21⟩, Nq20, e20⟩ := hQ20
    have N20 := Fr.app N1 Nq20
    have pre22 : ∀ t, Steps p.tables e below (T20.setTop (mkF m 57 #[.val (.int p0), .val (.int (4 : Int32)), .val (.ref w_ZXY_11), .val (.double FP.dconst1), .second] [(.double r21)])) t → Steps p.tables e below (s₁.setTop (entryFrame m #[(.int p0)] maxLocals)) t := fun t kt => pre3 t (by
        show Steps p.tables e below (T1.setTop (mkF m 12 #[.val (.int p0), .val (.int (4 : Int32)), .unset, .unset, .unset] [(.ref w_ZXY_11)])) _
        refine XS.astoreN X1.here hx rfl (hb hby at_12) rfl rfl (l' := #[.val (.int p0), .val (.int (4 : Int32)), .val (.ref w_ZXY_11), .unset, .unset]) rfl ?_
        show Steps p.tables e below (T1.setTop (mkF m 13 #[.val (.int p0), .val (.int (4 : Int32)), .val (.ref w_ZXY_11), .unset, .unset] [])) _
        refine XS.iloadN X1.here hx rfl (hb hby at_13) rfl ?_
        show Steps p.tables e below (T1.setTop (mkF m 14 #[.val (.int p0), .val (.int (4 : Int32)), .val (.ref w_ZXY_11), .unset, .unset] [(.int (4 : Int32))])) _
        refine XS.ifNo X1.here hx rfl (hb hby at_14) rfl ((if0 _ _).trans (feq (by decide : ¬ ((4 : Int32) = (0 : Int32)))).1) ?_
        show Steps p.tables e below (T1.setTop (mkF m 17 #[.val (.int p0), .val (.int (4 : Int32)), .val (.ref w_ZXY_11), .unset, .unset] [])) _
        refine XS.iloadN X1.here hx rfl (hb hby at_17) rfl ?_
        show Steps p.tables e below (T1.setTop (mkF m 18 #[.val (.int p0), .val (.int (4 : Int32)), .val (.ref w_ZXY_11), .unset, .unset] [(.int (4 : Int32))])) _
        refine XS.iconst X1.here hx rfl (hb hby at_18) ?_
        show Steps p.tables e below (T1.setTop (mkF m 19 #[.val (.int p0), .val (.int (4 : Int32)), .val (.ref w_ZXY_11), .unset, .unset] [(.int (3 : Int32)), (.int (4 : Int32))])) _
        refine XS.icmpNo X1.here hx rfl (hb hby at_19) rfl (feq (by decide : ¬ ((4 : Int32) = (3 : Int32)))).1 ?_
        show Steps p.tables e below (T1.setTop (mkF m 22 #[.val (.int p0), .val (.int (4 : Int32)), .val (.ref w_ZXY_11), .unset, .unset] [])) _
        refine XS.iloadN X1.here hx rfl (hb hby at_22) rfl ?_
        show Steps p.tables e below (T1.setTop (mkF m 23 #[.val (.int p0), .val (.int (4 : Int32)), .val (.ref w_ZXY_11), .unset, .unset] [(.int (4 : Int32))])) _
        refine XS.iconst X1.here hx rfl (hb hby at_23) ?_
        show Steps p.tables e below (T1.setTop (mkF m 24 #[.val (.int p0), .val (.int (4 : Int32)), .val (.ref w_ZXY_11), .unset, .unset] [(.int (4 : Int32)), (.int (4 : Int32))])) _
        refine XS.icmpYes X1.here hx rfl (pc0 := 24) (pc' := 45) rfl (hb hby at_24) rfl (teq (rfl : (4 : Int32) = (4 : Int32))).1 (by decide) (by decide) ?_
        show Steps p.tables e below (T1.setTop (mkF m 45 #[.val (.int p0), .val (.int (4 : Int32)), .val (.ref w_ZXY_11), .unset, .unset] [])) _
        refine XS.dconst1 X1.here hx rfl (hb hby at_45) rfl ?_
        show Steps p.tables e below (T1.setTop (mkF m 46 #[.val (.int p0), .val (.int (4 : Int32)), .val (.ref w_ZXY_11), .unset, .unset] [(.double FP.dconst1)])) _
        refine XS.goto X1.here hx rfl (pc0 := 46) (pc' := 52) rfl (hb hby at_46) (by decide) (by decide) ?_
        show Steps p.tables e below (T1.setTop (mkF m 52 #[.val (.int p0), .val (.int (4 : Int32)), .val (.ref w_ZXY_11), .unset, .unset] [(.double FP.dconst1)])) _
        refine XS.dstoreN X1.here hx rfl (hb hby at_52) rfl (l' := #[.val (.int p0), .val (.int (4 : Int32)), .val (.ref w_ZXY_11), .val (.double FP.dconst1), .second]) rfl ?_
        show Steps p.tables e below (T1.setTop (mkF m 53 #[.val (.int p0), .val (.int (4 : Int32)), .val (.ref w_ZXY_11), .val (.double FP.dconst1), .second] [])) _
        refine XS.aloadN X1.here hx rfl (hb hby at_53) rfl rfl ?_
        show Steps p.tables e below (T1.setTop (mkF m 54 #[.val (.int p0), .val (.int (4 : Int32)), .val (.ref w_ZXY_11), .val (.double FP.dconst1), .second] [(.ref w_ZXY_11)])) _
        refine st20.trans ?_
        exact kt)
    obtain rfl : FP.dconst1 = r21 := Pr21.1 (by decide)
    have pre23 : ∀ t, Steps p.tables e below (T20.setTop (mkF m 67 #[.val (.int p0), .val (.int (4 : Int32)), .val (.ref w_ZXY_11), .val (.double FP.dconst1), .second] [(.int (1 : Int32))])) t → Steps p.tables e below (s₁.setTop (entryFrame m #[(.int p0)] maxLocals)) t := fun t kt => pre22 t (by
        show Steps p.tables e below (T20.setTop (mkF m 57 #[.val (.int p0), .val (.int (4 : Int32)), .val (.ref w_ZXY_11), .val (.double FP.dconst1), .second] [(.double FP.dconst1)])) _
        refine XS.dloadN X20.here hx rfl (hb hby at_57) rfl ?_
        show Steps p.tables e below (T20.setTop (mkF m 58 #[.val (.int p0), .val (.int (4 : Int32)), .val (.ref w_ZXY_11), .val (.double FP.dconst1), .second] [(.double FP.dconst1), (.double FP.dconst1)])) _
        refine XS.dcmpS X20.here hx rfl (hb hby at_58) rfl (v := (0 : Int32)) (by decide +kernel) ?_
        show Steps p.tables e below (T20.setTop (mkF m 59 #[.val (.int p0), .val (.int (4 : Int32)), .val (.ref w_ZXY_11), .val (.double FP.dconst1), .second] [(.int (0 : Int32))])) _
        refine XS.ifNo X20.here hx rfl (hb hby at_59) rfl ((if0 _ _).trans (teq (rfl : (0 : Int32) = (0 : Int32))).2) ?_
        show Steps p.tables e below (T20.setTop (mkF m 62 #[.val (.int p0), .val (.int (4 : Int32)), .val (.ref w_ZXY_11), .val (.double FP.dconst1), .second] [])) _
        refine XS.iconst X20.here hx rfl (hb hby at_62) ?_
        show Steps p.tables e below (T20.setTop (mkF m 63 #[.val (.int p0), .val (.int (4 : Int32)), .val (.ref w_ZXY_11), .val (.double FP.dconst1), .second] [(.int (1 : Int32))])) _
        refine XS.goto X20.here hx rfl (pc0 := 63) (pc' := 67) rfl (hb hby at_63) (by decide) (by decide) ?_
        exact kt)
    obtain ⟨fs, hr, hrun, hended, hW, hsame⟩ := X20.leave (v := some (.int (1 : Int32))) (fun h => by rw [Bd.returns] at h; cases h)
    refine ⟨_, _, pre23 _ ?_, hrun, hended, _, _, rfl, ?_, ⟨_, rfl⟩, hW, hsame.mono (by decide) (by decide)⟩
    · show Steps p.tables e below (T20.setTop (mkF m 67 #[.val (.int p0), .val (.int (4 : Int32)), .val (.ref w_ZXY_11), .val (.double FP.dconst1), .second] [(.int (1 : Int32))])) _
      exact retN X20 hx (t := .boolean) Bd.returns (by simp) (hb hby at_67) hr
    · show Q0 Z _ _ _ _ _ _ _ _ _ _ _ _ _ h0 n0 _ T20.heap _
      rw [e20]
      exact ⟨rfl, N20, rfl⟩
  · skip
    obtain ⟨cq24, kq24, q24a, q24b, q24c⟩ := isOf hZ e1 E_45
    obtain ⟨_, _, ⟨T24, L24, k24, n24⟩, -, X24, ⟨Lc24, hQ24, l24, y24, z24⟩, st24⟩ := X1.virtualBack hx (y := (⟨"com/example/rotarium/rotarium/EulerSequence", "parity", "()D"⟩ : MethodName)) (z := (⟨"com/example/rotarium/rotarium/EulerSequence", "parity", "()D"⟩ : MethodName)) hown (mvT hZ (hw _ (List.mem_of_getElem? (i := 8) rfl))) (mvT hZ (hw _ (List.mem_of_getElem? (i := 9) rfl))) (notFace_of_selects (args := #[]) (mvT hZ (hw _ (List.mem_of_getElem? (i := 11) rfl)))) (mvT hZ (hw _ (List.mem_of_getElem? (i := 11) rfl))) (mvT hZ (hw _ (List.mem_of_getElem? (i := 10) rfl))) (by decide) (backOf (W := 0) (rm2 l Z aw hw [] w_ZYX_23 (1 : Int32) (2 : Int32) h0 n0 Z0 F_middleAxis_46 F_firstAxis_47) hZ (hw _ (List.mem_of_getElem? (i := 12) rfl)) (hw _ (List.mem_of_getElem? (i := 6) rfl)) (by decide) (by decide)) q24a q24c (g := (mkF m 54 #[.val (.int p0), .val (.int (5 : Int32)), .val (.ref w_ZYX_23), .val (.double (13830554455654793216 : UInt64)), .second] [(.ref w_ZYX_23)])) rfl (by rw [hml]; rfl) (Steps.refl _) (argsL := []) (rest := []) (lenOf pd_1 rfl) rfl (by show 2 * 0 + _ ≤ _; exact Nat.le_of_eq rfl) (hb hby at_54) (fun _ _ => ⟨rfl, e1, (by decide : 0 + 0 ≤ _), (by decide : 0 + 0 ≤ _)⟩)
    dsimp only [Pt.U, Pt.locs, Pt.cells, Pt.slots] at X24 l24 y24 z24 st24 hQ24
    subst l24 y24 z24
    obtain ⟨⟨r25, rfl, Pr25⟩, Nq24, e24⟩ := hQ24
    have N24 := Fr.app N1 Nq24
    have pre26 : ∀ t, Steps p.tables e below (T24.setTop (mkF m 57 #[.val (.int p0), .val (.int (5 : Int32)), .val (.ref w_ZYX_23), .val (.double (13830554455654793216 : UInt64)), .second] [(.double r25)])) t → Steps p.tables e below (s₁.setTop (entryFrame m #[(.int p0)] maxLocals)) t := fun t kt => pre3 t (by
        show Steps p.tables e below (T1.setTop (mkF m 12 #[.val (.int p0), .val (.int (5 : Int32)), .unset, .unset, .unset] [(.ref w_ZYX_23)])) _
        refine XS.astoreN X1.here hx rfl (hb hby at_12) rfl rfl (l' := #[.val (.int p0), .val (.int (5 : Int32)), .val (.ref w_ZYX_23), .unset, .unset]) rfl ?_
        show Steps p.tables e below (T1.setTop (mkF m 13 #[.val (.int p0), .val (.int (5 : Int32)), .val (.ref w_ZYX_23), .unset, .unset] [])) _
        refine XS.iloadN X1.here hx rfl (hb hby at_13) rfl ?_
        show Steps p.tables e below (T1.setTop (mkF m 14 #[.val (.int p0), .val (.int (5 : Int32)), .val (.ref w_ZYX_23), .unset, .unset] [(.int (5 : Int32))])) _
        refine XS.ifNo X1.here hx rfl (hb hby at_14) rfl ((if0 _ _).trans (feq (by decide : ¬ ((5 : Int32) = (0 : Int32)))).1) ?_
        show Steps p.tables e below (T1.setTop (mkF m 17 #[.val (.int p0), .val (.int (5 : Int32)), .val (.ref w_ZYX_23), .unset, .unset] [])) _
        refine XS.iloadN X1.here hx rfl (hb hby at_17) rfl ?_
        show Steps p.tables e below (T1.setTop (mkF m 18 #[.val (.int p0), .val (.int (5 : Int32)), .val (.ref w_ZYX_23), .unset, .unset] [(.int (5 : Int32))])) _
        refine XS.iconst X1.here hx rfl (hb hby at_18) ?_
        show Steps p.tables e below (T1.setTop (mkF m 19 #[.val (.int p0), .val (.int (5 : Int32)), .val (.ref w_ZYX_23), .unset, .unset] [(.int (3 : Int32)), (.int (5 : Int32))])) _
        refine XS.icmpNo X1.here hx rfl (hb hby at_19) rfl (feq (by decide : ¬ ((5 : Int32) = (3 : Int32)))).1 ?_
        show Steps p.tables e below (T1.setTop (mkF m 22 #[.val (.int p0), .val (.int (5 : Int32)), .val (.ref w_ZYX_23), .unset, .unset] [])) _
        refine XS.iloadN X1.here hx rfl (hb hby at_22) rfl ?_
        show Steps p.tables e below (T1.setTop (mkF m 23 #[.val (.int p0), .val (.int (5 : Int32)), .val (.ref w_ZYX_23), .unset, .unset] [(.int (5 : Int32))])) _
        refine XS.iconst X1.here hx rfl (hb hby at_23) ?_
        show Steps p.tables e below (T1.setTop (mkF m 24 #[.val (.int p0), .val (.int (5 : Int32)), .val (.ref w_ZYX_23), .unset, .unset] [(.int (4 : Int32)), (.int (5 : Int32))])) _
        refine XS.icmpNo X1.here hx rfl (hb hby at_24) rfl (feq (by decide : ¬ ((5 : Int32) = (4 : Int32)))).1 ?_
        show Steps p.tables e below (T1.setTop (mkF m 27 #[.val (.int p0), .val (.int (5 : Int32)), .val (.ref w_ZYX_23), .unset, .unset] [])) _
        refine XS.iloadN X1.here hx rfl (hb hby at_27) rfl ?_
        show Steps p.tables e below (T1.setTop (mkF m 28 #[.val (.int p0), .val (.int (5 : Int32)), .val (.ref w_ZYX_23), .unset, .unset] [(.int (5 : Int32))])) _
        refine XS.bipush X1.here hx rfl (hb hby at_28) ?_
        show Steps p.tables e below (T1.setTop (mkF m 30 #[.val (.int p0), .val (.int (5 : Int32)), .val (.ref w_ZYX_23), .unset, .unset] [(.int (6 : Int32)), (.int (5 : Int32))])) _
        refine XS.icmpNo X1.here hx rfl (hb hby at_30) rfl (feq (by decide : ¬ ((5 : Int32) = (6 : Int32)))).1 ?_
        show Steps p.tables e below (T1.setTop (mkF m 33 #[.val (.int p0), .val (.int (5 : Int32)), .val (.ref w_ZYX_23), .unset, .unset] [])) _
        refine XS.iloadN X1.here hx rfl (hb hby at_33) rfl ?_
        show Steps p.tables e below (T1.setTop (mkF m 34 #[.val (.int p0), .val (.int (5 : Int32)), .val (.ref w_ZYX_23), .unset, .unset] [(.int (5 : Int32))])) _
        refine XS.bipush X1.here hx rfl (hb hby at_34) ?_
        show Steps p.tables e below (T1.setTop (mkF m 36 #[.val (.int p0), .val (.int (5 : Int32)), .val (.ref w_ZYX_23), .unset, .unset] [(.int (9 : Int32)), (.int (5 : Int32))])) _
        refine XS.icmpNo X1.here hx rfl (hb hby at_36) rfl (feq (by decide : ¬ ((5 : Int32) = (9 : Int32)))).1 ?_
        show Steps p.tables e below (T1.setTop (mkF m 39 #[.val (.int p0), .val (.int (5 : Int32)), .val (.ref w_ZYX_23), .unset, .unset] [])) _
        refine XS.iloadN X1.here hx rfl (hb hby at_39) rfl ?_
        show Steps p.tables e below (T1.setTop (mkF m 40 #[.val (.int p0), .val (.int (5 : Int32)), .val (.ref w_ZYX_23), .unset, .unset] [(.int (5 : Int32))])) _
        refine XS.bipush X1.here hx rfl (hb hby at_40) ?_
        show Steps p.tables e below (T1.setTop (mkF m 42 #[.val (.int p0), .val (.int (5 : Int32)), .val (.ref w_ZYX_23), .unset, .unset] [(.int (10 : Int32)), (.int (5 : Int32))])) _
        refine XS.icmpYes X1.here hx rfl (pc0 := 42) (pc' := 49) rfl (hb hby at_42) rfl (feq (by decide : ¬ ((5 : Int32) = (10 : Int32)))).2 (by decide) (by decide) ?_
        show Steps p.tables e below (T1.setTop (mkF m 49 #[.val (.int p0), .val (.int (5 : Int32)), .val (.ref w_ZYX_23), .unset, .unset] [])) _
        refine X1.ldc2DoubleC hx hown (mvT hZ (hw _ (List.mem_of_getElem? (i := 21) rfl))) (g := (mkF m 49 #[.val (.int p0), .val (.int (5 : Int32)), .val (.ref w_ZYX_23), .unset, .unset] [])) rfl (hb hby at_49) _ ?_
        show Steps p.tables e below (T1.setTop (mkF m 52 #[.val (.int p0), .val (.int (5 : Int32)), .val (.ref w_ZYX_23), .unset, .unset] [(.double (13830554455654793216 : UInt64))])) _
        refine XS.dstoreN X1.here hx rfl (hb hby at_52) rfl (l' := #[.val (.int p0), .val (.int (5 : Int32)), .val (.ref w_ZYX_23), .val (.double (13830554455654793216 : UInt64)), .second]) rfl ?_
        show Steps p.tables e below (T1.setTop (mkF m 53 #[.val (.int p0), .val (.int (5 : Int32)), .val (.ref w_ZYX_23), .val (.double (13830554455654793216 : UInt64)), .second] [])) _
        refine XS.aloadN X1.here hx rfl (hb hby at_53) rfl rfl ?_
        show Steps p.tables e below (T1.setTop (mkF m 54 #[.val (.int p0), .val (.int (5 : Int32)), .val (.ref w_ZYX_23), .val (.double (13830554455654793216 : UInt64)), .second] [(.ref w_ZYX_23)])) _
        refine st24.trans ?_
        exact kt)
    obtain rfl : (13830554455654793216 : UInt64) = r25 := Pr25.2 (by decide)
    have pre27 : ∀ t, Steps p.tables e below (T24.setTop (mkF m 67 #[.val (.int p0), .val (.int (5 : Int32)), .val (.ref w_ZYX_23), .val (.double (13830554455654793216 : UInt64)), .second] [(.int (1 : Int32))])) t → Steps p.tables e below (s₁.setTop (entryFrame m #[(.int p0)] maxLocals)) t := fun t kt => pre26 t (by
        show Steps p.tables e below (T24.setTop (mkF m 57 #[.val (.int p0), .val (.int (5 : Int32)), .val (.ref w_ZYX_23), .val (.double (13830554455654793216 : UInt64)), .second] [(.double (13830554455654793216 : UInt64))])) _
        refine XS.dloadN X24.here hx rfl (hb hby at_57) rfl ?_
        show Steps p.tables e below (T24.setTop (mkF m 58 #[.val (.int p0), .val (.int (5 : Int32)), .val (.ref w_ZYX_23), .val (.double (13830554455654793216 : UInt64)), .second] [(.double (13830554455654793216 : UInt64)), (.double (13830554455654793216 : UInt64))])) _
        refine XS.dcmpS X24.here hx rfl (hb hby at_58) rfl (v := (0 : Int32)) (by decide +kernel) ?_
        show Steps p.tables e below (T24.setTop (mkF m 59 #[.val (.int p0), .val (.int (5 : Int32)), .val (.ref w_ZYX_23), .val (.double (13830554455654793216 : UInt64)), .second] [(.int (0 : Int32))])) _
        refine XS.ifNo X24.here hx rfl (hb hby at_59) rfl ((if0 _ _).trans (teq (rfl : (0 : Int32) = (0 : Int32))).2) ?_
        show Steps p.tables e below (T24.setTop (mkF m 62 #[.val (.int p0), .val (.int (5 : Int32)), .val (.ref w_ZYX_23), .val (.double (13830554455654793216 : UInt64)), .second] [])) _
        refine XS.iconst X24.here hx rfl (hb hby at_62) ?_
        show Steps p.tables e below (T24.setTop (mkF m 63 #[.val (.int p0), .val (.int (5 : Int32)), .val (.ref w_ZYX_23), .val (.double (13830554455654793216 : UInt64)), .second] [(.int (1 : Int32))])) _
        refine XS.goto X24.here hx rfl (pc0 := 63) (pc' := 67) rfl (hb hby at_63) (by decide) (by decide) ?_
        exact kt)
    obtain ⟨fs, hr, hrun, hended, hW, hsame⟩ := X24.leave (v := some (.int (1 : Int32))) (fun h => by rw [Bd.returns] at h; cases h)
    refine ⟨_, _, pre27 _ ?_, hrun, hended, _, _, rfl, ?_, ⟨_, rfl⟩, hW, hsame.mono (by decide) (by decide)⟩
    · show Steps p.tables e below (T24.setTop (mkF m 67 #[.val (.int p0), .val (.int (5 : Int32)), .val (.ref w_ZYX_23), .val (.double (13830554455654793216 : UInt64)), .second] [(.int (1 : Int32))])) _
      exact retN X24 hx (t := .boolean) Bd.returns (by simp) (hb hby at_67) hr
    · show Q0 Z _ _ _ _ _ _ _ _ _ _ _ _ _ h0 n0 _ T24.heap _
      rw [e24]
      exact ⟨rfl, N24, rfl⟩
  · skip
    obtain ⟨cq28, kq28, q28a, q28b, q28c⟩ := isOf hZ e1 E_41
    obtain ⟨_, _, ⟨T28, L28, k28, n28⟩, -, X28, ⟨Lc28, hQ28, l28, y28, z28⟩, st28⟩ := X1.virtualBack hx (y := (⟨"com/example/rotarium/rotarium/EulerSequence", "parity", "()D"⟩ : MethodName)) (z := (⟨"com/example/rotarium/rotarium/EulerSequence", "parity", "()D"⟩ : MethodName)) hown (mvT hZ (hw _ (List.mem_of_getElem? (i := 8) rfl))) (mvT hZ (hw _ (List.mem_of_getElem? (i := 9) rfl))) (notFace_of_selects (args := #[]) (mvT hZ (hw _ (List.mem_of_getElem? (i := 11) rfl)))) (mvT hZ (hw _ (List.mem_of_getElem? (i := 11) rfl))) (mvT hZ (hw _ (List.mem_of_getElem? (i := 10) rfl))) (by decide) (backOf (W := 0) (rm2 l Z aw hw [] w_XYX_21 (1 : Int32) (0 : Int32) h0 n0 Z0 F_middleAxis_42 F_firstAxis_43) hZ (hw _ (List.mem_of_getElem? (i := 12) rfl)) (hw _ (List.mem_of_getElem? (i := 6) rfl)) (by decide) (by decide)) q28a q28c (g := (mkF m 54 #[.val (.int p0), .val (.int (6 : Int32)), .val (.ref w_XYX_21), .val (.double FP.dconst1), .second] [(.ref w_XYX_21)])) rfl (by rw [hml]; rfl) (Steps.refl _) (argsL := []) (rest := []) (lenOf pd_1 rfl) rfl (by show 2 * 0 + _ ≤ _; exact Nat.le_of_eq rfl) (hb hby at_54) (fun _ _ => ⟨rfl, e1, (by decide : 0 + 0 ≤ _), (by decide : 0 + 0 ≤ _)⟩)
    dsimp only [Pt.U, Pt.locs, Pt.cells, Pt.slots] at X28 l28 y28 z28 st28 hQ28
    subst l28 y28 z28
    obtain ⟨⟨r29, rfl, Pr29⟩, Nq28, e28⟩ := hQ28
    have N28 := Fr.app N1 Nq28
    have pre30 : ∀ t, Steps p.tables e below (T28.setTop (mkF m 57 #[.val (.int p0), .val (.int (6 : Int32)), .val (.ref w_XYX_21), .val (.double FP.dconst1), .second] [(.double r29)])) t → Steps p.tables e below (s₁.setTop (entryFrame m #[(.int p0)] maxLocals)) t := fun t kt => pre3 t (by
        show Steps p.tables e below (T1.setTop (mkF m 12 #[.val (.int p0), .val (.int (6 : Int32)), .unset, .unset, .unset] [(.ref w_XYX_21)])) _
        refine XS.astoreN X1.here hx rfl (hb hby at_12) rfl rfl (l' := #[.val (.int p0), .val (.int (6 : Int32)), .val (.ref w_XYX_21), .unset, .unset]) rfl ?_
        show Steps p.tables e below (T1.setTop (mkF m 13 #[.val (.int p0), .val (.int (6 : Int32)), .val (.ref w_XYX_21), .unset, .unset] [])) _
        refine XS.iloadN X1.here hx rfl (hb hby at_13) rfl ?_
        show Steps p.tables e below (T1.setTop (mkF m 14 #[.val (.int p0), .val (.int (6 : Int32)), .val (.ref w_XYX_21), .unset, .unset] [(.int (6 : Int32))])) _
        refine XS.ifNo X1.here hx rfl (hb hby at_14) rfl ((if0 _ _).trans (feq (by decide : ¬ ((6 : Int32) = (0 : Int32)))).1) ?_
        show Steps p.tables e below (T1.setTop (mkF m 17 #[.val (.int p0), .val (.int (6 : Int32)), .val (.ref w_XYX_21), .unset, .unset] [])) _
        refine XS.iloadN X1.here hx rfl (hb hby at_17) rfl ?_
        show Steps p.tables e below (T1.setTop (mkF m 18 #[.val (.int p0), .val (.int (6 : Int32)), .val (.ref w_XYX_21), .unset, .unset] [(.int (6 : Int32))])) _
        refine XS.iconst X1.here hx rfl (hb hby at_18) ?_
        show Steps p.tables e below (T1.setTop (mkF m 19 #[.val (.int p0), .val (.int (6 : Int32)), .val (.ref w_XYX_21), .unset, .unset] [(.int (3 : Int32)), (.int (6 : Int32))])) _
        refine XS.icmpNo X1.here hx rfl (hb hby at_19) rfl (feq (by decide : ¬ ((6 : Int32) = (3 : Int32)))).1 ?_
        show Steps p.tables e below (T1.setTop (mkF m 22 #[.val (.int p0), .val (.int (6 : Int32)), .val (.ref w_XYX_21), .unset, .unset] [])) _
        refine XS.iloadN X1.here hx rfl (hb hby at_22) rfl ?_
        show Steps p.tables e below (T1.setTop (mkF m 23 #[.val (.int p0), .val (.int (6 : Int32)), .val (.ref w_XYX_21), .unset, .unset] [(.int (6 : Int32))])) _
        refine XS.iconst X1.here hx rfl (hb hby at_23) ?_
        show Steps p.tables e below (T1.setTop (mkF m 24 #[.val (.int p0), .val (.int (6 : Int32)), .val (.ref w_XYX_21), .unset, .unset] [(.int (4 : Int32)), (.int (6 : Int32))])) _
        refine XS.icmpNo X1.here hx rfl (hb hby at_24) rfl (feq (by decide : ¬ ((6 : Int32) = (4 : Int32)))).1 ?_
        show Steps p.tables e below (T1.setTop (mkF m 27 #[.val (.int p0), .val (.int (6 : Int32)), .val (.ref w_XYX_21), .unset, .unset] [])) _
        refine XS.iloadN X1.here hx rfl (hb hby at_27) rfl ?_
        show Steps p.tables e below (T1.setTop (mkF m 28 #[.val (.int p0), .val (.int (6 : Int32)), .val (.ref w_XYX_21), .unset, .unset] [(.int (6 : Int32))])) _
        refine XS.bipush X1.here hx rfl (hb hby at_28) ?_
        show Steps p.tables e below (T1.setTop (mkF m 30 #[.val (.int p0), .val (.int (6 : Int32)), .val (.ref w_XYX_21), .unset, .unset] [(.int (6 : Int32)), (.int (6 : Int32))])) _
        refine XS.icmpYes X1.here hx rfl (pc0 := 30) (pc' := 45) rfl (hb hby at_30) rfl (teq (rfl : (6 : Int32) = (6 : Int32))).1 (by decide) (by decide) ?_
        show Steps p.tables e below (T1.setTop (mkF m 45 #[.val (.int p0), .val (.int (6 : Int32)), .val (.ref w_XYX_21), .unset, .unset] [])) _
        refine XS.dconst1 X1.here hx rfl (hb hby at_45) rfl ?_
        show Steps p.tables e below (T1.setTop (mkF m 46 #[.val (.int p0), .val (.int (6 : Int32)), .val (.ref w_XYX_21), .unset, .unset] [(.double FP.dconst1)])) _
        refine XS.goto X1.here hx rfl (pc0 := 46) (pc' := 52) rfl (hb hby at_46) (by decide) (by decide) ?_
        show Steps p.tables e below (T1.setTop (mkF m 52 #[.val (.int p0), .val (.int (6 : Int32)), .val (.ref w_XYX_21), .unset, .unset] [(.double FP.dconst1)])) _
        refine XS.dstoreN X1.here hx rfl (hb hby at_52) rfl (l' := #[.val (.int p0), .val (.int (6 : Int32)), .val (.ref w_XYX_21), .val (.double FP.dconst1), .second]) rfl ?_
        show Steps p.tables e below (T1.setTop (mkF m 53 #[.val (.int p0), .val (.int (6 : Int32)), .val (.ref w_XYX_21), .val (.double FP.dconst1), .second] [])) _
        refine XS.aloadN X1.here hx rfl (hb hby at_53) rfl rfl ?_
        show Steps p.tables e below (T1.setTop (mkF m 54 #[.val (.int p0), .val (.int (6 : Int32)), .val (.ref w_XYX_21), .val (.double FP.dconst1), .second] [(.ref w_XYX_21)])) _
        refine st28.trans ?_
        exact kt)
    obtain rfl : FP.dconst1 = r29 := Pr29.1 (by decide)
    have pre31 : ∀ t, Steps p.tables e below (T28.setTop (mkF m 67 #[.val (.int p0), .val (.int (6 : Int32)), .val (.ref w_XYX_21), .val (.double FP.dconst1), .second] [(.int (1 : Int32))])) t → Steps p.tables e below (s₁.setTop (entryFrame m #[(.int p0)] maxLocals)) t := fun t kt => pre30 t (by
        show Steps p.tables e below (T28.setTop (mkF m 57 #[.val (.int p0), .val (.int (6 : Int32)), .val (.ref w_XYX_21), .val (.double FP.dconst1), .second] [(.double FP.dconst1)])) _
        refine XS.dloadN X28.here hx rfl (hb hby at_57) rfl ?_
        show Steps p.tables e below (T28.setTop (mkF m 58 #[.val (.int p0), .val (.int (6 : Int32)), .val (.ref w_XYX_21), .val (.double FP.dconst1), .second] [(.double FP.dconst1), (.double FP.dconst1)])) _
        refine XS.dcmpS X28.here hx rfl (hb hby at_58) rfl (v := (0 : Int32)) (by decide +kernel) ?_
        show Steps p.tables e below (T28.setTop (mkF m 59 #[.val (.int p0), .val (.int (6 : Int32)), .val (.ref w_XYX_21), .val (.double FP.dconst1), .second] [(.int (0 : Int32))])) _
        refine XS.ifNo X28.here hx rfl (hb hby at_59) rfl ((if0 _ _).trans (teq (rfl : (0 : Int32) = (0 : Int32))).2) ?_
        show Steps p.tables e below (T28.setTop (mkF m 62 #[.val (.int p0), .val (.int (6 : Int32)), .val (.ref w_XYX_21), .val (.double FP.dconst1), .second] [])) _
        refine XS.iconst X28.here hx rfl (hb hby at_62) ?_
        show Steps p.tables e below (T28.setTop (mkF m 63 #[.val (.int p0), .val (.int (6 : Int32)), .val (.ref w_XYX_21), .val (.double FP.dconst1), .second] [(.int (1 : Int32))])) _
        refine XS.goto X28.here hx rfl (pc0 := 63) (pc' := 67) rfl (hb hby at_63) (by decide) (by decide) ?_
        exact kt)
    obtain ⟨fs, hr, hrun, hended, hW, hsame⟩ := X28.leave (v := some (.int (1 : Int32))) (fun h => by rw [Bd.returns] at h; cases h)
    refine ⟨_, _, pre31 _ ?_, hrun, hended, _, _, rfl, ?_, ⟨_, rfl⟩, hW, hsame.mono (by decide) (by decide)⟩
    · show Steps p.tables e below (T28.setTop (mkF m 67 #[.val (.int p0), .val (.int (6 : Int32)), .val (.ref w_XYX_21), .val (.double FP.dconst1), .second] [(.int (1 : Int32))])) _
      exact retN X28 hx (t := .boolean) Bd.returns (by simp) (hb hby at_67) hr
    · show Q0 Z _ _ _ _ _ _ _ _ _ _ _ _ _ h0 n0 _ T28.heap _
      rw [e28]
      exact ⟨rfl, N28, rfl⟩
  · skip
    obtain ⟨cq32, kq32, q32a, q32b, q32c⟩ := isOf hZ e1 E_13
    obtain ⟨_, _, ⟨T32, L32, k32, n32⟩, -, X32, ⟨Lc32, hQ32, l32, y32, z32⟩, st32⟩ := X1.virtualBack hx (y := (⟨"com/example/rotarium/rotarium/EulerSequence", "parity", "()D"⟩ : MethodName)) (z := (⟨"com/example/rotarium/rotarium/EulerSequence", "parity", "()D"⟩ : MethodName)) hown (mvT hZ (hw _ (List.mem_of_getElem? (i := 8) rfl))) (mvT hZ (hw _ (List.mem_of_getElem? (i := 9) rfl))) (notFace_of_selects (args := #[]) (mvT hZ (hw _ (List.mem_of_getElem? (i := 11) rfl)))) (mvT hZ (hw _ (List.mem_of_getElem? (i := 11) rfl))) (mvT hZ (hw _ (List.mem_of_getElem? (i := 10) rfl))) (by decide) (backOf (W := 0) (rm2 l Z aw hw [] w_XZX_7 (2 : Int32) (0 : Int32) h0 n0 Z0 F_middleAxis_14 F_firstAxis_15) hZ (hw _ (List.mem_of_getElem? (i := 12) rfl)) (hw _ (List.mem_of_getElem? (i := 6) rfl)) (by decide) (by decide)) q32a q32c (g := (mkF m 54 #[.val (.int p0), .val (.int (7 : Int32)), .val (.ref w_XZX_7), .val (.double (13830554455654793216 : UInt64)), .second] [(.ref w_XZX_7)])) rfl (by rw [hml]; rfl) (Steps.refl _) (argsL := []) (rest := []) (lenOf pd_1 rfl) rfl (by show 2 * 0 + _ ≤ _; exact Nat.le_of_eq rfl) (hb hby at_54) (fun _ _ => ⟨rfl, e1, (by decide : 0 + 0 ≤ _), (by decide : 0 + 0 ≤ _)⟩)
    dsimp only [Pt.U, Pt.locs, Pt.cells, Pt.slots] at X32 l32 y32 z32 st32 hQ32
    subst l32 y32 z32
    obtain ⟨⟨r33, rfl, Pr33⟩, Nq32, e32⟩ := hQ32
    have N32 := Fr.app N1 Nq32
    have pre34 : ∀ t, Steps p.tables e below (T32.setTop (mkF m 57 #[.val (.int p0), .val (.int (7 : Int32)), .val (.ref w_XZX_7), .val (.double (13830554455654793216 : UInt64)), .second] [(.double r33)])) t → Steps p.tables e below (s₁.setTop (entryFrame m #[(.int p0)] maxLocals)) t := fun t kt => pre3 t (by
        show Steps p.tables e below (T1.setTop (mkF m 12 #[.val (.int p0), .val (.int (7 : Int32)), .unset, .unset, .unset] [(.ref w_XZX_7)])) _
        refine XS.astoreN X1.here hx rfl (hb hby at_12) rfl rfl (l' := #[.val (.int p0), .val (.int (7 : Int32)), .val (.ref w_XZX_7), .unset, .unset]) rfl ?_
        show Steps p.tables e below (T1.setTop (mkF m 13 #[.val (.int p0), .val (.int (7 : Int32)), .val (.ref w_XZX_7), .unset, .unset] [])) _
        refine XS.iloadN X1.here hx rfl (hb hby at_13) rfl ?_
        show Steps p.tables e below (T1.setTop (mkF m 14 #[.val (.int p0), .val (.int (7 : Int32)), .val (.ref w_XZX_7), .unset, .unset] [(.int (7 : Int32))])) _
        refine XS.ifNo X1.here hx rfl (hb hby at_14) rfl ((if0 _ _).trans (feq (by decide : ¬ ((7 : Int32) = (0 : Int32)))).1) ?_
        show Steps p.tables e below (T1.setTop (mkF m 17 #[.val (.int p0), .val (.int (7 : Int32)), .val (.ref w_XZX_7), .unset, .unset] [])) _
        refine XS.iloadN X1.here hx rfl (hb hby at_17) rfl ?_
        show Steps p.tables e below (T1.setTop (mkF m 18 #[.val (.int p0), .val (.int (7 : Int32)), .val (.ref w_XZX_7), .unset, .unset] [(.int (7 : Int32))])) _
        refine XS.iconst X1.here hx rfl (hb hby at_18) ?_
        show Steps p.tables e below (T1.setTop (mkF m 19 #[.val (.int p0), .val (.int (7 : Int32)), .val (.ref w_XZX_7), .unset, .unset] [(.int (3 : Int32)), (.int (7 : Int32))])) _
        refine XS.icmpNo X1.here hx rfl (hb hby at_19) rfl (feq (by decide : ¬ ((7 : Int32) = (3 : Int32)))).1 ?_
        show Steps p.tables e below (T1.setTop (mkF m 22 #[.val (.int p0), .val (.int (7 : Int32)), .val (.ref w_XZX_7), .unset, .unset] [])) _
        refine XS.iloadN X1.here hx rfl (hb hby at_22) rfl ?_
        show Steps p.tables e below (T1.setTop (mkF m 23 #[.val (.int p0), .val (.int (7 : Int32)), .val (.ref w_XZX_7), .unset, .unset] [(.int (7 : Int32))])) _
        refine XS.iconst X1.here hx rfl (hb hby at_23) ?_
        show Steps p.tables e below (T1.setTop (mkF m 24 #[.val (.int p0), .val (.int (7 : Int32)), .val (.ref w_XZX_7), .unset, .unset] [(.int (4 : Int32)), (.int (7 : Int32))])) _
        refine XS.icmpNo X1.here hx rfl (hb hby at_24) rfl (feq (by decide : ¬ ((7 : Int32) = (4 : Int32)))).1 ?_
        show Steps p.tables e below (T1.setTop (mkF m 27 #[.val (.int p0), .val (.int (7 : Int32)), .val (.ref w_XZX_7), .unset, .unset] [])) _
        refine XS.iloadN X1.here hx rfl (hb hby at_27) rfl ?_
        show Steps p.tables e below (T1.setTop (mkF m 28 #[.val (.int p0), .val (.int (7 : Int32)), .val (.ref w_XZX_7), .unset, .unset] [(.int (7 : Int32))])) _
        refine XS.bipush X1.here hx rfl (hb hby at_28) ?_
        show Steps p.tables e below (T1.setTop (mkF m 30 #[.val (.int p0), .val (.int (7 : Int32)), .val (.ref w_XZX_7), .unset, .unset] [(.int (6 : Int32)), (.int (7 : Int32))])) _
        refine XS.icmpNo X1.here hx rfl (hb hby at_30) rfl (feq (by decide : ¬ ((7 : Int32) = (6 : Int32)))).1 ?_
        show Steps p.tables e below (T1.setTop (mkF m 33 #[.val (.int p0), .val (.int (7 : Int32)), .val (.ref w_XZX_7), .unset, .unset] [])) _
        refine XS.iloadN X1.here hx rfl (hb hby at_33) rfl ?_
        show Steps p.tables e below (T1.setTop (mkF m 34 #[.val (.int p0), .val (.int (7 : Int32)), .val (.ref w_XZX_7), .unset, .unset] [(.int (7 : Int32))])) _
        refine XS.bipush X1.here hx rfl (hb hby at_34) ?_
        show Steps p.tables e below (T1.setTop (mkF m 36 #[.val (.int p0), .val (.int (7 : Int32)), .val (.ref w_XZX_7), .unset, .unset] [(.int (9 : Int32)), (.int (7 : Int32))])) _
        refine XS.icmpNo X1.here hx rfl (hb hby at_36) rfl (feq (by decide : ¬ ((7 : Int32) = (9 : Int32)))).1 ?_
        show Steps p.tables e below (T1.setTop (mkF m 39 #[.val (.int p0), .val (.int (7 : Int32)), .val (.ref w_XZX_7), .unset, .unset] [])) _
        refine XS.iloadN X1.here hx rfl (hb hby at_39) rfl ?_
        show Steps p.tables e below (T1.setTop (mkF m 40 #[.val (.int p0), .val (.int (7 : Int32)), .val (.ref w_XZX_7), .unset, .unset] [(.int (7 : Int32))])) _
        refine XS.bipush X1.here hx rfl (hb hby at_40) ?_
        show Steps p.tables e below (T1.setTop (mkF m 42 #[.val (.int p0), .val (.int (7 : Int32)), .val (.ref w_XZX_7), .unset, .unset] [(.int (10 : Int32)), (.int (7 : Int32))])) _
        refine XS.icmpYes X1.here hx rfl (pc0 := 42) (pc' := 49) rfl (hb hby at_42) rfl (feq (by decide : ¬ ((7 : Int32) = (10 : Int32)))).2 (by decide) (by decide) ?_
        show Steps p.tables e below (T1.setTop (mkF m 49 #[.val (.int p0), .val (.int (7 : Int32)), .val (.ref w_XZX_7), .unset, .unset] [])) _
        refine X1.ldc2DoubleC hx hown (mvT hZ (hw _ (List.mem_of_getElem? (i := 21) rfl))) (g := (mkF m 49 #[.val (.int p0), .val (.int (7 : Int32)), .val (.ref w_XZX_7), .unset, .unset] [])) rfl (hb hby at_49) _ ?_
        show Steps p.tables e below (T1.setTop (mkF m 52 #[.val (.int p0), .val (.int (7 : Int32)), .val (.ref w_XZX_7), .unset, .unset] [(.double (13830554455654793216 : UInt64))])) _
        refine XS.dstoreN X1.here hx rfl (hb hby at_52) rfl (l' := #[.val (.int p0), .val (.int (7 : Int32)), .val (.ref w_XZX_7), .val (.double (13830554455654793216 : UInt64)), .second]) rfl ?_
        show Steps p.tables e below (T1.setTop (mkF m 53 #[.val (.int p0), .val (.int (7 : Int32)), .val (.ref w_XZX_7), .val (.double (13830554455654793216 : UInt64)), .second] [])) _
        refine XS.aloadN X1.here hx rfl (hb hby at_53) rfl rfl ?_
        show Steps p.tables e below (T1.setTop (mkF m 54 #[.val (.int p0), .val (.int (7 : Int32)), .val (.ref w_XZX_7), .val (.double (13830554455654793216 : UInt64)), .second] [(.ref w_XZX_7)])) _
        refine st32.trans ?_
        exact kt)
    obtain rfl : (13830554455654793216 : UInt64) = r33 := Pr33.2 (by decide)
    have pre35 : ∀ t, Steps p.tables e below (T32.setTop (mkF m 67 #[.val (.int p0), .val (.int (7 : Int32)), .val (.ref w_XZX_7), .val (.double (13830554455654793216 : UInt64)), .second] [(.int (1 : Int32))])) t → Steps p.tables e below (s₁.setTop (entryFrame m #[(.int p0)] maxLocals)) t := fun t kt => pre34 t (by
        show Steps p.tables e below (T32.setTop (mkF m 57 #[.val (.int p0), .val (.int (7 : Int32)), .val (.ref w_XZX_7), .val (.double (13830554455654793216 : UInt64)), .second] [(.double (13830554455654793216 : UInt64))])) _
        refine XS.dloadN X32.here hx rfl (hb hby at_57) rfl ?_
        show Steps p.tables e below (T32.setTop (mkF m 58 #[.val (.int p0), .val (.int (7 : Int32)), .val (.ref w_XZX_7), .val (.double (13830554455654793216 : UInt64)), .second] [(.double (13830554455654793216 : UInt64)), (.double (13830554455654793216 : UInt64))])) _
        refine XS.dcmpS X32.here hx rfl (hb hby at_58) rfl (v := (0 : Int32)) (by decide +kernel) ?_
        show Steps p.tables e below (T32.setTop (mkF m 59 #[.val (.int p0), .val (.int (7 : Int32)), .val (.ref w_XZX_7), .val (.double (13830554455654793216 : UInt64)), .second] [(.int (0 : Int32))])) _
        refine XS.ifNo X32.here hx rfl (hb hby at_59) rfl ((if0 _ _).trans (teq (rfl : (0 : Int32) = (0 : Int32))).2) ?_
        show Steps p.tables e below (T32.setTop (mkF m 62 #[.val (.int p0), .val (.int (7 : Int32)), .val (.ref w_XZX_7), .val (.double (13830554455654793216 : UInt64)), .second] [])) _
        refine XS.iconst X32.here hx rfl (hb hby at_62) ?_
        show Steps p.tables e below (T32.setTop (mkF m 63 #[.val (.int p0), .val (.int (7 : Int32)), .val (.ref w_XZX_7), .val (.double (13830554455654793216 : UInt64)), .second] [(.int (1 : Int32))])) _
        refine XS.goto X32.here hx rfl (pc0 := 63) (pc' := 67) rfl (hb hby at_63) (by decide) (by decide) ?_
        exact kt)
    obtain ⟨fs, hr, hrun, hended, hW, hsame⟩ := X32.leave (v := some (.int (1 : Int32))) (fun h => by rw [Bd.returns] at h; cases h)
    refine ⟨_, _, pre35 _ ?_, hrun, hended, _, _, rfl, ?_, ⟨_, rfl⟩, hW, hsame.mono (by decide) (by decide)⟩
    · show Steps p.tables e below (T32.setTop (mkF m 67 #[.val (.int p0), .val (.int (7 : Int32)), .val (.ref w_XZX_7), .val (.double (13830554455654793216 : UInt64)), .second] [(.int (1 : Int32))])) _
      exact retN X32 hx (t := .boolean) Bd.returns (by simp) (hb hby at_67) hr
    · show Q0 Z _ _ _ _ _ _ _ _ _ _ _ _ _ h0 n0 _ T32.heap _
      rw [e32]
      exact ⟨rfl, N32, rfl⟩
  · skip
    obtain ⟨cq36, kq36, q36a, q36b, q36c⟩ := isOf hZ e1 E_25
    obtain ⟨_, _, ⟨T36, L36, k36, n36⟩, -, X36, ⟨Lc36, hQ36, l36, y36, z36⟩, st36⟩ := X1.virtualBack hx (y := (⟨"com/example/rotarium/rotarium/EulerSequence", "parity", "()D"⟩ : MethodName)) (z := (⟨"com/example/rotarium/rotarium/EulerSequence", "parity", "()D"⟩ : MethodName)) hown (mvT hZ (hw _ (List.mem_of_getElem? (i := 8) rfl))) (mvT hZ (hw _ (List.mem_of_getElem? (i := 9) rfl))) (notFace_of_selects (args := #[]) (mvT hZ (hw _ (List.mem_of_getElem? (i := 11) rfl)))) (mvT hZ (hw _ (List.mem_of_getElem? (i := 11) rfl))) (mvT hZ (hw _ (List.mem_of_getElem? (i := 10) rfl))) (by decide) (backOf (W := 0) (rm2 l Z aw hw [] w_YXY_13 (0 : Int32) (1 : Int32) h0 n0 Z0 F_middleAxis_26 F_firstAxis_27) hZ (hw _ (List.mem_of_getElem? (i := 12) rfl)) (hw _ (List.mem_of_getElem? (i := 6) rfl)) (by decide) (by decide)) q36a q36c (g := (mkF m 54 #[.val (.int p0), .val (.int (8 : Int32)), .val (.ref w_YXY_13), .val (.double (13830554455654793216 : UInt64)), .second] [(.ref w_YXY_13)])) rfl (by rw [hml]; rfl) (Steps.refl _) (argsL := []) (rest := []) (lenOf pd_1 rfl) rfl (by show 2 * 0 + _ ≤ _; exact Nat.le_of_eq rfl) (hb hby at_54) (fun _ _ => ⟨rfl, e1, (by decide : 0 + 0 ≤ _), (by decide : 0 + 0 ≤ _)⟩)
    dsimp only [Pt.U, Pt.locs, Pt.cells, Pt.slots] at X36 l36 y36 z36 st36 hQ36
    subst l36 y36 z36
    obtain ⟨⟨r37, rfl, Pr37⟩, Nq36, e36⟩ := hQ36
    have N36 := Fr.app N1 Nq36
    have pre38 : ∀ t, Steps p.tables e below (T36.setTop (mkF m 57 #[.val (.int p0), .val (.int (8 : Int32)), .val (.ref w_YXY_13), .val (.double (13830554455654793216 : UInt64)), .second] [(.double r37)])) t → Steps p.tables e below (s₁.setTop (entryFrame m #[(.int p0)] maxLocals)) t := fun t kt => pre3 t (by
        show Steps p.tables e below (T1.setTop (mkF m 12 #[.val (.int p0), .val (.int (8 : Int32)), .unset, .unset, .unset] [(.ref w_YXY_13)])) _
        refine XS.astoreN X1.here hx rfl (hb hby at_12) rfl rfl (l' := #[.val (.int p0), .val (.int (8 : Int32)), .val (.ref w_YXY_13), .unset, .unset]) rfl ?_
        show Steps p.tables e below (T1.setTop (mkF m 13 #[.val (.int p0), .val (.int (8 : Int32)), .val (.ref w_YXY_13), .unset, .unset] [])) _
        refine XS.iloadN X1.here hx rfl (hb hby at_13) rfl ?_
        show Steps p.tables e below (T1.setTop (mkF m 14 #[.val (.int p0), .val (.int (8 : Int32)), .val (.ref w_YXY_13), .unset, .unset] [(.int (8 : Int32))])) _
        refine XS.ifNo X1.here hx rfl (hb hby at_14) rfl ((if0 _ _).trans (feq (by decide : ¬ ((8 : Int32) = (0 : Int32)))).1) ?_
        show Steps p.tables e below (T1.setTop (mkF m 17 #[.val (.int p0), .val (.int (8 : Int32)), .val (.ref w_YXY_13), .unset, .unset] [])) _
        refine XS.iloadN X1.here hx rfl (hb hby at_17) rfl ?_
        show Steps p.tables e below (T1.setTop (mkF m 18 #[.val (.int p0), .val (.int (8 : Int32)), .val (.ref w_YXY_13), .unset, .unset] [(.int (8 : Int32))])) _
        refine XS.iconst X1.here hx rfl (hb hby at_18) ?_
        show Steps p.tables e below (T1.setTop (mkF m 19 #[.val (.int p0), .val (.int (8 : Int32)), .val (.ref w_YXY_13), .unset, .unset] [(.int (3 : Int32)), (.int (8 : Int32))])) _
        refine XS.icmpNo X1.here hx rfl (hb hby at_19) rfl (feq (by decide : ¬ ((8 : Int32) = (3 : Int32)))).1 ?_
        show Steps p.tables e below (T1.setTop (mkF m 22 #[.val (.int p0), .val (.int (8 : Int32)), .val (.ref w_YXY_13), .unset, .unset] [])) _
        refine XS.iloadN X1.here hx rfl (hb hby at_22) rfl ?_
        show Steps p.tables e below (T1.setTop (mkF m 23 #[.val (.int p0), .val (.int (8 : Int32)), .val (.ref w_YXY_13), .unset, .unset] [(.int (8 : Int32))])) _
        refine XS.iconst X1.here hx rfl (hb hby at_23) ?_
        show Steps p.tables e below (T1.setTop (mkF m 24 #[.val (.int p0), .val (.int (8 : Int32)), .val (.ref w_YXY_13), .unset, .unset] [(.int (4 : Int32)), (.int (8 : Int32))])) _
        refine XS.icmpNo X1.here hx rfl (hb hby at_24) rfl (feq (by decide : ¬ ((8 : Int32) = (4 : Int32)))).1 ?_
        show Steps p.tables e below (T1.setTop (mkF m 27 #[.val (.int p0), .val (.int (8 : Int32)), .val (.ref w_YXY_13), .unset, .unset] [])) _
        refine XS.iloadN X1.here hx rfl (hb hby at_27) rfl ?_
        show Steps p.tables e below (T1.setTop (mkF m 28 #[.val (.int p0), .val (.int (8 : Int32)), .val (.ref w_YXY_13), .unset, .unset] [(.int (8 : Int32))])) _
        refine XS.bipush X1.here hx rfl (hb hby at_28) ?_
        show Steps p.tables e below (T1.setTop (mkF m 30 #[.val (.int p0), .val (.int (8 : Int32)), .val (.ref w_YXY_13), .unset, .unset] [(.int (6 : Int32)), (.int (8 : Int32))])) _
        refine XS.icmpNo X1.here hx rfl (hb hby at_30) rfl (feq (by decide : ¬ ((8 : Int32) = (6 : Int32)))).1 ?_
        show Steps p.tables e below (T1.setTop (mkF m 33 #[.val (.int p0), .val (.int (8 : Int32)), .val (.ref w_YXY_13), .unset, .unset] [])) _
        refine XS.iloadN X1.here hx rfl (hb hby at_33) rfl ?_
        show Steps p.tables e below (T1.setTop (mkF m 34 #[.val (.int p0), .val (.int (8 : Int32)), .val (.ref w_YXY_13), .unset, .unset] [(.int (8 : Int32))])) _
        refine XS.bipush X1.here hx rfl (hb hby at_34) ?_
        show Steps p.tables e below (T1.setTop (mkF m 36 #[.val (.int p0), .val (.int (8 : Int32)), .val (.ref w_YXY_13), .unset, .unset] [(.int (9 : Int32)), (.int (8 : Int32))])) _
        refine XS.icmpNo X1.here hx rfl (hb hby at_36) rfl (feq (by decide : ¬ ((8 : Int32) = (9 : Int32)))).1 ?_
        show Steps p.tables e below (T1.setTop (mkF m 39 #[.val (.int p0), .val (.int (8 : Int32)), .val (.ref w_YXY_13), .unset, .unset] [])) _
        refine XS.iloadN X1.here hx rfl (hb hby at_39) rfl ?_
        show Steps p.tables e below (T1.setTop (mkF m 40 #[.val (.int p0), .val (.int (8 : Int32)), .val (.ref w_YXY_13), .unset, .unset] [(.int (8 : Int32))])) _
        refine XS.bipush X1.here hx rfl (hb hby at_40) ?_
        show Steps p.tables e below (T1.setTop (mkF m 42 #[.val (.int p0), .val (.int (8 : Int32)), .val (.ref w_YXY_13), .unset, .unset] [(.int (10 : Int32)), (.int (8 : Int32))])) _
        refine XS.icmpYes X1.here hx rfl (pc0 := 42) (pc' := 49) rfl (hb hby at_42) rfl (feq (by decide : ¬ ((8 : Int32) = (10 : Int32)))).2 (by decide) (by decide) ?_
        show Steps p.tables e below (T1.setTop (mkF m 49 #[.val (.int p0), .val (.int (8 : Int32)), .val (.ref w_YXY_13), .unset, .unset] [])) _
        refine X1.ldc2DoubleC hx hown (mvT hZ (hw _ (List.mem_of_getElem? (i := 21) rfl))) (g := (mkF m 49 #[.val (.int p0), .val (.int (8 : Int32)), .val (.ref w_YXY_13), .unset, .unset] [])) rfl (hb hby at_49) _ ?_
        show Steps p.tables e below (T1.setTop (mkF m 52 #[.val (.int p0), .val (.int (8 : Int32)), .val (.ref w_YXY_13), .unset, .unset] [(.double (13830554455654793216 : UInt64))])) _
        refine XS.dstoreN X1.here hx rfl (hb hby at_52) rfl (l' := #[.val (.int p0), .val (.int (8 : Int32)), .val (.ref w_YXY_13), .val (.double (13830554455654793216 : UInt64)), .second]) rfl ?_
        show Steps p.tables e below (T1.setTop (mkF m 53 #[.val (.int p0), .val (.int (8 : Int32)), .val (.ref w_YXY_13), .val (.double (13830554455654793216 : UInt64)), .second] [])) _
        refine XS.aloadN X1.here hx rfl (hb hby at_53) rfl rfl ?_
        show Steps p.tables e below (T1.setTop (mkF m 54 #[.val (.int p0), .val (.int (8 : Int32)), .val (.ref w_YXY_13), .val (.double (13830554455654793216 : UInt64)), .second] [(.ref w_YXY_13)])) _
        refine st36.trans ?_
        exact kt)
    obtain rfl : (13830554455654793216 : UInt64) = r37 := Pr37.2 (by decide)
    have pre39 : ∀ t, Steps p.tables e below (T36.setTop (mkF m 67 #[.val (.int p0), .val (.int (8 : Int32)), .val (.ref w_YXY_13), .val (.double (13830554455654793216 : UInt64)), .second] [(.int (1 : Int32))])) t → Steps p.tables e below (s₁.setTop (entryFrame m #[(.int p0)] maxLocals)) t := fun t kt => pre38 t (by
        show Steps p.tables e below (T36.setTop (mkF m 57 #[.val (.int p0), .val (.int (8 : Int32)), .val (.ref w_YXY_13), .val (.double (13830554455654793216 : UInt64)), .second] [(.double (13830554455654793216 : UInt64))])) _
        refine XS.dloadN X36.here hx rfl (hb hby at_57) rfl ?_
        show Steps p.tables e below (T36.setTop (mkF m 58 #[.val (.int p0), .val (.int (8 : Int32)), .val (.ref w_YXY_13), .val (.double (13830554455654793216 : UInt64)), .second] [(.double (13830554455654793216 : UInt64)), (.double (13830554455654793216 : UInt64))])) _
        refine XS.dcmpS X36.here hx rfl (hb hby at_58) rfl (v := (0 : Int32)) (by decide +kernel) ?_
        show Steps p.tables e below (T36.setTop (mkF m 59 #[.val (.int p0), .val (.int (8 : Int32)), .val (.ref w_YXY_13), .val (.double (13830554455654793216 : UInt64)), .second] [(.int (0 : Int32))])) _
        refine XS.ifNo X36.here hx rfl (hb hby at_59) rfl ((if0 _ _).trans (teq (rfl : (0 : Int32) = (0 : Int32))).2) ?_
        show Steps p.tables e below (T36.setTop (mkF m 62 #[.val (.int p0), .val (.int (8 : Int32)), .val (.ref w_YXY_13), .val (.double (13830554455654793216 : UInt64)), .second] [])) _
        refine XS.iconst X36.here hx rfl (hb hby at_62) ?_
        show Steps p.tables e below (T36.setTop (mkF m 63 #[.val (.int p0), .val (.int (8 : Int32)), .val (.ref w_YXY_13), .val (.double (13830554455654793216 : UInt64)), .second] [(.int (1 : Int32))])) _
        refine XS.goto X36.here hx rfl (pc0 := 63) (pc' := 67) rfl (hb hby at_63) (by decide) (by decide) ?_
        exact kt)
    obtain ⟨fs, hr, hrun, hended, hW, hsame⟩ := X36.leave (v := some (.int (1 : Int32))) (fun h => by rw [Bd.returns] at h; cases h)
    refine ⟨_, _, pre39 _ ?_, hrun, hended, _, _, rfl, ?_, ⟨_, rfl⟩, hW, hsame.mono (by decide) (by decide)⟩
    · show Steps p.tables e below (T36.setTop (mkF m 67 #[.val (.int p0), .val (.int (8 : Int32)), .val (.ref w_YXY_13), .val (.double (13830554455654793216 : UInt64)), .second] [(.int (1 : Int32))])) _
      exact retN X36 hx (t := .boolean) Bd.returns (by simp) (hb hby at_67) hr
    · show Q0 Z _ _ _ _ _ _ _ _ _ _ _ _ _ h0 n0 _ T36.heap _
      rw [e36]
      exact ⟨rfl, N36, rfl⟩
  · skip
    obtain ⟨cq40, kq40, q40a, q40b, q40c⟩ := isOf hZ e1 E_37
    obtain ⟨_, _, ⟨T40, L40, k40, n40⟩, -, X40, ⟨Lc40, hQ40, l40, y40, z40⟩, st40⟩ := X1.virtualBack hx (y := (⟨"com/example/rotarium/rotarium/EulerSequence", "parity", "()D"⟩ : MethodName)) (z := (⟨"com/example/rotarium/rotarium/EulerSequence", "parity", "()D"⟩ : MethodName)) hown (mvT hZ (hw _ (List.mem_of_getElem? (i := 8) rfl))) (mvT hZ (hw _ (List.mem_of_getElem? (i := 9) rfl))) (notFace_of_selects (args := #[]) (mvT hZ (hw _ (List.mem_of_getElem? (i := 11) rfl)))) (mvT hZ (hw _ (List.mem_of_getElem? (i := 11) rfl))) (mvT hZ (hw _ (List.mem_of_getElem? (i := 10) rfl))) (by decide) (backOf (W := 0) (rm2 l Z aw hw [] w_YZY_19 (2 : Int32) (1 : Int32) h0 n0 Z0 F_middleAxis_38 F_firstAxis_39) hZ (hw _ (List.mem_of_getElem? (i := 12) rfl)) (hw _ (List.mem_of_getElem? (i := 6) rfl)) (by decide) (by decide)) q40a q40c (g := (mkF m 54 #[.val (.int p0), .val (.int (9 : Int32)), .val (.ref w_YZY_19), .val (.double FP.dconst1), .second] [(.ref w_YZY_19)])) rfl (by rw [hml]; rfl) (Steps.refl _) (argsL := []) (rest := []) (lenOf pd_1 rfl) rfl (by show 2 * 0 + _ ≤ _; exact Nat.le_of_eq rfl) (hb hby at_54) (fun _ _ => ⟨rfl, e1, (by decide : 0 + 0 ≤ _), (by decide : 0 + 0 ≤ _)⟩)
    dsimp only [Pt.U, Pt.locs, Pt.cells, Pt.slots] at X40 l40 y40 z40 st40 hQ40
    subst l40 y40 z40
    obtain ⟨⟨r41, rfl, Pr41⟩, Nq40, e40⟩ := hQ40
    have N40 := Fr.app N1 Nq40
    have pre42 : ∀ t, Steps p.tables e below (T40.setTop (mkF m 57 #[.val (.int p0), .val (.int (9 : Int32)), .val (.ref w_YZY_19), .val (.double FP.dconst1), .second] [(.double r41)])) t → Steps p.tables e below (s₁.setTop (entryFrame m #[(.int p0)] maxLocals)) t := fun t kt => pre3 t (by
        show Steps p.tables e below (T1.setTop (mkF m 12 #[.val (.int p0), .val (.int (9 : Int32)), .unset, .unset, .unset] [(.ref w_YZY_19)])) _
        refine XS.astoreN X1.here hx rfl (hb hby at_12) rfl rfl (l' := #[.val (.int p0), .val (.int (9 : Int32)), .val (.ref w_YZY_19), .unset, .unset]) rfl ?_
        show Steps p.tables e below (T1.setTop (mkF m 13 #[.val (.int p0), .val (.int (9 : Int32)), .val (.ref w_YZY_19), .unset, .unset] [])) _
        refine XS.iloadN X1.here hx rfl (hb hby at_13) rfl ?_
        show Steps p.tables e below (T1.setTop (mkF m 14 #[.val (.int p0), .val (.int (9 : Int32)), .val (.ref w_YZY_19), .unset, .unset] [(.int (9 : Int32))])) _
        refine XS.ifNo X1.here hx rfl (hb hby at_14) rfl ((if0 _ _).trans (feq (by decide : ¬ ((9 : Int32) = (0 : Int32)))).1) ?_
        show Steps p.tables e below (T1.setTop (mkF m 17 #[.val (.int p0), .val (.int (9 : Int32)), .val (.ref w_YZY_19), .unset, .unset] [])) _
        refine XS.iloadN X1.here hx rfl (hb hby at_17) rfl ?_
        show Steps p.tables e below (T1.setTop (mkF m 18 #[.val (.int p0), .val (.int (9 : Int32)), .val (.ref w_YZY_19), .unset, .unset] [(.int (9 : Int32))])) _
        refine XS.iconst X1.here hx rfl (hb hby at_18) ?_
        show Steps p.tables e below (T1.setTop (mkF m 19 #[.val (.int p0), .val (.int (9 : Int32)), .val (.ref w_YZY_19), .unset, .unset] [(.int (3 : Int32)), (.int (9 : Int32))])) _
        refine XS.icmpNo X1.here hx rfl (hb hby at_19) rfl (feq (by decide : ¬ ((9 : Int32) = (3 : Int32)))).1 ?_
        show Steps p.tables e below (T1.setTop (mkF m 22 #[.val (.int p0), .val (.int (9 : Int32)), .val (.ref w_YZY_19), .unset, .unset] [])) _
        refine XS.iloadN X1.here hx rfl (hb hby at_22) rfl ?_
        show Steps p.tables e below (T1.setTop (mkF m 23 #[.val (.int p0), .val (.int (9 : Int32)), .val (.ref w_YZY_19), .unset, .unset] [(.int (9 : Int32))])) _
        refine XS.iconst X1.here hx rfl (hb hby at_23) ?_
        show Steps p.tables e below (T1.setTop (mkF m 24 #[.val (.int p0), .val (.int (9 : Int32)), .val (.ref w_YZY_19), .unset, .unset] [(.int (4 : Int32)), (.int (9 : Int32))])) _
        refine XS.icmpNo X1.here hx rfl (hb hby at_24) rfl (feq (by decide : ¬ ((9 : Int32) = (4 : Int32)))).1 ?_
        show Steps p.tables e below (T1.setTop (mkF m 27 #[.val (.int p0), .val (.int (9 : Int32)), .val (.ref w_YZY_19), .unset, .unset] [])) _
        refine XS.iloadN X1.here hx rfl (hb hby at_27) rfl ?_
        show Steps p.tables e below (T1.setTop (mkF m 28 #[.val (.int p0), .val (.int (9 : Int32)), .val (.ref w_YZY_19), .unset, .unset] [(.int (9 : Int32))])) _
        refine XS.bipush X1.here hx rfl (hb hby at_28) ?_
        show Steps p.tables e below (T1.setTop (mkF m 30 #[.val (.int p0), .val (.int (9 : Int32)), .val (.ref w_YZY_19), .unset, .unset] [(.int (6 : Int32)), (.int (9 : Int32))])) _
        refine XS.icmpNo X1.here hx rfl (hb hby at_30) rfl (feq (by decide : ¬ ((9 : Int32) = (6 : Int32)))).1 ?_
        show Steps p.tables e below (T1.setTop (mkF m 33 #[.val (.int p0), .val (.int (9 : Int32)), .val (.ref w_YZY_19), .unset, .unset] [])) _
        refine XS.iloadN X1.here hx rfl (hb hby at_33) rfl ?_
        show Steps p.tables e below (T1.setTop (mkF m 34 #[.val (.int p0), .val (.int (9 : Int32)), .val (.ref w_YZY_19), .unset, .unset] [(.int (9 : Int32))])) _
        refine XS.bipush X1.here hx rfl (hb hby at_34) ?_
        show Steps p.tables e below (T1.setTop (mkF m 36 #[.val (.int p0), .val (.int (9 : Int32)), .val (.ref w_YZY_19), .unset, .unset] [(.int (9 : Int32)), (.int (9 : Int32))])) _
        refine XS.icmpYes X1.here hx rfl (pc0 := 36) (pc' := 45) rfl (hb hby at_36) rfl (teq (rfl : (9 : Int32) = (9 : Int32))).1 (by decide) (by decide) ?_
        show Steps p.tables e below (T1.setTop (mkF m 45 #[.val (.int p0), .val (.int (9 : Int32)), .val (.ref w_YZY_19), .unset, .unset] [])) _
        refine XS.dconst1 X1.here hx rfl (hb hby at_45) rfl ?_
        show Steps p.tables e below (T1.setTop (mkF m 46 #[.val (.int p0), .val (.int (9 : Int32)), .val (.ref w_YZY_19), .unset, .unset] [(.double FP.dconst1)])) _
        refine XS.goto X1.here hx rfl (pc0 := 46) (pc' := 52) rfl (hb hby at_46) (by decide) (by decide) ?_
        show Steps p.tables e below (T1.setTop (mkF m 52 #[.val (.int p0), .val (.int (9 : Int32)), .val (.ref w_YZY_19), .unset, .unset] [(.double FP.dconst1)])) _
        refine XS.dstoreN X1.here hx rfl (hb hby at_52) rfl (l' := #[.val (.int p0), .val (.int (9 : Int32)), .val (.ref w_YZY_19), .val (.double FP.dconst1), .second]) rfl ?_
        show Steps p.tables e below (T1.setTop (mkF m 53 #[.val (.int p0), .val (.int (9 : Int32)), .val (.ref w_YZY_19), .val (.double FP.dconst1), .second] [])) _
        refine XS.aloadN X1.here hx rfl (hb hby at_53) rfl rfl ?_
        show Steps p.tables e below (T1.setTop (mkF m 54 #[.val (.int p0), .val (.int (9 : Int32)), .val (.ref w_YZY_19), .val (.double FP.dconst1), .second] [(.ref w_YZY_19)])) _
        refine st40.trans ?_
        exact kt)
    obtain rfl : FP.dconst1 = r41 := Pr41.1 (by decide)
    have pre43 : ∀ t, Steps p.tables e below (T40.setTop (mkF m 67 #[.val (.int p0), .val (.int (9 : Int32)), .val (.ref w_YZY_19), .val (.double FP.dconst1), .second] [(.int (1 : Int32))])) t → Steps p.tables e below (s₁.setTop (entryFrame m #[(.int p0)] maxLocals)) t := fun t kt => pre42 t (by
        show Steps p.tables e below (T40.setTop (mkF m 57 #[.val (.int p0), .val (.int (9 : Int32)), .val (.ref w_YZY_19), .val (.double FP.dconst1), .second] [(.double FP.dconst1)])) _
        refine XS.dloadN X40.here hx rfl (hb hby at_57) rfl ?_
        show Steps p.tables e below (T40.setTop (mkF m 58 #[.val (.int p0), .val (.int (9 : Int32)), .val (.ref w_YZY_19), .val (.double FP.dconst1), .second] [(.double FP.dconst1), (.double FP.dconst1)])) _
        refine XS.dcmpS X40.here hx rfl (hb hby at_58) rfl (v := (0 : Int32)) (by decide +kernel) ?_
        show Steps p.tables e below (T40.setTop (mkF m 59 #[.val (.int p0), .val (.int (9 : Int32)), .val (.ref w_YZY_19), .val (.double FP.dconst1), .second] [(.int (0 : Int32))])) _
        refine XS.ifNo X40.here hx rfl (hb hby at_59) rfl ((if0 _ _).trans (teq (rfl : (0 : Int32) = (0 : Int32))).2) ?_
        show Steps p.tables e below (T40.setTop (mkF m 62 #[.val (.int p0), .val (.int (9 : Int32)), .val (.ref w_YZY_19), .val (.double FP.dconst1), .second] [])) _
        refine XS.iconst X40.here hx rfl (hb hby at_62) ?_
        show Steps p.tables e below (T40.setTop (mkF m 63 #[.val (.int p0), .val (.int (9 : Int32)), .val (.ref w_YZY_19), .val (.double FP.dconst1), .second] [(.int (1 : Int32))])) _
        refine XS.goto X40.here hx rfl (pc0 := 63) (pc' := 67) rfl (hb hby at_63) (by decide) (by decide) ?_
        exact kt)
    obtain ⟨fs, hr, hrun, hended, hW, hsame⟩ := X40.leave (v := some (.int (1 : Int32))) (fun h => by rw [Bd.returns] at h; cases h)
    refine ⟨_, _, pre43 _ ?_, hrun, hended, _, _, rfl, ?_, ⟨_, rfl⟩, hW, hsame.mono (by decide) (by decide)⟩
    · show Steps p.tables e below (T40.setTop (mkF m 67 #[.val (.int p0), .val (.int (9 : Int32)), .val (.ref w_YZY_19), .val (.double FP.dconst1), .second] [(.int (1 : Int32))])) _
      exact retN X40 hx (t := .boolean) Bd.returns (by simp) (hb hby at_67) hr
    · show Q0 Z _ _ _ _ _ _ _ _ _ _ _ _ _ h0 n0 _ T40.heap _
      rw [e40]
      exact ⟨rfl, N40, rfl⟩
  · skip
    obtain ⟨cq44, kq44, q44a, q44b, q44c⟩ := isOf hZ e1 E_33
    obtain ⟨_, _, ⟨T44, L44, k44, n44⟩, -, X44, ⟨Lc44, hQ44, l44, y44, z44⟩, st44⟩ := X1.virtualBack hx (y := (⟨"com/example/rotarium/rotarium/EulerSequence", "parity", "()D"⟩ : MethodName)) (z := (⟨"com/example/rotarium/rotarium/EulerSequence", "parity", "()D"⟩ : MethodName)) hown (mvT hZ (hw _ (List.mem_of_getElem? (i := 8) rfl))) (mvT hZ (hw _ (List.mem_of_getElem? (i := 9) rfl))) (notFace_of_selects (args := #[]) (mvT hZ (hw _ (List.mem_of_getElem? (i := 11) rfl)))) (mvT hZ (hw _ (List.mem_of_getElem? (i := 11) rfl))) (mvT hZ (hw _ (List.mem_of_getElem? (i := 10) rfl))) (by decide) (backOf (W := 0) (rm2 l Z aw hw [] w_ZXZ_17 (0 : Int32) (2 : Int32) h0 n0 Z0 F_middleAxis_34 F_firstAxis_35) hZ (hw _ (List.mem_of_getElem? (i := 12) rfl)) (hw _ (List.mem_of_getElem? (i := 6) rfl)) (by decide) (by decide)) q44a q44c (g := (mkF m 54 #[.val (.int p0), .val (.int (10 : Int32)), .val (.ref w_ZXZ_17), .val (.double FP.dconst1), .second] [(.ref w_ZXZ_17)])) rfl (by rw [hml]; rfl) (Steps.refl _) (argsL := []) (rest := []) (lenOf pd_1 rfl) rfl (by show 2 * 0 + _ ≤ _; exact Nat.le_of_eq rfl) (hb hby at_54) (fun _ _ => ⟨rfl, e1, (by decide : 0 + 0 ≤ _), (by decide : 0 + 0 ≤ _)⟩)
    dsimp only [Pt.U, Pt.locs, Pt.cells, Pt.slots] at X44 l44 y44 z44 st44 hQ44
    subst l44 y44 z44
    obtain ⟨⟨r45, rfl, Pr45⟩, Nq44, e44⟩ := hQ44
    have N44 := Fr.app N1 Nq44
    have pre46 : ∀ t, Steps p.tables e below (T44.setTop (mkF m 57 #[.val (.int p0), .val (.int (10 : Int32)), .val (.ref w_ZXZ_17), .val (.double FP.dconst1), .second] [(.double r45)])) t → Steps p.tables e below (s₁.setTop (entryFrame m #[(.int p0)] maxLocals)) t := fun t kt => pre3 t (by
        show Steps p.tables e below (T1.setTop (mkF m 12 #[.val (.int p0), .val (.int (10 : Int32)), .unset, .unset, .unset] [(.ref w_ZXZ_17)])) _
        refine XS.astoreN X1.here hx rfl (hb hby at_12) rfl rfl (l' := #[.val (.int p0), .val (.int (10 : Int32)), .val (.ref w_ZXZ_17), .unset, .unset]) rfl ?_
        show Steps p.tables e below (T1.setTop (mkF m 13 #[.val (.int p0), .val (.int (10 : Int32)), .val (.ref w_ZXZ_17), .unset, .unset] [])) _
        refine XS.iloadN X1.here hx rfl (hb hby at_13) rfl ?_
        show Steps p.tables e below (T1.setTop (mkF m 14 #[.val (.int p0), .val (.int (10 : Int32)), .val (.ref w_ZXZ_17), .unset, .unset] [(.int (10 : Int32))])) _
        refine XS.ifNo X1.here hx rfl (hb hby at_14) rfl ((if0 _ _).trans (feq (by decide : ¬ ((10 : Int32) = (0 : Int32)))).1) ?_
        show Steps p.tables e below (T1.setTop (mkF m 17 #[.val (.int p0), .val (.int (10 : Int32)), .val (.ref w_ZXZ_17), .unset, .unset] [])) _
        refine XS.iloadN X1.here hx rfl (hb hby at_17) rfl ?_
        show Steps p.tables e below (T1.setTop (mkF m 18 #[.val (.int p0), .val (.int (10 : Int32)), .val (.ref w_ZXZ_17), .unset, .unset] [(.int (10 : Int32))])) _
        refine XS.iconst X1.here hx rfl (hb hby at_18) ?_
        show Steps p.tables e below (T1.setTop (mkF m 19 #[.val (.int p0), .val (.int (10 : Int32)), .val (.ref w_ZXZ_17), .unset, .unset] [(.int (3 : Int32)), (.int (10 : Int32))])) _
        refine XS.icmpNo X1.here hx rfl (hb hby at_19) rfl (feq (by decide : ¬ ((10 : Int32) = (3 : Int32)))).1 ?_
        show Steps p.tables e below (T1.setTop (mkF m 22 #[.val (.int p0), .val (.int (10 : Int32)), .val (.ref w_ZXZ_17), .unset, .unset] [])) _
        refine XS.iloadN X1.here hx rfl (hb hby at_22) rfl ?_
        show Steps p.tables e below (T1.setTop (mkF m 23 #[.val (.int p0), .val (.int (10 : Int32)), .val (.ref w_ZXZ_17), .unset, .unset] [(.int (10 : Int32))])) _
        refine XS.iconst X1.here hx rfl (hb hby at_23) ?_
        show Steps p.tables e below (T1.setTop (mkF m 24 #[.val (.int p0), .val (.int (10 : Int32)), .val (.ref w_ZXZ_17), .unset, .unset] [(.int (4 : Int32)), (.int (10 : Int32))])) _
        refine XS.icmpNo X1.here hx rfl (hb hby at_24) rfl (feq (by decide : ¬ ((10 : Int32) = (4 : Int32)))).1 ?_
        show Steps p.tables e below (T1.setTop (mkF m 27 #[.val (.int p0), .val (.int (10 : Int32)), .val (.ref w_ZXZ_17), .unset, .unset] [])) _
        refine XS.iloadN X1.here hx rfl (hb hby at_27) rfl ?_
        show Steps p.tables e below (T1.setTop (mkF m 28 #[.val (.int p0), .val (.int (10 : Int32)), .val (.ref w_ZXZ_17), .unset, .unset] [(.int (10 : Int32))])) _
        refine XS.bipush X1.here hx rfl (hb hby at_28) ?_
        show Steps p.tables e below (T1.setTop (mkF m 30 #[.val (.int p0), .val (.int (10 : Int32)), .val (.ref w_ZXZ_17), .unset, .unset] [(.int (6 : Int32)), (.int (10 : Int32))])) _
        refine XS.icmpNo X1.here hx rfl (hb hby at_30) rfl (feq (by decide : ¬ ((10 : Int32) = (6 : Int32)))).1 ?_
        show Steps p.tables e below (T1.setTop (mkF m 33 #[.val (.int p0), .val (.int (10 : Int32)), .val (.ref w_ZXZ_17), .unset, .unset] [])) _
        refine XS.iloadN X1.here hx rfl (hb hby at_33) rfl ?_
        show Steps p.tables e below (T1.setTop (mkF m 34 #[.val (.int p0), .val (.int (10 : Int32)), .val (.ref w_ZXZ_17), .unset, .unset] [(.int (10 : Int32))])) _
        refine XS.bipush X1.here hx rfl (hb hby at_34) ?_
        show Steps p.tables e below (T1.setTop (mkF m 36 #[.val (.int p0), .val (.int (10 : Int32)), .val (.ref w_ZXZ_17), .unset, .unset] [(.int (9 : Int32)), (.int (10 : Int32))])) _
        refine XS.icmpNo X1.here hx rfl (hb hby at_36) rfl (feq (by decide : ¬ ((10 : Int32) = (9 : Int32)))).1 ?_
        show Steps p.tables e below (T1.setTop (mkF m 39 #[.val (.int p0), .val (.int (10 : Int32)), .val (.ref w_ZXZ_17), .unset, .unset] [])) _
        refine XS.iloadN X1.here hx rfl (hb hby at_39) rfl ?_
        show Steps p.tables e below (T1.setTop (mkF m 40 #[.val (.int p0), .val (.int (10 : Int32)), .val (.ref w_ZXZ_17), .unset, .unset] [(.int (10 : Int32))])) _
        refine XS.bipush X1.here hx rfl (hb hby at_40) ?_
        show Steps p.tables e below (T1.setTop (mkF m 42 #[.val (.int p0), .val (.int (10 : Int32)), .val (.ref w_ZXZ_17), .unset, .unset] [(.int (10 : Int32)), (.int (10 : Int32))])) _
        refine XS.icmpNo X1.here hx rfl (hb hby at_42) rfl (teq (rfl : (10 : Int32) = (10 : Int32))).2 ?_
        show Steps p.tables e below (T1.setTop (mkF m 45 #[.val (.int p0), .val (.int (10 : Int32)), .val (.ref w_ZXZ_17), .unset, .unset] [])) _
        refine XS.dconst1 X1.here hx rfl (hb hby at_45) rfl ?_
        show Steps p.tables e below (T1.setTop (mkF m 46 #[.val (.int p0), .val (.int (10 : Int32)), .val (.ref w_ZXZ_17), .unset, .unset] [(.double FP.dconst1)])) _
        refine XS.goto X1.here hx rfl (pc0 := 46) (pc' := 52) rfl (hb hby at_46) (by decide) (by decide) ?_
        show Steps p.tables e below (T1.setTop (mkF m 52 #[.val (.int p0), .val (.int (10 : Int32)), .val (.ref w_ZXZ_17), .unset, .unset] [(.double FP.dconst1)])) _
        refine XS.dstoreN X1.here hx rfl (hb hby at_52) rfl (l' := #[.val (.int p0), .val (.int (10 : Int32)), .val (.ref w_ZXZ_17), .val (.double FP.dconst1), .second]) rfl ?_
        show Steps p.tables e below (T1.setTop (mkF m 53 #[.val (.int p0), .val (.int (10 : Int32)), .val (.ref w_ZXZ_17), .val (.double FP.dconst1), .second] [])) _
        refine XS.aloadN X1.here hx rfl (hb hby at_53) rfl rfl ?_
        show Steps p.tables e below (T1.setTop (mkF m 54 #[.val (.int p0), .val (.int (10 : Int32)), .val (.ref w_ZXZ_17), .val (.double FP.dconst1), .second] [(.ref w_ZXZ_17)])) _
        refine st44.trans ?_
        exact kt)
    obtain rfl : FP.dconst1 = r45 := Pr45.1 (by decide)
    have pre47 : ∀ t, Steps p.tables e below (T44.setTop (mkF m 67 #[.val (.int p0), .val (.int (10 : Int32)), .val (.ref w_ZXZ_17), .val (.double FP.dconst1), .second] [(.int (1 : Int32))])) t → Steps p.tables e below (s₁.setTop (entryFrame m #[(.int p0)] maxLocals)) t := fun t kt => pre46 t (by
        show Steps p.tables e below (T44.setTop (mkF m 57 #[.val (.int p0), .val (.int (10 : Int32)), .val (.ref w_ZXZ_17), .val (.double FP.dconst1), .second] [(.double FP.dconst1)])) _
        refine XS.dloadN X44.here hx rfl (hb hby at_57) rfl ?_
        show Steps p.tables e below (T44.setTop (mkF m 58 #[.val (.int p0), .val (.int (10 : Int32)), .val (.ref w_ZXZ_17), .val (.double FP.dconst1), .second] [(.double FP.dconst1), (.double FP.dconst1)])) _
        refine XS.dcmpS X44.here hx rfl (hb hby at_58) rfl (v := (0 : Int32)) (by decide +kernel) ?_
        show Steps p.tables e below (T44.setTop (mkF m 59 #[.val (.int p0), .val (.int (10 : Int32)), .val (.ref w_ZXZ_17), .val (.double FP.dconst1), .second] [(.int (0 : Int32))])) _
        refine XS.ifNo X44.here hx rfl (hb hby at_59) rfl ((if0 _ _).trans (teq (rfl : (0 : Int32) = (0 : Int32))).2) ?_
        show Steps p.tables e below (T44.setTop (mkF m 62 #[.val (.int p0), .val (.int (10 : Int32)), .val (.ref w_ZXZ_17), .val (.double FP.dconst1), .second] [])) _
        refine XS.iconst X44.here hx rfl (hb hby at_62) ?_
        show Steps p.tables e below (T44.setTop (mkF m 63 #[.val (.int p0), .val (.int (10 : Int32)), .val (.ref w_ZXZ_17), .val (.double FP.dconst1), .second] [(.int (1 : Int32))])) _
        refine XS.goto X44.here hx rfl (pc0 := 63) (pc' := 67) rfl (hb hby at_63) (by decide) (by decide) ?_
        exact kt)
    obtain ⟨fs, hr, hrun, hended, hW, hsame⟩ := X44.leave (v := some (.int (1 : Int32))) (fun h => by rw [Bd.returns] at h; cases h)
    refine ⟨_, _, pre47 _ ?_, hrun, hended, _, _, rfl, ?_, ⟨_, rfl⟩, hW, hsame.mono (by decide) (by decide)⟩
    · show Steps p.tables e below (T44.setTop (mkF m 67 #[.val (.int p0), .val (.int (10 : Int32)), .val (.ref w_ZXZ_17), .val (.double FP.dconst1), .second] [(.int (1 : Int32))])) _
      exact retN X44 hx (t := .boolean) Bd.returns (by simp) (hb hby at_67) hr
    · show Q0 Z _ _ _ _ _ _ _ _ _ _ _ _ _ h0 n0 _ T44.heap _
      rw [e44]
      exact ⟨rfl, N44, rfl⟩
  · skip
    obtain ⟨cq48, kq48, q48a, q48b, q48c⟩ := isOf hZ e1 E_17
    obtain ⟨_, _, ⟨T48, L48, k48, n48⟩, -, X48, ⟨Lc48, hQ48, l48, y48, z48⟩, st48⟩ := X1.virtualBack hx (y := (⟨"com/example/rotarium/rotarium/EulerSequence", "parity", "()D"⟩ : MethodName)) (z := (⟨"com/example/rotarium/rotarium/EulerSequence", "parity", "()D"⟩ : MethodName)) hown (mvT hZ (hw _ (List.mem_of_getElem? (i := 8) rfl))) (mvT hZ (hw _ (List.mem_of_getElem? (i := 9) rfl))) (notFace_of_selects (args := #[]) (mvT hZ (hw _ (List.mem_of_getElem? (i := 11) rfl)))) (mvT hZ (hw _ (List.mem_of_getElem? (i := 11) rfl))) (mvT hZ (hw _ (List.mem_of_getElem? (i := 10) rfl))) (by decide) (backOf (W := 0) (rm2 l Z aw hw [] w_ZYZ_9 (1 : Int32) (2 : Int32) h0 n0 Z0 F_middleAxis_18 F_firstAxis_19) hZ (hw _ (List.mem_of_getElem? (i := 12) rfl)) (hw _ (List.mem_of_getElem? (i := 6) rfl)) (by decide) (by decide)) q48a q48c (g := (mkF m 54 #[.val (.int p0), .val (.int (11 : Int32)), .val (.ref w_ZYZ_9), .val (.double (13830554455654793216 : UInt64)), .second] [(.ref w_ZYZ_9)])) rfl (by rw [hml]; rfl) (Steps.refl _) (argsL := []) (rest := []) (lenOf pd_1 rfl) rfl (by show 2 * 0 + _ ≤ _; exact Nat.le_of_eq rfl) (hb hby at_54) (fun _ _ => ⟨rfl, e1, (by decide : 0 + 0 ≤ _), (by decide : 0 + 0 ≤ _)⟩)
    dsimp only [Pt.U, Pt.locs, Pt.cells, Pt.slots] at X48 l48 y48 z48 st48 hQ48
    subst l48 y48 z48
    obtain ⟨⟨r49, rfl, Pr49⟩, Nq48, e48⟩ := hQ48
    have N48 := Fr.app N1 Nq48
    have pre50 : ∀ t, Steps p.tables e below (T48.setTop (mkF m 57 #[.val (.int p0), .val (.int (11 : Int32)), .val (.ref w_ZYZ_9), .val (.double (13830554455654793216 : UInt64)), .second] [(.double r49)])) t → Steps p.tables e below (s₁.setTop (entryFrame m #[(.int p0)] maxLocals)) t := fun t kt => pre3 t (by
        show Steps p.tables e below (T1.setTop (mkF m 12 #[.val (.int p0), .val (.int (11 : Int32)), .unset, .unset, .unset] [(.ref w_ZYZ_9)])) _
        refine XS.astoreN X1.here hx rfl (hb hby at_12) rfl rfl (l' := #[.val (.int p0), .val (.int (11 : Int32)), .val (.ref w_ZYZ_9), .unset, .unset]) rfl ?_
        show Steps p.tables e below (T1.setTop (mkF m 13 #[.val (.int p0), .val (.int (11 : Int32)), .val (.ref w_ZYZ_9), .unset, .unset] [])) _
        refine XS.iloadN X1.here hx rfl (hb hby at_13) rfl ?_
        show Steps p.tables e below (T1.setTop (mkF m 14 #[.val (.int p0), .val (.int (11 : Int32)), .val (.ref w_ZYZ_9), .unset, .unset] [(.int (11 : Int32))])) _
        refine XS.ifNo X1.here hx rfl (hb hby at_14) rfl ((if0 _ _).trans (feq (by decide : ¬ ((11 : Int32) = (0 : Int32)))).1) ?_
        show Steps p.tables e below (T1.setTop (mkF m 17 #[.val (.int p0), .val (.int (11 : Int32)), .val (.ref w_ZYZ_9), .unset, .unset] [])) _
        refine XS.iloadN X1.here hx rfl (hb hby at_17) rfl ?_
        show Steps p.tables e below (T1.setTop (mkF m 18 #[.val (.int p0), .val (.int (11 : Int32)), .val (.ref w_ZYZ_9), .unset, .unset] [(.int (11 : Int32))])) _
        refine XS.iconst X1.here hx rfl (hb hby at_18) ?_
        show Steps p.tables e below (T1.setTop (mkF m 19 #[.val (.int p0), .val (.int (11 : Int32)), .val (.ref w_ZYZ_9), .unset, .unset] [(.int (3 : Int32)), (.int (11 : Int32))])) _
        refine XS.icmpNo X1.here hx rfl (hb hby at_19) rfl (feq (by decide : ¬ ((11 : Int32) = (3 : Int32)))).1 ?_
        show Steps p.tables e below (T1.setTop (mkF m 22 #[.val (.int p0), .val (.int (11 : Int32)), .val (.ref w_ZYZ_9), .unset, .unset] [])) _
        refine XS.iloadN X1.here hx rfl (hb hby at_22) rfl ?_
        show Steps p.tables e below (T1.setTop (mkF m 23 #[.val (.int p0), .val (.int (11 : Int32)), .val (.ref w_ZYZ_9), .unset, .unset] [(.int (11 : Int32))])) _
        refine XS.iconst X1.here hx rfl (hb hby at_23) ?_
        show Steps p.tables e below (T1.setTop (mkF m 24 #[.val (.int p0), .val (.int (11 : Int32)), .val (.ref w_ZYZ_9), .unset, .unset] [(.int (4 : Int32)), (.int (11 : Int32))])) _
        refine XS.icmpNo X1.here hx rfl (hb hby at_24) rfl (feq (by decide : ¬ ((11 : Int32) = (4 : Int32)))).1 ?_
        show Steps p.tables e below (T1.setTop (mkF m 27 #[.val (.int p0), .val (.int (11 : Int32)), .val (.ref w_ZYZ_9), .unset, .unset] [])) _
        refine XS.iloadN X1.here hx rfl (hb hby at_27) rfl ?_
        show Steps p.tables e below (T1.setTop (mkF m 28 #[.val (.int p0), .val (.int (11 : Int32)), .val (.ref w_ZYZ_9), .unset, .unset] [(.int (11 : Int32))])) _
        refine XS.bipush X1.here hx rfl (hb hby at_28) ?_
        show Steps p.tables e below (T1.setTop (mkF m 30 #[.val (.int p0), .val (.int (11 : Int32)), .val (.ref w_ZYZ_9), .unset, .unset] [(.int (6 : Int32)), (.int (11 : Int32))])) _
        refine XS.icmpNo X1.here hx rfl (hb hby at_30) rfl (feq (by decide : ¬ ((11 : Int32) = (6 : Int32)))).1 ?_
        show Steps p.tables e below (T1.setTop (mkF m 33 #[.val (.int p0), .val (.int (11 : Int32)), .val (.ref w_ZYZ_9), .unset, .unset] [])) _
        refine XS.iloadN X1.here hx rfl (hb hby at_33) rfl ?_
        show Steps p.tables e below (T1.setTop (mkF m 34 #[.val (.int p0), .val (.int (11 : Int32)), .val (.ref w_ZYZ_9), .unset, .unset] [(.int (11 : Int32))])) _
        refine XS.bipush X1.here hx rfl (hb hby at_34) ?_
        show Steps p.tables e below (T1.setTop (mkF m 36 #[.val (.int p0), .val (.int (11 : Int32)), .val (.ref w_ZYZ_9), .unset, .unset] [(.int (9 : Int32)), (.int (11 : Int32))])) _
        refine XS.icmpNo X1.here hx rfl (hb hby at_36) rfl (feq (by decide : ¬ ((11 : Int32) = (9 : Int32)))).1 ?_
        show Steps p.tables e below (T1.setTop (mkF m 39 #[.val (.int p0), .val (.int (11 : Int32)), .val (.ref w_ZYZ_9), .unset, .unset] [])) _
        refine XS.iloadN X1.here hx rfl (hb hby at_39) rfl ?_
        show Steps p.tables e below (T1.setTop (mkF m 40 #[.val (.int p0), .val (.int (11 : Int32)), .val (.ref w_ZYZ_9), .unset, .unset] [(.int (11 : Int32))])) _
        refine XS.bipush X1.here hx rfl (hb hby at_40) ?_
        show Steps p.tables e below (T1.setTop (mkF m 42 #[.val (.int p0), .val (.int (11 : Int32)), .val (.ref w_ZYZ_9), .unset, .unset] [(.int (10 : Int32)), (.int (11 : Int32))])) _
        refine XS.icmpYes X1.here hx rfl (pc0 := 42) (pc' := 49) rfl (hb hby at_42) rfl (feq (by decide : ¬ ((11 : Int32) = (10 : Int32)))).2 (by decide) (by decide) ?_
        show Steps p.tables e below (T1.setTop (mkF m 49 #[.val (.int p0), .val (.int (11 : Int32)), .val (.ref w_ZYZ_9), .unset, .unset] [])) _
        refine X1.ldc2DoubleC hx hown (mvT hZ (hw _ (List.mem_of_getElem? (i := 21) rfl))) (g := (mkF m 49 #[.val (.int p0), .val (.int (11 : Int32)), .val (.ref w_ZYZ_9), .unset, .unset] [])) rfl (hb hby at_49) _ ?_
        show Steps p.tables e below (T1.setTop (mkF m 52 #[.val (.int p0), .val (.int (11 : Int32)), .val (.ref w_ZYZ_9), .unset, .unset] [(.double (13830554455654793216 : UInt64))])) _
        refine XS.dstoreN X1.here hx rfl (hb hby at_52) rfl (l' := #[.val (.int p0), .val (.int (11 : Int32)), .val (.ref w_ZYZ_9), .val (.double (13830554455654793216 : UInt64)), .second]) rfl ?_
        show Steps p.tables e below (T1.setTop (mkF m 53 #[.val (.int p0), .val (.int (11 : Int32)), .val (.ref w_ZYZ_9), .val (.double (13830554455654793216 : UInt64)), .second] [])) _
        refine XS.aloadN X1.here hx rfl (hb hby at_53) rfl rfl ?_
        show Steps p.tables e below (T1.setTop (mkF m 54 #[.val (.int p0), .val (.int (11 : Int32)), .val (.ref w_ZYZ_9), .val (.double (13830554455654793216 : UInt64)), .second] [(.ref w_ZYZ_9)])) _
        refine st48.trans ?_
        exact kt)
    obtain rfl : (13830554455654793216 : UInt64) = r49 := Pr49.2 (by decide)
    have pre51 : ∀ t, Steps p.tables e below (T48.setTop (mkF m 67 #[.val (.int p0), .val (.int (11 : Int32)), .val (.ref w_ZYZ_9), .val (.double (13830554455654793216 : UInt64)), .second] [(.int (1 : Int32))])) t → Steps p.tables e below (s₁.setTop (entryFrame m #[(.int p0)] maxLocals)) t := fun t kt => pre50 t (by
        show Steps p.tables e below (T48.setTop (mkF m 57 #[.val (.int p0), .val (.int (11 : Int32)), .val (.ref w_ZYZ_9), .val (.double (13830554455654793216 : UInt64)), .second] [(.double (13830554455654793216 : UInt64))])) _
        refine XS.dloadN X48.here hx rfl (hb hby at_57) rfl ?_
        show Steps p.tables e below (T48.setTop (mkF m 58 #[.val (.int p0), .val (.int (11 : Int32)), .val (.ref w_ZYZ_9), .val (.double (13830554455654793216 : UInt64)), .second] [(.double (13830554455654793216 : UInt64)), (.double (13830554455654793216 : UInt64))])) _
        refine XS.dcmpS X48.here hx rfl (hb hby at_58) rfl (v := (0 : Int32)) (by decide +kernel) ?_
        show Steps p.tables e below (T48.setTop (mkF m 59 #[.val (.int p0), .val (.int (11 : Int32)), .val (.ref w_ZYZ_9), .val (.double (13830554455654793216 : UInt64)), .second] [(.int (0 : Int32))])) _
        refine XS.ifNo X48.here hx rfl (hb hby at_59) rfl ((if0 _ _).trans (teq (rfl : (0 : Int32) = (0 : Int32))).2) ?_
        show Steps p.tables e below (T48.setTop (mkF m 62 #[.val (.int p0), .val (.int (11 : Int32)), .val (.ref w_ZYZ_9), .val (.double (13830554455654793216 : UInt64)), .second] [])) _
        refine XS.iconst X48.here hx rfl (hb hby at_62) ?_
        show Steps p.tables e below (T48.setTop (mkF m 63 #[.val (.int p0), .val (.int (11 : Int32)), .val (.ref w_ZYZ_9), .val (.double (13830554455654793216 : UInt64)), .second] [(.int (1 : Int32))])) _
        refine XS.goto X48.here hx rfl (pc0 := 63) (pc' := 67) rfl (hb hby at_63) (by decide) (by decide) ?_
        exact kt)
    obtain ⟨fs, hr, hrun, hended, hW, hsame⟩ := X48.leave (v := some (.int (1 : Int32))) (fun h => by rw [Bd.returns] at h; cases h)
    refine ⟨_, _, pre51 _ ?_, hrun, hended, _, _, rfl, ?_, ⟨_, rfl⟩, hW, hsame.mono (by decide) (by decide)⟩
    · show Steps p.tables e below (T48.setTop (mkF m 67 #[.val (.int p0), .val (.int (11 : Int32)), .val (.ref w_ZYZ_9), .val (.double (13830554455654793216 : UInt64)), .second] [(.int (1 : Int32))])) _
      exact retN X48 hx (t := .boolean) Bd.returns (by simp) (hb hby at_67) hr
    · show Q0 Z _ _ _ _ _ _ _ _ _ _ _ _ _ h0 n0 _ T48.heap _
      rw [e48]
      exact ⟨rfl, N48, rfl⟩
set_option maxRecDepth 65536 in
set_option maxHeartbeats 40000000 in
theorem comes_1 {Post : Tables → Env → Array Value → State → Outcome → State → Prop} (hpost : ∀ tb e args s v u, (limb_1_1.after args s (.returned v) u = true ∧ limb_1_2.after args s (.returned v) u = true ∧ True) → FrameEnd s (.returned v) u (Jvm.fieldLocs frame_1_writes args s ++ Jvm.arrayLocs frame_1_arrays args s ++ Jvm.staticLocs frame_1_statics s) 0 0 → Post tb e args s (.returned v) u) :
    ArmFor flags0 classFile x code maxLocals ret World_1 tables_1 room_1 Calls_1 rest_1 Pre_1 Post := by
  intro l hfl _ _ p e ha hc hk s m args below hf hA hF happ hP
  obtain ⟨hcalls, hrest, hpre⟩ := hP
  obtain ⟨-, -, -, hnamed, -, -, -, hat⟩ := (Spec.applies_iff hf).mp happ
  obtain ⟨hg, hn⟩ := and_e (Cond.before_iff.mp (show (Jvm.Cond.and given_1 narrow_1).before args s = true from hpre))
  obtain ⟨hg0, hgr0⟩ := and_e hg
  obtain ⟨w0, rfl⟩ : ∃ w0 : Value, args = #[w0] := by
    have hs : args.size = 1 := by simpa [Cond.value, given_1] using hg0
    obtain ⟨L⟩ := args
    match L, hs with
    | [w0], _ => exact ⟨w0, rfl⟩
  have hw := fun d (hd : d ∈ tables_1) => atoms_spec (ws := Jvm.Cond.code x code maxLocals ret :: tables_1) hat d (List.mem_cons_of_mem _ hd)
  have hfit : Fit s := fun {y c} hc i hi => by
    obtain ⟨ha, rfl⟩ := Array.getElem?_eq_some_iff.mp hc
    have q := List.all_eq_true.mp ((Array.all_eq_true_iff_forall_mem.mp hF) _ (Array.getElem_mem ha)) i (List.mem_range.mpr hi)
    simpa [Array.getElem?_eq_getElem hi] using q
  obtain ⟨i0, ei0⟩ := is_v hgr0
  obtain rfl : w0 = (.int i0) := Option.some.inj ei0
  obtain ⟨hn0, hr0⟩ := and_e hn
  obtain ⟨hn1, hr1⟩ := and_e hr0
  obtain ⟨hn2, hr2⟩ := and_e hr1
  obtain ⟨hn3, hr3⟩ := and_e hr2
  obtain ⟨hn4, hr4⟩ := and_e hr3
  obtain ⟨hn5, hr5⟩ := and_e hr4
  obtain ⟨hn6, hr6⟩ := and_e hr5
  obtain ⟨hn7, hr7⟩ := and_e hr6
  obtain ⟨hn8, hr8⟩ := and_e hr7
  obtain ⟨hn9, hr9⟩ := and_e hr8
  obtain ⟨hn10, hr10⟩ := and_e hr9
  obtain ⟨hn11, hr11⟩ := and_e hr10
  obtain ⟨hn12, hr12⟩ := and_e hr11
  obtain ⟨hn13, hr13⟩ := and_e hr12
  obtain ⟨hn14, hr14⟩ := and_e hr13
  obtain ⟨hn15, hr15⟩ := and_e hr14
  obtain ⟨hn16, hr16⟩ := and_e hr15
  obtain ⟨hn17, hr17⟩ := and_e hr16
  obtain ⟨hn18, hr18⟩ := and_e hr17
  obtain ⟨hn19, hr19⟩ := and_e hr18
  obtain ⟨hn20, hr20⟩ := and_e hr19
  obtain ⟨hn21, hr21⟩ := and_e hr20
  obtain ⟨hn22, hr22⟩ := and_e hr21
  obtain ⟨hn23, hr23⟩ := and_e hr22
  obtain ⟨hn24, hr24⟩ := and_e hr23
  obtain ⟨hn25, hr25⟩ := and_e hr24
  obtain ⟨hn26, hr26⟩ := and_e hr25
  obtain ⟨hn27, hr27⟩ := and_e hr26
  obtain ⟨hn28, hr28⟩ := and_e hr27
  obtain ⟨hn29, hr29⟩ := and_e hr28
  obtain ⟨hn30, hr30⟩ := and_e hr29
  obtain ⟨hn31, hr31⟩ := and_e hr30
  obtain ⟨hn32, hr32⟩ := and_e hr31
  obtain ⟨hn33, hr33⟩ := and_e hr32
  obtain ⟨hn34, hr34⟩ := and_e hr33
  obtain ⟨w_XYZ_1, ev2⟩ := exa_v hn0
  have S_XYZ_0 : Sta s s.heap "com/example/rotarium/rotarium/EulerSequence" "XYZ" "Lcom/example/rotarium/rotarium/EulerSequence;" (.ref w_XYZ_1) := Sta.start ev2 (Or.inr ⟨(hw _ (List.mem_of_getElem? (i := 6) rfl)), (hw _ (List.mem_of_getElem? (i := 7) rfl))⟩)
  have E_1 : Exa s s.heap w_XYZ_1 "com/example/rotarium/rotarium/EulerSequence" := Exa.start ev2 hn0
  have F_middleAxis_2 : Fld s s.heap w_XYZ_1 "com/example/rotarium/rotarium/EulerSequence" "middleAxis" "I" (.int (1 : Int32)) := Fld.start ((fld_at ev2).symm.trans (own_eqI hn1))
  have F_firstAxis_3 : Fld s s.heap w_XYZ_1 "com/example/rotarium/rotarium/EulerSequence" "firstAxis" "I" (.int (0 : Int32)) := Fld.start ((fld_at ev2).symm.trans (own_eqI hn2))
  obtain ⟨w_YZX_3, ev4⟩ := exa_v hn3
  have S_YZX_4 : Sta s s.heap "com/example/rotarium/rotarium/EulerSequence" "YZX" "Lcom/example/rotarium/rotarium/EulerSequence;" (.ref w_YZX_3) := Sta.start ev4 (Or.inr ⟨(hw _ (List.mem_of_getElem? (i := 6) rfl)), (hw _ (List.mem_of_getElem? (i := 18) rfl))⟩)
  have E_5 : Exa s s.heap w_YZX_3 "com/example/rotarium/rotarium/EulerSequence" := Exa.start ev4 hn3
  have F_middleAxis_6 : Fld s s.heap w_YZX_3 "com/example/rotarium/rotarium/EulerSequence" "middleAxis" "I" (.int (2 : Int32)) := Fld.start ((fld_at ev4).symm.trans (own_eqI hn4))
  have F_firstAxis_7 : Fld s s.heap w_YZX_3 "com/example/rotarium/rotarium/EulerSequence" "firstAxis" "I" (.int (1 : Int32)) := Fld.start ((fld_at ev4).symm.trans (own_eqI hn5))
  obtain ⟨w_YXZ_5, ev6⟩ := exa_v hn6
  have S_YXZ_8 : Sta s s.heap "com/example/rotarium/rotarium/EulerSequence" "YXZ" "Lcom/example/rotarium/rotarium/EulerSequence;" (.ref w_YXZ_5) := Sta.start ev6 (Or.inr ⟨(hw _ (List.mem_of_getElem? (i := 6) rfl)), (hw _ (List.mem_of_getElem? (i := 20) rfl))⟩)
  have E_9 : Exa s s.heap w_YXZ_5 "com/example/rotarium/rotarium/EulerSequence" := Exa.start ev6 hn6
  have F_middleAxis_10 : Fld s s.heap w_YXZ_5 "com/example/rotarium/rotarium/EulerSequence" "middleAxis" "I" (.int (0 : Int32)) := Fld.start ((fld_at ev6).symm.trans (own_eqI hn7))
  have F_firstAxis_11 : Fld s s.heap w_YXZ_5 "com/example/rotarium/rotarium/EulerSequence" "firstAxis" "I" (.int (1 : Int32)) := Fld.start ((fld_at ev6).symm.trans (own_eqI hn8))
  obtain ⟨w_XZX_7, ev8⟩ := exa_v hn9
  have S_XZX_12 : Sta s s.heap "com/example/rotarium/rotarium/EulerSequence" "XZX" "Lcom/example/rotarium/rotarium/EulerSequence;" (.ref w_XZX_7) := Sta.start ev8 (Or.inr ⟨(hw _ (List.mem_of_getElem? (i := 6) rfl)), (hw _ (List.mem_of_getElem? (i := 24) rfl))⟩)
  have E_13 : Exa s s.heap w_XZX_7 "com/example/rotarium/rotarium/EulerSequence" := Exa.start ev8 hn9
  have F_middleAxis_14 : Fld s s.heap w_XZX_7 "com/example/rotarium/rotarium/EulerSequence" "middleAxis" "I" (.int (2 : Int32)) := Fld.start ((fld_at ev8).symm.trans (own_eqI hn10))
  have F_firstAxis_15 : Fld s s.heap w_XZX_7 "com/example/rotarium/rotarium/EulerSequence" "firstAxis" "I" (.int (0 : Int32)) := Fld.start ((fld_at ev8).symm.trans (own_eqI hn11))
  obtain ⟨w_ZYZ_9, ev10⟩ := exa_v hn12
  have S_ZYZ_16 : Sta s s.heap "com/example/rotarium/rotarium/EulerSequence" "ZYZ" "Lcom/example/rotarium/rotarium/EulerSequence;" (.ref w_ZYZ_9) := Sta.start ev10 (Or.inr ⟨(hw _ (List.mem_of_getElem? (i := 6) rfl)), (hw _ (List.mem_of_getElem? (i := 26) rfl))⟩)
  have E_17 : Exa s s.heap w_ZYZ_9 "com/example/rotarium/rotarium/EulerSequence" := Exa.start ev10 hn12
  have F_middleAxis_18 : Fld s s.heap w_ZYZ_9 "com/example/rotarium/rotarium/EulerSequence" "middleAxis" "I" (.int (1 : Int32)) := Fld.start ((fld_at ev10).symm.trans (own_eqI hn13))
  have F_firstAxis_19 : Fld s s.heap w_ZYZ_9 "com/example/rotarium/rotarium/EulerSequence" "firstAxis" "I" (.int (2 : Int32)) := Fld.start ((fld_at ev10).symm.trans (own_eqI hn14))
  obtain ⟨w_ZXY_11, ev12⟩ := exa_v hn15
  have S_ZXY_20 : Sta s s.heap "com/example/rotarium/rotarium/EulerSequence" "ZXY" "Lcom/example/rotarium/rotarium/EulerSequence;" (.ref w_ZXY_11) := Sta.start ev12 (Or.inr ⟨(hw _ (List.mem_of_getElem? (i := 6) rfl)), (hw _ (List.mem_of_getElem? (i := 28) rfl))⟩)
  have E_21 : Exa s s.heap w_ZXY_11 "com/example/rotarium/rotarium/EulerSequence" := Exa.start ev12 hn15
  have F_middleAxis_22 : Fld s s.heap w_ZXY_11 "com/example/rotarium/rotarium/EulerSequence" "middleAxis" "I" (.int (0 : Int32)) := Fld.start ((fld_at ev12).symm.trans (own_eqI hn16))
  have F_firstAxis_23 : Fld s s.heap w_ZXY_11 "com/example/rotarium/rotarium/EulerSequence" "firstAxis" "I" (.int (2 : Int32)) := Fld.start ((fld_at ev12).symm.trans (own_eqI hn17))
  obtain ⟨w_YXY_13, ev14⟩ := exa_v hn18
  have S_YXY_24 : Sta s s.heap "com/example/rotarium/rotarium/EulerSequence" "YXY" "Lcom/example/rotarium/rotarium/EulerSequence;" (.ref w_YXY_13) := Sta.start ev14 (Or.inr ⟨(hw _ (List.mem_of_getElem? (i := 6) rfl)), (hw _ (List.mem_of_getElem? (i := 30) rfl))⟩)
  have E_25 : Exa s s.heap w_YXY_13 "com/example/rotarium/rotarium/EulerSequence" := Exa.start ev14 hn18
  have F_middleAxis_26 : Fld s s.heap w_YXY_13 "com/example/rotarium/rotarium/EulerSequence" "middleAxis" "I" (.int (0 : Int32)) := Fld.start ((fld_at ev14).symm.trans (own_eqI hn19))
  have F_firstAxis_27 : Fld s s.heap w_YXY_13 "com/example/rotarium/rotarium/EulerSequence" "firstAxis" "I" (.int (1 : Int32)) := Fld.start ((fld_at ev14).symm.trans (own_eqI hn20))
  obtain ⟨w_XZY_15, ev16⟩ := exa_v hn21
  have S_XZY_28 : Sta s s.heap "com/example/rotarium/rotarium/EulerSequence" "XZY" "Lcom/example/rotarium/rotarium/EulerSequence;" (.ref w_XZY_15) := Sta.start ev16 (Or.inr ⟨(hw _ (List.mem_of_getElem? (i := 6) rfl)), (hw _ (List.mem_of_getElem? (i := 32) rfl))⟩)
  have E_29 : Exa s s.heap w_XZY_15 "com/example/rotarium/rotarium/EulerSequence" := Exa.start ev16 hn21
  have F_middleAxis_30 : Fld s s.heap w_XZY_15 "com/example/rotarium/rotarium/EulerSequence" "middleAxis" "I" (.int (2 : Int32)) := Fld.start ((fld_at ev16).symm.trans (own_eqI hn22))
  have F_firstAxis_31 : Fld s s.heap w_XZY_15 "com/example/rotarium/rotarium/EulerSequence" "firstAxis" "I" (.int (0 : Int32)) := Fld.start ((fld_at ev16).symm.trans (own_eqI hn23))
  obtain ⟨w_ZXZ_17, ev18⟩ := exa_v hn24
  have S_ZXZ_32 : Sta s s.heap "com/example/rotarium/rotarium/EulerSequence" "ZXZ" "Lcom/example/rotarium/rotarium/EulerSequence;" (.ref w_ZXZ_17) := Sta.start ev18 (Or.inr ⟨(hw _ (List.mem_of_getElem? (i := 6) rfl)), (hw _ (List.mem_of_getElem? (i := 34) rfl))⟩)
  have E_33 : Exa s s.heap w_ZXZ_17 "com/example/rotarium/rotarium/EulerSequence" := Exa.start ev18 hn24
  have F_middleAxis_34 : Fld s s.heap w_ZXZ_17 "com/example/rotarium/rotarium/EulerSequence" "middleAxis" "I" (.int (0 : Int32)) := Fld.start ((fld_at ev18).symm.trans (own_eqI hn25))
  have F_firstAxis_35 : Fld s s.heap w_ZXZ_17 "com/example/rotarium/rotarium/EulerSequence" "firstAxis" "I" (.int (2 : Int32)) := Fld.start ((fld_at ev18).symm.trans (own_eqI hn26))
  obtain ⟨w_YZY_19, ev20⟩ := exa_v hn27
  have S_YZY_36 : Sta s s.heap "com/example/rotarium/rotarium/EulerSequence" "YZY" "Lcom/example/rotarium/rotarium/EulerSequence;" (.ref w_YZY_19) := Sta.start ev20 (Or.inr ⟨(hw _ (List.mem_of_getElem? (i := 6) rfl)), (hw _ (List.mem_of_getElem? (i := 36) rfl))⟩)
  have E_37 : Exa s s.heap w_YZY_19 "com/example/rotarium/rotarium/EulerSequence" := Exa.start ev20 hn27
  have F_middleAxis_38 : Fld s s.heap w_YZY_19 "com/example/rotarium/rotarium/EulerSequence" "middleAxis" "I" (.int (2 : Int32)) := Fld.start ((fld_at ev20).symm.trans (own_eqI hn28))
  have F_firstAxis_39 : Fld s s.heap w_YZY_19 "com/example/rotarium/rotarium/EulerSequence" "firstAxis" "I" (.int (1 : Int32)) := Fld.start ((fld_at ev20).symm.trans (own_eqI hn29))
  obtain ⟨w_XYX_21, ev22⟩ := exa_v hn30
  have S_XYX_40 : Sta s s.heap "com/example/rotarium/rotarium/EulerSequence" "XYX" "Lcom/example/rotarium/rotarium/EulerSequence;" (.ref w_XYX_21) := Sta.start ev22 (Or.inr ⟨(hw _ (List.mem_of_getElem? (i := 6) rfl)), (hw _ (List.mem_of_getElem? (i := 38) rfl))⟩)
  have E_41 : Exa s s.heap w_XYX_21 "com/example/rotarium/rotarium/EulerSequence" := Exa.start ev22 hn30
  have F_middleAxis_42 : Fld s s.heap w_XYX_21 "com/example/rotarium/rotarium/EulerSequence" "middleAxis" "I" (.int (1 : Int32)) := Fld.start ((fld_at ev22).symm.trans (own_eqI hn31))
  have F_firstAxis_43 : Fld s s.heap w_XYX_21 "com/example/rotarium/rotarium/EulerSequence" "firstAxis" "I" (.int (0 : Int32)) := Fld.start ((fld_at ev22).symm.trans (own_eqI hn32))
  obtain ⟨w_ZYX_23, ev24⟩ := exa_v hn33
  have S_ZYX_44 : Sta s s.heap "com/example/rotarium/rotarium/EulerSequence" "ZYX" "Lcom/example/rotarium/rotarium/EulerSequence;" (.ref w_ZYX_23) := Sta.start ev24 (Or.inr ⟨(hw _ (List.mem_of_getElem? (i := 6) rfl)), (hw _ (List.mem_of_getElem? (i := 40) rfl))⟩)
  have E_45 : Exa s s.heap w_ZYX_23 "com/example/rotarium/rotarium/EulerSequence" := Exa.start ev24 hn33
  have F_middleAxis_46 : Fld s s.heap w_ZYX_23 "com/example/rotarium/rotarium/EulerSequence" "middleAxis" "I" (.int (1 : Int32)) := Fld.start ((fld_at ev24).symm.trans (own_eqI hn34))
  have F_firstAxis_47 : Fld s s.heap w_ZYX_23 "com/example/rotarium/rotarium/EulerSequence" "firstAxis" "I" (.int (2 : Int32)) := Fld.start ((fld_at ev24).symm.trans (own_eqI hr34))
  obtain ⟨n, o, h1, h2, h3, _, L, rfl, ⟨rfl, N, -⟩, hq⟩ := rm0 l s _ hw tables_1 i0 w_XYZ_1 w_YZX_3 w_YXZ_5 w_XZX_7 w_ZYZ_9 w_ZXY_11 w_YXY_13 w_XZY_15 w_ZXZ_17 w_YZY_19 w_XYX_21 w_ZYX_23 s.heap s.heap.size (Nat.le_refl _) S_XYZ_0 E_1 F_middleAxis_2 F_firstAxis_3 S_YZX_4 E_5 F_middleAxis_6 F_firstAxis_7 S_YXZ_8 E_9 F_middleAxis_10 F_firstAxis_11 S_XZX_12 E_13 F_middleAxis_14 F_firstAxis_15 S_ZYZ_16 E_17 F_middleAxis_18 F_firstAxis_19 S_ZXY_20 E_21 F_middleAxis_22 F_firstAxis_23 S_YXY_24 E_25 F_middleAxis_26 F_firstAxis_27 S_XZY_28 E_29 F_middleAxis_30 F_firstAxis_31 S_ZXZ_32 E_33 F_middleAxis_34 F_firstAxis_35 S_YZY_36 E_37 F_middleAxis_38 F_firstAxis_39 S_XYX_40 E_41 F_middleAxis_42 F_firstAxis_43 S_ZYX_44 E_45 F_middleAxis_46 F_firstAxis_47 p e ha hc hk s m _ below hf ((Spec.applies_iff_loose hf).mp happ).1 ⟨rfl, State.Warmed39.refl s, rfl⟩ trivial
  refine ⟨n, _, h1, h2, h3, hpost _ _ _ _ _ _ ⟨Cond.after_iff.mpr rfl, Cond.after_iff.mpr (eq_i res_at (Term.int_eval (1)) rfl), trivial⟩ ⟨hq.1, hq.2.1, (hq.2.2.sift fun y hy => Or.inr (N y hy)).mono (by decide) (by decide)⟩⟩
theorem main_1_1 : Claimed_1_1 := comes_1 fun _ _ _ _ _ _ h hF => ⟨h.1, hF⟩
theorem main_1_2 : Claimed_1_2 := comes_1 fun _ _ _ _ _ _ h hF => ⟨h.2.1, hF⟩
end Jvm.Pilot.@@N@@
namespace Jvm.Pilot.@@N@@
open Jvm Jvm.ClassFile Sem Op Lib Jvm.Free Jvm.Stand Jvm.Pilot.@@N@@.Jvm.D
/-! MADE BY PROGRAM (witnessworld.py) out of the Statement's table words and the real class files: 12 classes; the members and pool entries that the words name. The judged class is class 1, her method 1. -/
namespace start1
open Jvm.ClassFile
def u (s : String) : CpInfo := .utf8 (stringToUtf16 s)
/-- a pool by its gaps: so many unusable entries, then the entry; so many at the end -/
def gap : Nat → List CpInfo → List CpInfo
  | 0, r => r
  | n + 1, r => .unusable :: gap n r
def poolList (es : List (Nat × CpInfo)) (last : Nat) : List CpInfo := es.foldr (fun e r => gap e.1 (e.2 :: r)) (gap last [])
def pool (es : List (Nat × CpInfo)) (last : Nat) : Array CpInfo := ⟨poolList es last⟩
def fileOf (pool : Array CpInfo) (this : Nat) (attrs : Array Attribute := #[]) (ms : Array MethodInfo := #[]) (fl : Nat := 33) (sup : Nat := 0) (ifs : Array Nat := #[]) (fds : Array FieldInfo := #[]) : ClassFile where
  minorVersion := 0
  majorVersion := 65
  constantPool := pool
  accessFlags := fl
  thisClass := this
  superClass := sup
  interfaces := ifs
  fields := fds
  methods := ms
  attributes := attrs
def plain (name : String) (sup : Option ClassId) : Class where
  name := name
  kind := .ordinary
  loader := none
  accessFlags := 33
  super := sup
  interfaces := #[]
  cf := none
  fields := #[]
  methods := #[]
  instanceTypes := #[]
  staticTypes := #[]
  resolved := #[]
  callSites := []
  init := .initialized
  statics := none
  mirror := none

def pool0 : Array CpInfo := pool [(5, u "<init>"), (0, u "()V"), (1, .class_ 10), (1, u "java/lang/Object")] 113

def k0m0 : Method := { name := "<init>", desc := "()V", sig := { parameters := [], returnType := none }, accessFlags := 1, code := none }
/-- java/lang/Object -/
def k0 : Class := { plain "java/lang/Object" none with
  accessFlags := 33
  interfaces := #[]
  cf := some (fileOf pool0 8 #[] #[{ accessFlags := 1, nameIndex := 5, descriptorIndex := 6, attributes := #[] }] 33 0 #[] #[])
  fields := #[]
  methods := #[k0m0]
  instanceTypes := #[]
  staticTypes := #[]
  resolved := Array.replicate 124 none
  statics := none }

def pool1 : Array CpInfo := pool [(2, .class_ 4), (1, u "java/lang/Object"), (0, u "<init>"), (0, u "()V"), (0, .integer 2147483647), (0, .methodref 9 10), (0, .class_ 11), (0, .nameAndType 12 13), (0, u "com/example/rotarium/rotarium/EulerSequenceParityPinLaw"), (0, u "pick"), (0, u "(I)Lcom/example/rotarium/rotarium/EulerSequence;"), (0, .double 13830554455654793216), (1, .methodref 17 18), (0, .class_ 19), (0, .nameAndType 20 21), (0, u "com/example/rotarium/rotarium/EulerSequence"), (0, u "parity"), (0, u "()D"), (0, .fieldref 17 23), (0, .nameAndType 24 25), (0, u "XYZ"), (0, u "Lcom/example/rotarium/rotarium/EulerSequence;"), (0, .fieldref 17 27), (0, .nameAndType 28 25), (0, u "XZY"), (0, .fieldref 17 30), (0, .nameAndType 31 25), (0, u "YXZ"), (0, .fieldref 17 33), (0, .nameAndType 34 25), (0, u "YZX"), (0, .fieldref 17 36), (0, .nameAndType 37 25), (0, u "ZXY"), (0, .fieldref 17 39), (0, .nameAndType 40 25), (0, u "ZYX"), (0, .fieldref 17 42), (0, .nameAndType 43 25), (0, u "XYX"), (0, .fieldref 17 45), (0, .nameAndType 46 25), (0, u "XZX"), (0, .fieldref 17 48), (0, .nameAndType 49 25), (0, u "YXY"), (0, .fieldref 17 51), (0, .nameAndType 52 25), (0, u "YZY"), (0, .fieldref 17 54), (0, .nameAndType 55 25), (0, u "ZXZ"), (0, .fieldref 17 57), (0, .nameAndType 58 25), (0, u "ZYZ"), (2, u "law"), (0, u "(I)Z")] 3

def k1m0 : Method := { name := "<init>", desc := "()V", sig := { parameters := [], returnType := none }, accessFlags := 1, code := none }
def k1c1 : Code := { maxStack := 4, maxLocals := 5, code := code, exceptionTable := #[], attributes := #[] }
def k1m1 : Method := { name := "law", desc := "(I)Z", sig := { parameters := [.int], returnType := some .boolean }, accessFlags := 9, code := some k1c1 }
def k1c2 : Code := { maxStack := 2, maxLocals := 1, code := method_3_code, exceptionTable := #[], attributes := #[] }
def k1m2 : Method := { name := "pick", desc := "(I)Lcom/example/rotarium/rotarium/EulerSequence;", sig := { parameters := [.int], returnType := some (.object "com/example/rotarium/rotarium/EulerSequence") }, accessFlags := 10, code := some k1c2 }
/-- com/example/rotarium/rotarium/EulerSequenceParityPinLaw -/
def k1 : Class := { plain "com/example/rotarium/rotarium/EulerSequenceParityPinLaw" (some 0) with
  accessFlags := 49
  interfaces := #[]
  cf := some (fileOf pool1 9 #[] #[{ accessFlags := 1, nameIndex := 5, descriptorIndex := 6, attributes := #[] }, { accessFlags := 9, nameIndex := 61, descriptorIndex := 62, attributes := #[] }, { accessFlags := 10, nameIndex := 12, descriptorIndex := 13, attributes := #[] }] 49 2 #[] #[])
  fields := #[]
  methods := #[k1m0, k1m1, k1m2]
  instanceTypes := #[]
  staticTypes := #[]
  resolved := Array.replicate 66 none
  statics := none }

def pool2 : Array CpInfo := pool [(1, .class_ 2), (0, u "java/lang/constant/Constable"), (0, .class_ 4), (0, u "java/lang/Object")] 6

/-- java/lang/constant/Constable -/
def k2 : Class := { plain "java/lang/constant/Constable" (some 0) with
  accessFlags := 1537
  interfaces := #[]
  cf := some (fileOf pool2 1 #[] #[] 1537 3 #[] #[])
  fields := #[]
  methods := #[]
  instanceTypes := #[]
  staticTypes := #[]
  resolved := Array.replicate 11 none
  statics := none }

def pool3 : Array CpInfo := pool [(1, .class_ 2), (0, u "java/lang/Comparable"), (0, .class_ 4), (0, u "java/lang/Object")] 7

/-- java/lang/Comparable -/
def k3 : Class := { plain "java/lang/Comparable" (some 0) with
  accessFlags := 1537
  interfaces := #[]
  cf := some (fileOf pool3 1 #[] #[] 1537 3 #[] #[])
  fields := #[]
  methods := #[]
  instanceTypes := #[]
  staticTypes := #[]
  resolved := Array.replicate 12 none
  statics := none }

def pool4 : Array CpInfo := pool [(1, .class_ 2), (0, u "java/io/Serializable"), (0, .class_ 4), (0, u "java/lang/Object")] 2

/-- java/io/Serializable -/
def k4 : Class := { plain "java/io/Serializable" (some 0) with
  accessFlags := 1537
  interfaces := #[]
  cf := some (fileOf pool4 1 #[] #[] 1537 3 #[] #[])
  fields := #[]
  methods := #[]
  instanceTypes := #[]
  staticTypes := #[]
  resolved := Array.replicate 7 none
  statics := none }

def pool5 : Array CpInfo := pool [(2, .class_ 4), (1, u "java/lang/Enum"), (0, u "name"), (0, u "Ljava/lang/String;"), (2, u "ordinal"), (0, u "I"), (1, .class_ 14), (1, u "java/lang/Object"), (4, u "hash"), (86, .class_ 108), (1, u "java/lang/Enum$EnumDesc"), (2, .class_ 112), (0, u "java/lang/constant/Constable"), (0, .class_ 114), (0, u "java/lang/Comparable"), (0, .class_ 116), (0, u "java/io/Serializable")] 87

/-- java/lang/Enum -/
def k5 : Class := { plain "java/lang/Enum" (some 0) with
  accessFlags := 1057
  interfaces := #[2, 3, 4]
  cf := some (fileOf pool5 2 #[.nestMembers #[106]] #[] 1057 12 #[111, 113, 115] #[{ accessFlags := 18, nameIndex := 5, descriptorIndex := 6, attributes := #[] }, { accessFlags := 18, nameIndex := 9, descriptorIndex := 10, attributes := #[] }, { accessFlags := 2, nameIndex := 19, descriptorIndex := 10, attributes := #[] }])
  fields := #[{ name := "name", type := (.object "java/lang/String"), accessFlags := 18, slot := 0, constantValue := 0 }, { name := "ordinal", type := .int, accessFlags := 18, slot := 1, constantValue := 0 }, { name := "hash", type := .int, accessFlags := 2, slot := 2, constantValue := 0 }]
  methods := #[]
  instanceTypes := #[(.object "java/lang/String"), .int, .int]
  staticTypes := #[]
  resolved := Array.replicate 204 none
  statics := none }

def pool6 : Array CpInfo := pool [(1, .class_ 2), (0, u "com/example/rotarium/rotarium/EulerSequence"), (2, u "XYZ"), (0, u "Lcom/example/rotarium/rotarium/EulerSequence;"), (2, u "XZY"), (2, u "YXZ"), (2, u "YZX"), (2, u "ZXY"), (2, u "ZYX"), (2, u "XYX"), (2, u "XZX"), (2, u "YXY"), (2, u "YZY"), (2, u "ZXZ"), (2, u "ZYZ"), (2, u "$VALUES"), (0, u "[Lcom/example/rotarium/rotarium/EulerSequence;"), (6, .class_ 52), (1, u "java/lang/Enum"), (16, .fieldref 1 70), (0, .nameAndType 71 72), (0, u "firstAxis"), (0, u "I"), (0, .fieldref 1 74), (0, .nameAndType 75 72), (0, u "middleAxis"), (2, u "lastAxis"), (10, u "reversed"), (0, .double 13830554455654793216), (44, u "parity"), (0, u "()D")] 4

def k6c0 : Code := { maxStack := 2, maxLocals := 1, code := prog_5_method_10_code, exceptionTable := #[], attributes := #[] }
def k6m0 : Method := { name := "parity", desc := "()D", sig := { parameters := [], returnType := some .double }, accessFlags := 0, code := some k6c0 }
/-- com/example/rotarium/rotarium/EulerSequence -/
def k6 : Class := { plain "com/example/rotarium/rotarium/EulerSequence" (some 5) with
  accessFlags := 16433
  interfaces := #[]
  cf := some (fileOf pool6 1 #[] #[{ accessFlags := 0, nameIndex := 135, descriptorIndex := 136, attributes := #[] }] 16433 50 #[] #[{ accessFlags := 16409, nameIndex := 5, descriptorIndex := 6, attributes := #[] }, { accessFlags := 16409, nameIndex := 9, descriptorIndex := 6, attributes := #[] }, { accessFlags := 16409, nameIndex := 12, descriptorIndex := 6, attributes := #[] }, { accessFlags := 16409, nameIndex := 15, descriptorIndex := 6, attributes := #[] }, { accessFlags := 16409, nameIndex := 18, descriptorIndex := 6, attributes := #[] }, { accessFlags := 16409, nameIndex := 21, descriptorIndex := 6, attributes := #[] }, { accessFlags := 16409, nameIndex := 24, descriptorIndex := 6, attributes := #[] }, { accessFlags := 16409, nameIndex := 27, descriptorIndex := 6, attributes := #[] }, { accessFlags := 16409, nameIndex := 30, descriptorIndex := 6, attributes := #[] }, { accessFlags := 16409, nameIndex := 33, descriptorIndex := 6, attributes := #[] }, { accessFlags := 16409, nameIndex := 36, descriptorIndex := 6, attributes := #[] }, { accessFlags := 16409, nameIndex := 39, descriptorIndex := 6, attributes := #[] }, { accessFlags := 18, nameIndex := 71, descriptorIndex := 72, attributes := #[] }, { accessFlags := 18, nameIndex := 75, descriptorIndex := 72, attributes := #[] }, { accessFlags := 18, nameIndex := 78, descriptorIndex := 72, attributes := #[] }, { accessFlags := 2, nameIndex := 89, descriptorIndex := 6, attributes := #[] }, { accessFlags := 4122, nameIndex := 42, descriptorIndex := 43, attributes := #[] }])
  fields := #[{ name := "XYZ", type := (.object "com/example/rotarium/rotarium/EulerSequence"), accessFlags := 16409, slot := 0, constantValue := 0 }, { name := "XZY", type := (.object "com/example/rotarium/rotarium/EulerSequence"), accessFlags := 16409, slot := 1, constantValue := 0 }, { name := "YXZ", type := (.object "com/example/rotarium/rotarium/EulerSequence"), accessFlags := 16409, slot := 2, constantValue := 0 }, { name := "YZX", type := (.object "com/example/rotarium/rotarium/EulerSequence"), accessFlags := 16409, slot := 3, constantValue := 0 }, { name := "ZXY", type := (.object "com/example/rotarium/rotarium/EulerSequence"), accessFlags := 16409, slot := 4, constantValue := 0 }, { name := "ZYX", type := (.object "com/example/rotarium/rotarium/EulerSequence"), accessFlags := 16409, slot := 5, constantValue := 0 }, { name := "XYX", type := (.object "com/example/rotarium/rotarium/EulerSequence"), accessFlags := 16409, slot := 6, constantValue := 0 }, { name := "XZX", type := (.object "com/example/rotarium/rotarium/EulerSequence"), accessFlags := 16409, slot := 7, constantValue := 0 }, { name := "YXY", type := (.object "com/example/rotarium/rotarium/EulerSequence"), accessFlags := 16409, slot := 8, constantValue := 0 }, { name := "YZY", type := (.object "com/example/rotarium/rotarium/EulerSequence"), accessFlags := 16409, slot := 9, constantValue := 0 }, { name := "ZXZ", type := (.object "com/example/rotarium/rotarium/EulerSequence"), accessFlags := 16409, slot := 10, constantValue := 0 }, { name := "ZYZ", type := (.object "com/example/rotarium/rotarium/EulerSequence"), accessFlags := 16409, slot := 11, constantValue := 0 }, { name := "firstAxis", type := .int, accessFlags := 18, slot := 3, constantValue := 0 }, { name := "middleAxis", type := .int, accessFlags := 18, slot := 4, constantValue := 0 }, { name := "lastAxis", type := .int, accessFlags := 18, slot := 5, constantValue := 0 }, { name := "reversed", type := (.object "com/example/rotarium/rotarium/EulerSequence"), accessFlags := 2, slot := 6, constantValue := 0 }, { name := "$VALUES", type := (.array (.object "com/example/rotarium/rotarium/EulerSequence")), accessFlags := 4122, slot := 12, constantValue := 0 }]
  methods := #[k6m0]
  instanceTypes := #[(.object "java/lang/String"), .int, .int, .int, .int, .int, (.object "com/example/rotarium/rotarium/EulerSequence")]
  staticTypes := #[(.object "com/example/rotarium/rotarium/EulerSequence"), (.object "com/example/rotarium/rotarium/EulerSequence"), (.object "com/example/rotarium/rotarium/EulerSequence"), (.object "com/example/rotarium/rotarium/EulerSequence"), (.object "com/example/rotarium/rotarium/EulerSequence"), (.object "com/example/rotarium/rotarium/EulerSequence"), (.object "com/example/rotarium/rotarium/EulerSequence"), (.object "com/example/rotarium/rotarium/EulerSequence"), (.object "com/example/rotarium/rotarium/EulerSequence"), (.object "com/example/rotarium/rotarium/EulerSequence"), (.object "com/example/rotarium/rotarium/EulerSequence"), (.object "com/example/rotarium/rotarium/EulerSequence"), (.array (.object "com/example/rotarium/rotarium/EulerSequence"))]
  resolved := Array.replicate 141 none
  statics := some 0 }

def pool7 : Array CpInfo := pool [(1, u "java/lang/Cloneable"), (0, .class_ 1), (0, u "java/lang/Object"), (0, .class_ 3)] 3

/-- java/lang/Cloneable -/
def k7 : Class := { plain "java/lang/Cloneable" (some 0) with
  accessFlags := 1537
  interfaces := #[]
  cf := some (fileOf pool7 2 #[] #[] 1537 4 #[] #[])
  fields := #[]
  methods := #[]
  instanceTypes := #[]
  staticTypes := #[]
  resolved := Array.replicate 8 none
  statics := none }

/-- the primitive byte -/
def k8 : Class := { plain "byte" none with kind := .primitive 'B', accessFlags := 0x411 }
/-- [B -/
def k9 : Class := { plain "[B" (some 0) with kind := .array 8 .byte, interfaces := #[7, 4], accessFlags := 1041 }

/-- the primitive int -/
def k10 : Class := { plain "int" none with kind := .primitive 'I', accessFlags := 0x411 }
/-- [I -/
def k11 : Class := { plain "[I" (some 0) with kind := .array 10 .int, interfaces := #[7, 4], accessFlags := 1041 }

def heap : Heap := #[{ cls := 6, slots := #[.ref 1, .ref 8, .ref 3, .ref 2, .ref 6, .ref 12, .ref 11, .ref 4, .ref 7, .ref 10, .ref 9, .ref 5, .null], vm := .statics 6 },
  { cls := 6, slots := #[.null, .int 0, .int 0, .int 0, .int 1, .int 0, .null], vm := .none },
  { cls := 6, slots := #[.null, .int 0, .int 0, .int 1, .int 2, .int 0, .null], vm := .none },
  { cls := 6, slots := #[.null, .int 0, .int 0, .int 1, .int 0, .int 0, .null], vm := .none },
  { cls := 6, slots := #[.null, .int 0, .int 0, .int 0, .int 2, .int 0, .null], vm := .none },
  { cls := 6, slots := #[.null, .int 0, .int 0, .int 2, .int 1, .int 0, .null], vm := .none },
  { cls := 6, slots := #[.null, .int 0, .int 0, .int 2, .int 0, .int 0, .null], vm := .none },
  { cls := 6, slots := #[.null, .int 0, .int 0, .int 1, .int 0, .int 0, .null], vm := .none },
  { cls := 6, slots := #[.null, .int 0, .int 0, .int 0, .int 2, .int 0, .null], vm := .none },
  { cls := 6, slots := #[.null, .int 0, .int 0, .int 2, .int 0, .int 0, .null], vm := .none },
  { cls := 6, slots := #[.null, .int 0, .int 0, .int 1, .int 2, .int 0, .null], vm := .none },
  { cls := 6, slots := #[.null, .int 0, .int 0, .int 0, .int 1, .int 0, .null], vm := .none },
  { cls := 6, slots := #[.null, .int 0, .int 0, .int 2, .int 1, .int 0, .null], vm := .none }]
def classes : Array Class := #[k0, k1, k2, k3, k4, k5, k6, k7, k8, k9, k10, k11]
def interned : List (Array UInt16 × Addr) := []
def slotsUsed : Nat := 97
def theMethod : MethodId := ⟨1, 1⟩
def args0 : Array Value := #[.int 3]
def aboutOver (below : List Frame) : State where
  vm := { classes := classes, interned := interned.toArray }
  heap := heap
  slotsUsed := slotsUsed
  threads := #[{ frames := .invoking theMethod args0 :: below }]
def below0 : List Frame := [.native { method := ⟨0, 0⟩, args := #[] }]
def about1 : State := aboutOver below0
def p0 : Program := .bare "" "" ""
def e0 : Env := launch0.env 0 0 0
theorem w_frames : about1.frames = Frame.invoking theMethod args0 :: below0 := rfl
set_option maxRecDepth 65536 in
theorem w_args : argsFit about1.vm theMethod args0 = true := by decide +kernel
set_option maxRecDepth 65536 in
theorem w_heap : heapFits about1 = true := by decide +kernel
set_option maxRecDepth 65536 in
theorem w_runnable : about1.curStatus? = some .runnable := by decide +kernel
set_option maxRecDepth 65536 in
theorem w_alone : about1.alone = true := by decide +kernel
set_option maxRecDepth 65536 in
theorem w_named : about1.methodNamed? x = some theMethod := by decide +kernel
set_option maxRecDepth 65536 in
theorem w_hears : about1.hears theMethod below0 = true := by decide +kernel
set_option maxRecDepth 65536 in
theorem w_ripe : about1.ripe theMethod args0 below0 = true := by decide +kernel
theorem w_running : about1.status = .running := rfl
set_option maxRecDepth 65536 in
theorem w_room : about1.hasRoom e0.platform room_1 = true :=
  launch0.hasRoom_least _ room_1 (by decide +kernel) (by decide +kernel) (by decide +kernel) (by decide +kernel) (by decide +kernel) (by decide +kernel)
theorem allAtoms_all (ts : List Jvm.Cond) (a : Array Jvm.Value) (st : Jvm.State) : (allAtoms ts).before a st = ts.all (fun c => c.before a st) := by
  induction ts with
  | nil => rfl
  | cons c t ih =>
    show (Jvm.Cond.and c (allAtoms t)).before a st = _
    rw [Jvm.Cond.before_and, ih, List.all_cons]
def words1 : List Jvm.Cond := Jvm.Cond.code x code maxLocals ret :: tables_1
/-- a 'code' word, met by the world's own term for the bytes: nothing is compared byte by byte -/
theorem code_word {y : MethodName} {bytes : ByteArray} {mx : Nat} {rt : Option FieldType} {a : Array Value} {s : State} {m : MethodId} {meth : Method} {c : Code} (h1 : s.methodNamed? y = some m) (h2 : s.vm.method? m = some meth) (h3 : meth.code = some c) (h4 : c.code = bytes)
    (h5 : (c.maxLocals == mx && c.exceptionTable.isEmpty && decide (c.maxStack ≤ mostOperands) && decide (meth.sig.returnType = rt) && !meth.locks && decide (parseMethodDescriptor y.desc = some meth.sig)) = true) : (Jvm.Cond.code y bytes mx rt).before a s = true := by
  simp only [Bool.and_eq_true, beq_iff_eq, Bool.not_eq_true', decide_eq_true_eq] at h5
  obtain ⟨⟨⟨⟨⟨g1, g2⟩, g3⟩, g4⟩, g5⟩, g6⟩ := h5
  simp [Cond.before, Cond.holds, Cond.value, h1, h2, h3, h4, g1, g2, g3, g4, g5, g6]
def isCode : Jvm.Cond → Bool
  | .code _ _ _ _ => true
  | _ => false
theorem all_split {L : List Jvm.Cond} {P : Jvm.Cond → Bool} (h1 : L.all (fun c => isCode c || P c) = true) (h2 : ∀ c ∈ L.filter isCode, P c = true) : L.all P = true := by
  refine List.all_eq_true.mpr fun c hc => ?_
  have h := List.all_eq_true.mp h1 c hc
  rcases Bool.eq_false_or_eq_true (isCode c) with hi | hi
  · exact h2 c (List.mem_filter.mpr ⟨hc, hi⟩)
  · simpa [hi] using h
set_option maxRecDepth 65536 in
theorem w_c0 : (Jvm.Cond.code x code maxLocals ret).before args0 about1 = true := code_word (m := ⟨1, 1⟩) (meth := k1m1) (c := k1c1) (by decide +kernel) rfl rfl rfl (by decide +kernel)
set_option maxRecDepth 65536 in
theorem w_c1 : (Jvm.Cond.code ({ cls := "com/example/rotarium/rotarium/EulerSequenceParityPinLaw", name := "pick", desc := "(I)Lcom/example/rotarium/rotarium/EulerSequence;" } : Jvm.MethodName) method_3_code (1 : Nat) (Option.some (Jvm.ClassFile.FieldType.object "com/example/rotarium/rotarium/EulerSequence"))).before args0 about1 = true := code_word (m := ⟨1, 2⟩) (meth := k1m2) (c := k1c2) (by decide +kernel) rfl rfl rfl (by decide +kernel)
set_option maxRecDepth 65536 in
theorem w_c2 : (Jvm.Cond.code ({ cls := "com/example/rotarium/rotarium/EulerSequence", name := "parity", desc := "()D" } : Jvm.MethodName) prog_5_method_10_code (1 : Nat) (Option.some Jvm.ClassFile.FieldType.double)).before args0 about1 = true := code_word (m := ⟨6, 0⟩) (meth := k6m0) (c := k6c0) (by decide +kernel) rfl rfl rfl (by decide +kernel)
def codes1 : List Jvm.Cond := [Jvm.Cond.code x code maxLocals ret, Jvm.Cond.code ({ cls := "com/example/rotarium/rotarium/EulerSequenceParityPinLaw", name := "pick", desc := "(I)Lcom/example/rotarium/rotarium/EulerSequence;" } : Jvm.MethodName) method_3_code (1 : Nat) (Option.some (Jvm.ClassFile.FieldType.object "com/example/rotarium/rotarium/EulerSequence")), Jvm.Cond.code ({ cls := "com/example/rotarium/rotarium/EulerSequence", name := "parity", desc := "()D" } : Jvm.MethodName) prog_5_method_10_code (1 : Nat) (Option.some Jvm.ClassFile.FieldType.double)]
set_option maxRecDepth 65536 in
theorem codes_eq : words1.filter isCode = codes1 := rfl
theorem w_codes : ∀ c ∈ words1.filter isCode, c.before args0 about1 = true := by
  rw [codes_eq]
  intro c hc
  simp only [codes1, List.mem_cons, List.not_mem_nil, or_false] at hc
  rcases hc with rfl | rfl | rfl
  · exact w_c0
  · exact w_c1
  · exact w_c2
set_option maxRecDepth 65536 in
theorem w_t1 : (words1.take 24).all (fun c => isCode c || c.before args0 about1) = true := by decide +kernel
set_option maxRecDepth 65536 in
theorem w_t2 : (words1.drop 24).all (fun c => isCode c || c.before args0 about1) = true := by decide +kernel
theorem w_tables : (allAtoms (Jvm.Cond.code x code maxLocals ret :: tables_1)).before args0 about1 = true := by
  rw [allAtoms_all]
  show words1.all (fun c => c.before args0 about1) = true
  refine all_split ?_ w_codes
  rw [← List.take_append_drop 24 words1, List.all_append, w_t1, w_t2]
  rfl
set_option maxRecDepth 65536 in
theorem w_case : (Jvm.Cond.and given_1 narrow_1).before args0 about1 = true := by decide +kernel
theorem w_applies : (headSpec (Jvm.Cond.code x code maxLocals ret :: tables_1) room_1).applies x e0.platform about1 = true :=
  (Spec.applies_iff w_frames).mpr ⟨w_running, w_runnable, w_alone, w_named, w_hears, w_ripe, w_room, w_tables⟩
theorem atStart : AtStart classFile x code maxLocals ret World_1 tables_1 room_1 Calls_1 rest_1 Pre_1 launch0 p0 e0 about1 theMethod args0 below0 :=
  ⟨lists_1, trivial, launch0.admits_env _ _ _, launch0.least_env, fairChoices_fair.cas, fairChoices_fair.clock, w_frames, w_args, w_heap, w_applies, trivial, trivial, w_case⟩
end start1
theorem witness_1 : WitnessClaimed_1 := ⟨start1.p0, start1.e0, start1.about1, start1.theMethod, start1.args0, start1.below0, start1.atStart⟩
end Jvm.Pilot.@@N@@
