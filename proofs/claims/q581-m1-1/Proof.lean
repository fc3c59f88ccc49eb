import JvmDerived
import JvmDerived.Pilot.@@N@@Statement
import JvmDerived.Pilot.@@N@@Code
set_option linter.unusedVariables false
set_option linter.unusedSimpArgs false
namespace Jvm.RoadKit
open Sem ClassFile Op Lib Jvm.Stand Jvm.Free Jvm.LawKit
section New
variable {p : Program} {l : Launch} {e : Env} {R : Room} {s : State} {m : MethodId} {args : Array Value} {below : List Frame} {meth : Method} {c : Code} {T : State} {locs : List Loc} {cells slots : Nat}
theorem retI (X : Stand p l e R s m args below meth c T locs cells slots) (hx : p.tables.exec = Jvm.exec) {pc : Nat} {Ls : Array Slot} {z : Int32} {rest : List Value} (hret : meth.sig.returnType = some .int) (hd : decode c.code pc = .ok (.ireturn, 1)) {fs : List Frame}
    (hl : ∀ (f : JFrame) (acts : List Action), f.method = m → f.locked = none → f.entered = [] → (doReturn e (T.setTop f) acts (some (.int z))).1 = T.setFrames fs) : Steps p.tables e below (T.setTop (mkF m pc Ls (.int z :: rest))) (T.setFrames fs) := by
  have hm' : T.vm.method? m = some meth := X.method'
  have hn : narrow .int (.int z) = .int z := rfl
  show Steps p.tables e below (T.setTop { method := m, pc := pc, locals := Ls, stack := _ :: rest, locked := none }) _
  jvm_step X.here [X.here.top, hx, hd, hm', hret, hn]
  first | (intro acts; rw [hl _ acts rfl rfl rfl]) | rw [hl _ _ rfl rfl rfl]
  exact Steps.refl _
end New
end Jvm.RoadKit
namespace Jvm.Pilot.@@N@@
open Jvm Jvm.ClassFile Sem Op Lib Jvm.Free Jvm.Stand Jvm.LawKit Jvm.RoadKit Bundle Jvm.Pilot.@@N@@.Jvm.D
theorem own_eqI {t : Term} {args : Array Value} {first s : State} {o : Option Outcome} {idx : List Nat} {k : Int32} (h : (Jvm.Cond.eq t (.int k)).value args first o s idx = some true) : t.eval args first o idx s = some (.int k) := by
  cases ht : t.eval args first o idx s with
  | none => simp [Cond.value, ht] at h
  | some x => cases x <;> simp [Cond.value, ht, Term.eval] at h ⊢ <;> exact h
theorem own_eqJ {t : Term} {args : Array Value} {first s : State} {o : Option Outcome} {idx : List Nat} {k : Int64} (h : (Jvm.Cond.eq t (.long k)).value args first o s idx = some true) : t.eval args first o idx s = some (.long k) := by
  cases ht : t.eval args first o idx s with
  | none => simp [Cond.value, ht] at h
  | some x => cases x <;> simp [Cond.value, ht, Term.eval] at h ⊢ <;> exact h
theorem own_eqR {t u : Term} {args : Array Value} {first s : State} {o : Option Outcome} {idx : List Nat} {x : Addr} (h : (Jvm.Cond.eq t u).value args first o s idx = some true) (hu : u.eval args first o idx s = some (.ref x)) : t.eval args first o idx s = some (.ref x) := by
  cases ht : t.eval args first o idx s with
  | none => simp [Cond.value, ht] at h
  | some z => cases z <;> simp [Cond.value, ht, hu] at h ⊢ <;> exact h
theorem cat_of {v : Value} (h : v.isRef = true) : v.category = 1 := by rcases ref_cases h with rfl | ⟨a, rfl⟩ <;> rfl
theorem own_fits {n : String} {v : Value} (h : v.isRef = true) : fits (.object n) v = true := by rcases ref_cases h with rfl | ⟨a, rfl⟩ <;> rfl
theorem own_exa_ns {Z : State} {h : Heap} {a : Addr} {C : String} (E : Exa Z h a C) : ∀ c : Cell, h[a]? = some c → c.vm.isStatics = false := fun c hc => by
  obtain ⟨cell, k, h1, -, -, h4, -⟩ := E
  cases h1.symm.trans hc; exact h4
theorem own_sta_keep {Z : State} {h h' : Heap} {ws : List Addr} {C n d : String} {v : Value} (F : Sta Z h C n d v) (K : Keep h h' ws) (q : ∀ x ∈ ws, ∀ c : Cell, h[x]? = some c → c.vm.isStatics = false) : Sta Z h' C n d v := by
  obtain ⟨cf, i, k, f, st, cell, h1, h2, h3, h4, h5, h6, r⟩ := F
  refine ⟨cf, i, k, f, st, cell, h1, h2, h3, h4, K.2.1 st cell h5 (fun hm => ?_), h6, r⟩
  have := q st hm cell h5
  rw [h6] at this; cases this
theorem own_bm (x : Int32) : 10 ≤ (10 + ((x &&& 2147483647) % 86399991).toInt64).toInt ∧ (10 + ((x &&& 2147483647) % 86399991).toInt64).toInt ≤ 86400000 := by
  have h := c_and x 2147483647 (by decide)
  have g := (c_irem (x &&& 2147483647) 86399991 86399991 rfl).1 h.1
  have h3 := c_ladd 10 ((x &&& 2147483647) % 86399991).toInt64
  have h4 : (10 : Int64).toInt = 10 := by decide
  have h5 := rng64 (10 + ((x &&& 2147483647) % 86399991).toInt64)
  have h6 := Int.emod_nonneg (x &&& 2147483647).toInt (show (86399991 : Int) ≠ 0 by decide)
  have h7 := Int.emod_lt_of_pos (x &&& 2147483647).toInt (show (0 : Int) < 86399991 by decide)
  rw [c_i2l, g, h4] at h3
  generalize (10 + ((x &&& 2147483647) % 86399991).toInt64).toInt = y at *
  generalize (x &&& 2147483647).toInt % 86399991 = z at *
  omega
theorem own_le {m : Int64} (h : 10 ≤ m.toInt ∧ m.toInt ≤ 86400000) : ¬ ((9223372036854 : Int64) < m) := by
  rw [Int64.lt_iff_toInt_lt]
  have : (9223372036854 : Int64).toInt = 9223372036854 := by decide
  omega
theorem own_ge {m : Int64} (h : 10 ≤ m.toInt ∧ m.toInt ≤ 86400000) : ¬ (m < (-(9223372036854 : Int64))) := by
  rw [Int64.lt_iff_toInt_lt]
  have : (-(9223372036854 : Int64)).toInt = -9223372036854 := by decide
  omega
theorem own_div {m : Int64} (h : 10 ≤ m.toInt ∧ m.toInt ≤ 86400000) : (m * 1000000) / 100 = m * 10000 := by
  have h1 := c_lmul m 1000000
  have h2 := c_lmul m 10000
  have q1 : (1000000 : Int64).toInt = 1000000 := by decide
  have q2 : (10000 : Int64).toInt = 10000 := by decide
  rw [q1] at h1; rw [q2] at h2
  have r1 := rng64 (m * 1000000)
  have r2 := rng64 (m * 10000)
  have e1 : (m * 1000000).toInt = m.toInt * 1000000 := by omega
  have e2 : (m * 10000).toInt = m.toInt * 10000 := by omega
  apply Int64.toInt_inj.mp
  rw [(c_ldiv (m * 1000000) 100 100 rfl (by decide)).1 (by omega), e1, e2]
  omega
theorem own_alg {a m : Int64} (h : 10 ≤ m.toInt ∧ m.toInt ≤ 86400000) : ((a + (m * 1000000)) + ((m * 10000) + 2000000)) - a = ((m * 1000000) + ((m * 1000000) / 100)) + 2000000 := by
  rw [own_div h]; grind
theorem pn_0 : plainName "java/util/concurrent/TimeUnit" = true := by first | (simp [plainName, overriddenIn]; done) | decide +kernel
theorem d2_0 : decode jdk_2799_method_7_code 0 = .ok (.aload_n 0, 1) := by decide +kernel
theorem d2_1 : decode jdk_2799_method_7_code 1 = .ok (.getfield 44, 3) := by decide +kernel
theorem d2_4 : decode jdk_2799_method_7_code 4 = .ok (.dup2, 1) := by decide +kernel
theorem d2_5 : decode jdk_2799_method_7_code 5 = .ok (.lstore_n 3, 1) := by decide +kernel
theorem d2_6 : decode jdk_2799_method_7_code 6 = .ok (.lconst 1, 1) := by decide +kernel
theorem d2_7 : decode jdk_2799_method_7_code 7 = .ok (.lcmp, 1) := by decide +kernel
theorem d2_8 : decode jdk_2799_method_7_code 8 = .ok (.ifCond .ne 5, 3) := by decide +kernel
theorem d2_13 : decode jdk_2799_method_7_code 13 = .ok (.lload_n 1, 1) := by decide +kernel
theorem d2_14 : decode jdk_2799_method_7_code 14 = .ok (.aload_n 0, 1) := by decide +kernel
theorem d2_15 : decode jdk_2799_method_7_code 15 = .ok (.getfield 52, 3) := by decide +kernel
theorem d2_18 : decode jdk_2799_method_7_code 18 = .ok (.dup2, 1) := by decide +kernel
theorem d2_19 : decode jdk_2799_method_7_code 19 = .ok (.lstore 5, 2) := by decide +kernel
theorem d2_21 : decode jdk_2799_method_7_code 21 = .ok (.lcmp, 1) := by decide +kernel
theorem d2_22 : decode jdk_2799_method_7_code 22 = .ok (.ifCond .le 7, 3) := by decide +kernel
theorem d2_29 : decode jdk_2799_method_7_code 29 = .ok (.lload_n 1, 1) := by decide +kernel
theorem d2_30 : decode jdk_2799_method_7_code 30 = .ok (.lload 5, 2) := by decide +kernel
theorem d2_32 : decode jdk_2799_method_7_code 32 = .ok (.lneg, 1) := by decide +kernel
theorem d2_33 : decode jdk_2799_method_7_code 33 = .ok (.lcmp, 1) := by decide +kernel
theorem d2_34 : decode jdk_2799_method_7_code 34 = .ok (.ifCond .ge 7, 3) := by decide +kernel
theorem d2_41 : decode jdk_2799_method_7_code 41 = .ok (.lload_n 1, 1) := by decide +kernel
theorem d2_42 : decode jdk_2799_method_7_code 42 = .ok (.lload_n 3, 1) := by decide +kernel
theorem d2_43 : decode jdk_2799_method_7_code 43 = .ok (.lmul, 1) := by decide +kernel
theorem d2_44 : decode jdk_2799_method_7_code 44 = .ok (.lreturn, 1) := by decide +kernel
theorem ef_2 (m : MethodId) (x0 : Addr) (x1 : Int64)  : entryFrame m #[(.ref x0), (.long x1)] 7 = mkF m 0 #[.val (.ref x0), .val (.long x1), .second, .unset, .unset, .unset, .unset] [] := by first | (simp [entryFrame, mkF, argsToLocals, Value.category]; done) | rfl
def Q2 (Z : State) (a0 : Addr) (q1 : Int64) (h0 : Heap) (n0 : Nat) (v : Option Value) (h : Heap) (L : List Loc) : Prop := v = some (.long (q1 * (1000000 : Int64))) ∧ Fr n0 L ∧ h = h0
set_option maxRecDepth 65536 in
set_option maxHeartbeats 40000000 in
theorem rm2 (l : Launch) (Z : State) (a0 : Array Value) (hw : ∀ d ∈ tables_1, d.before a0 Z = true) (ws : List Jvm.Cond) (a0 : Addr) (q1 : Int64) (h0 : Heap) (n0 : Nat) (Z0 : n0 ≤ h0.size) (hle : ¬ ((9223372036854 : Int64) < q1)) (hge : ¬ (q1 < (-(9223372036854 : Int64)))) (Ff_scale_2 : Fld Z h0 a0 "java/util/concurrent/TimeUnit" "scale" "J" (.long (1000000 : Int64))) (Ff_maxNanos_3 : Fld Z h0 a0 "java/util/concurrent/TimeUnit" "maxNanos" "J" (.long (9223372036854 : Int64))) :
    MetFree l (⟨"java/util/concurrent/TimeUnit", "toNanos", "(J)J"⟩ : MethodName) (head1 (Jvm.Cond.code (⟨"java/util/concurrent/TimeUnit", "toNanos", "(J)J"⟩ : MethodName) jdk_2799_method_7_code 7 (some .long) :: ws) ({ frames := 0, cells := 0, slots := 0, locals := 0 } : Room)) (fun a U => a = #[(.ref a0), (.long q1)] ∧ Z.Warmed39 U.vm ∧ U.heap = h0) (fun _ _ _ _ _ => True) (fun _ U o U' => ∃ v L, o = .returned v ∧ Q2 Z a0 q1 h0 n0 v U'.heap L ∧ FrameEnd U o U' L ({ frames := 0, cells := 0, slots := 0, locals := 0 } : Room).cells ({ frames := 0, cells := 0, slots := 0, locals := 0 } : Room).slots) := by
  refine MetFree.of_bodySF (plainFor_of_name pn_0) hisR ?_
  intro p e s m args below meth c s₁ Bd hml0 hP hK
  obtain ⟨rfl, hZ, hh⟩ := hP
  have hx := Bd.exec
  have hby := Bd.bytes
  have hml : c.maxLocals = 7 := hml0
  have hown : s.vm.findClass "java/util/concurrent/TimeUnit" = some m.cls := findClass_of_methodNamed Bd.named
  have hnm := (name_of_methodNamed Bd.named Bd.method).1
  have X0 : Stand p l e ({ frames := 0, cells := 0, slots := 0, locals := 0 } : Room) s m #[(.ref a0), (.long q1)] below meth c s₁ [] 0 0 := Stand.of_body Bd
  have e0 : s₁.heap = h0 := by rw [← hh, Bd.state]; rfl
  have N0 := Fr.nil n0
  have pre0 : ∀ t, Steps p.tables e below (s₁.setTop (mkF m 0 #[.val (.ref a0), .val (.long q1), .second, .unset, .unset, .unset, .unset] [])) t → Steps p.tables e below (s₁.setTop (entryFrame m #[(.ref a0), (.long q1)] 7)) t := fun t k => castTop (ef_2 m a0 q1 ) k
  obtain ⟨T1, X1, e1, st1⟩ := getF X0 hx hZ hown (host := "") (Or.inl (hw _ (List.mem_of_getElem? (i := 14) rfl))) Via.refl e0 Ff_scale_2 (g := (mkF m 1 #[.val (.ref a0), .val (.long q1), .second, .unset, .unset, .unset, .unset] [(.ref a0)])) rfl rfl (hb hby d2_1)
  obtain ⟨T2, X2, e2, st2⟩ := getF X1 hx hZ hown (host := "") (Or.inl (hw _ (List.mem_of_getElem? (i := 16) rfl))) Via.refl e1 Ff_maxNanos_3 (g := (mkF m 15 #[.val (.ref a0), .val (.long q1), .second, .val (.long (1000000 : Int64)), .second, .unset, .unset] [(.ref a0), (.long q1)])) rfl rfl (hb hby d2_15)
  have pre3 : ∀ t, Steps p.tables e below (T2.setTop (mkF m 44 #[.val (.ref a0), .val (.long q1), .second, .val (.long (1000000 : Int64)), .second, .val (.long (9223372036854 : Int64)), .second] [(.long (q1 * (1000000 : Int64)))])) t → Steps p.tables e below (s₁.setTop (entryFrame m #[(.ref a0), (.long q1)] 7)) t := fun t kt => pre0 t (by
      show Steps p.tables e below (s₁.setTop (mkF m 0 #[.val (.ref a0), .val (.long q1), .second, .unset, .unset, .unset, .unset] [])) _
      refine XS.aloadN X0.here hx rfl (hb hby d2_0) rfl rfl ?_
      show Steps p.tables e below (s₁.setTop (mkF m 1 #[.val (.ref a0), .val (.long q1), .second, .unset, .unset, .unset, .unset] [(.ref a0)])) _
      refine st1 _ ?_
      show Steps p.tables e below (T1.setTop (mkF m 4 #[.val (.ref a0), .val (.long q1), .second, .unset, .unset, .unset, .unset] [(.long (1000000 : Int64))])) _
      refine Jvm.Free.XT.dup2L X1.here hx rfl (hb hby d2_4) rfl ?_
      show Steps p.tables e below (T1.setTop (mkF m 5 #[.val (.ref a0), .val (.long q1), .second, .unset, .unset, .unset, .unset] [(.long (1000000 : Int64)), (.long (1000000 : Int64))])) _
      refine XS.lstoreN X1.here hx rfl (hb hby d2_5) rfl (l' := #[.val (.ref a0), .val (.long q1), .second, .val (.long (1000000 : Int64)), .second, .unset, .unset]) rfl ?_
      show Steps p.tables e below (T1.setTop (mkF m 6 #[.val (.ref a0), .val (.long q1), .second, .val (.long (1000000 : Int64)), .second, .unset, .unset] [(.long (1000000 : Int64))])) _
      refine XS.lconst X1.here hx rfl (hb hby d2_6) ?_
      show Steps p.tables e below (T1.setTop (mkF m 7 #[.val (.ref a0), .val (.long q1), .second, .val (.long (1000000 : Int64)), .second, .unset, .unset] [(.long (1 : Int64)), (.long (1000000 : Int64))])) _
      refine XS.lcmp X1.here hx rfl (hb hby d2_7) rfl ?_
      show Steps p.tables e below (T1.setTop (mkF m 8 #[.val (.ref a0), .val (.long q1), .second, .val (.long (1000000 : Int64)), .second, .unset, .unset] [(.int (lcmpW (1000000 : Int64) (1 : Int64)))])) _
      refine XS.ifYes X1.here hx rfl (pc0 := 8) (pc' := 13) rfl (hb hby d2_8) rfl ((if0 _ _).trans (feq (by decide : ¬ (lcmpW (1000000 : Int64) (1 : Int64) = (0 : Int32)))).2) (by decide) (by decide) ?_
      show Steps p.tables e below (T1.setTop (mkF m 13 #[.val (.ref a0), .val (.long q1), .second, .val (.long (1000000 : Int64)), .second, .unset, .unset] [])) _
      refine XS.lloadN X1.here hx rfl (hb hby d2_13) rfl ?_
      show Steps p.tables e below (T1.setTop (mkF m 14 #[.val (.ref a0), .val (.long q1), .second, .val (.long (1000000 : Int64)), .second, .unset, .unset] [(.long q1)])) _
      refine XS.aloadN X1.here hx rfl (hb hby d2_14) rfl rfl ?_
      show Steps p.tables e below (T1.setTop (mkF m 15 #[.val (.ref a0), .val (.long q1), .second, .val (.long (1000000 : Int64)), .second, .unset, .unset] [(.ref a0), (.long q1)])) _
      refine st2 _ ?_
      show Steps p.tables e below (T2.setTop (mkF m 18 #[.val (.ref a0), .val (.long q1), .second, .val (.long (1000000 : Int64)), .second, .unset, .unset] [(.long (9223372036854 : Int64)), (.long q1)])) _
      refine Jvm.Free.XT.dup2L X2.here hx rfl (hb hby d2_18) rfl ?_
      show Steps p.tables e below (T2.setTop (mkF m 19 #[.val (.ref a0), .val (.long q1), .second, .val (.long (1000000 : Int64)), .second, .unset, .unset] [(.long (9223372036854 : Int64)), (.long (9223372036854 : Int64)), (.long q1)])) _
      refine XS.lstore X2.here hx rfl (hb hby d2_19) rfl (l' := #[.val (.ref a0), .val (.long q1), .second, .val (.long (1000000 : Int64)), .second, .val (.long (9223372036854 : Int64)), .second]) rfl ?_
      show Steps p.tables e below (T2.setTop (mkF m 21 #[.val (.ref a0), .val (.long q1), .second, .val (.long (1000000 : Int64)), .second, .val (.long (9223372036854 : Int64)), .second] [(.long (9223372036854 : Int64)), (.long q1)])) _
      refine XS.lcmp X2.here hx rfl (hb hby d2_21) rfl ?_
      show Steps p.tables e below (T2.setTop (mkF m 22 #[.val (.ref a0), .val (.long q1), .second, .val (.long (1000000 : Int64)), .second, .val (.long (9223372036854 : Int64)), .second] [(.int (lcmpW q1 (9223372036854 : Int64)))])) _
      refine XS.ifYes X2.here hx rfl (pc0 := 22) (pc' := 29) rfl (hb hby d2_22) rfl ((if0 _ _).trans (flt (fun z => hle ((lw_gt _ _).mp z))).2.2.2) (by decide) (by decide) ?_
      show Steps p.tables e below (T2.setTop (mkF m 29 #[.val (.ref a0), .val (.long q1), .second, .val (.long (1000000 : Int64)), .second, .val (.long (9223372036854 : Int64)), .second] [])) _
      refine XS.lloadN X2.here hx rfl (hb hby d2_29) rfl ?_
      show Steps p.tables e below (T2.setTop (mkF m 30 #[.val (.ref a0), .val (.long q1), .second, .val (.long (1000000 : Int64)), .second, .val (.long (9223372036854 : Int64)), .second] [(.long q1)])) _
      refine XS.lload X2.here hx rfl (hb hby d2_30) rfl ?_
      show Steps p.tables e below (T2.setTop (mkF m 32 #[.val (.ref a0), .val (.long q1), .second, .val (.long (1000000 : Int64)), .second, .val (.long (9223372036854 : Int64)), .second] [(.long (9223372036854 : Int64)), (.long q1)])) _
      refine XS.lneg X2.here hx rfl (hb hby d2_32) rfl ?_
      show Steps p.tables e below (T2.setTop (mkF m 33 #[.val (.ref a0), .val (.long q1), .second, .val (.long (1000000 : Int64)), .second, .val (.long (9223372036854 : Int64)), .second] [(.long (-(9223372036854 : Int64))), (.long q1)])) _
      refine XS.lcmp X2.here hx rfl (hb hby d2_33) rfl ?_
      show Steps p.tables e below (T2.setTop (mkF m 34 #[.val (.ref a0), .val (.long q1), .second, .val (.long (1000000 : Int64)), .second, .val (.long (9223372036854 : Int64)), .second] [(.int (lcmpW q1 (-(9223372036854 : Int64))))])) _
      refine XS.ifYes X2.here hx rfl (pc0 := 34) (pc' := 41) rfl (hb hby d2_34) rfl ((if0 _ _).trans (flt (fun z => hge ((lw_lt _ _).mp z))).2.1) (by decide) (by decide) ?_
      show Steps p.tables e below (T2.setTop (mkF m 41 #[.val (.ref a0), .val (.long q1), .second, .val (.long (1000000 : Int64)), .second, .val (.long (9223372036854 : Int64)), .second] [])) _
      refine XS.lloadN X2.here hx rfl (hb hby d2_41) rfl ?_
      show Steps p.tables e below (T2.setTop (mkF m 42 #[.val (.ref a0), .val (.long q1), .second, .val (.long (1000000 : Int64)), .second, .val (.long (9223372036854 : Int64)), .second] [(.long q1)])) _
      refine XS.lloadN X2.here hx rfl (hb hby d2_42) rfl ?_
      show Steps p.tables e below (T2.setTop (mkF m 43 #[.val (.ref a0), .val (.long q1), .second, .val (.long (1000000 : Int64)), .second, .val (.long (9223372036854 : Int64)), .second] [(.long (1000000 : Int64)), (.long q1)])) _
      refine XS.lmul X2.here hx rfl (hb hby d2_43) rfl ?_
      exact kt)
  obtain ⟨fs, hr, hrun, hended, hW, hsame⟩ := X2.leave (v := some (.long (q1 * (1000000 : Int64)))) (fun h => by rw [Bd.returns] at h; cases h)
  refine ⟨_, _, pre3 _ ?_, hrun, hended, _, _, rfl, ?_, ⟨_, rfl⟩, hW, hsame.mono (by decide) (by decide)⟩
  · show Steps p.tables e below (T2.setTop (mkF m 44 #[.val (.ref a0), .val (.long q1), .second, .val (.long (1000000 : Int64)), .second, .val (.long (9223372036854 : Int64)), .second] [(.long (q1 * (1000000 : Int64)))])) _
    jvm_step X2.here [X2.here.top, hx, (hb hby d2_44), X2.method', Bd.returns, narrow]
    first | (intro acts; rw [hr _ acts rfl rfl rfl]) | rw [hr _ _ rfl rfl rfl]
    exact Steps.refl _
  · show Q2 Z _ _ h0 n0 _ T2.heap _
    rw [e2]
    exact ⟨rfl, N0, rfl⟩
theorem pn_1 : plainName "com/example/lease_on_wire/leaseonwire/LeaseLength" = true := by first | (simp [plainName, overriddenIn]; done) | decide +kernel
theorem d3_0 : decode prog_5_method_3_code 0 = .ok (.lload_n 0, 1) := by decide +kernel
theorem d3_1 : decode prog_5_method_3_code 1 = .ok (.ldc2_w 48, 3) := by decide +kernel
theorem d3_4 : decode prog_5_method_3_code 4 = .ok (.lmul, 1) := by decide +kernel
theorem d3_5 : decode prog_5_method_3_code 5 = .ok (.ldc2_w 50, 3) := by decide +kernel
theorem d3_8 : decode prog_5_method_3_code 8 = .ok (.ladd, 1) := by decide +kernel
theorem d3_9 : decode prog_5_method_3_code 9 = .ok (.lreturn, 1) := by decide +kernel
theorem ef_3 (m : MethodId) (x0 : Int64)  : entryFrame m #[(.long x0)] 2 = mkF m 0 #[.val (.long x0), .second] [] := by first | (simp [entryFrame, mkF, argsToLocals, Value.category]; done) | rfl
def Q3 (Z : State) (q0 : Int64) (h0 : Heap) (n0 : Nat) (v : Option Value) (h : Heap) (L : List Loc) : Prop := v = some (.long ((q0 * (10000 : Int64)) + (2000000 : Int64))) ∧ Fr n0 L ∧ h = h0
set_option maxRecDepth 65536 in
set_option maxHeartbeats 40000000 in
theorem rm3 (l : Launch) (Z : State) (a0 : Array Value) (hw : ∀ d ∈ tables_1, d.before a0 Z = true) (ws : List Jvm.Cond) (q0 : Int64) (h0 : Heap) (n0 : Nat) (Z0 : n0 ≤ h0.size) :
    MetFree l (⟨"com/example/lease_on_wire/leaseonwire/LeaseLength", "driftAllowanceNanos", "(J)J"⟩ : MethodName) (head1 (Jvm.Cond.code (⟨"com/example/lease_on_wire/leaseonwire/LeaseLength", "driftAllowanceNanos", "(J)J"⟩ : MethodName) prog_5_method_3_code 2 (some .long) :: ws) ({ frames := 0, cells := 0, slots := 0, locals := 0 } : Room)) (fun a U => a = #[(.long q0)] ∧ Z.Warmed39 U.vm ∧ U.heap = h0) (fun _ _ _ _ _ => True) (fun _ U o U' => ∃ v L, o = .returned v ∧ Q3 Z q0 h0 n0 v U'.heap L ∧ FrameEnd U o U' L ({ frames := 0, cells := 0, slots := 0, locals := 0 } : Room).cells ({ frames := 0, cells := 0, slots := 0, locals := 0 } : Room).slots) := by
  refine MetFree.of_bodySF (plainFor_of_name pn_1) hisR ?_
  intro p e s m args below meth c s₁ Bd hml0 hP hK
  obtain ⟨rfl, hZ, hh⟩ := hP
  have hx := Bd.exec
  have hby := Bd.bytes
  have hml : c.maxLocals = 2 := hml0
  have hown : s.vm.findClass "com/example/lease_on_wire/leaseonwire/LeaseLength" = some m.cls := findClass_of_methodNamed Bd.named
  have hnm := (name_of_methodNamed Bd.named Bd.method).1
  have X0 : Stand p l e ({ frames := 0, cells := 0, slots := 0, locals := 0 } : Room) s m #[(.long q0)] below meth c s₁ [] 0 0 := Stand.of_body Bd
  have e0 : s₁.heap = h0 := by rw [← hh, Bd.state]; rfl
  have N0 := Fr.nil n0
  have pre0 : ∀ t, Steps p.tables e below (s₁.setTop (mkF m 0 #[.val (.long q0), .second] [])) t → Steps p.tables e below (s₁.setTop (entryFrame m #[(.long q0)] 2)) t := fun t k => castTop (ef_3 m q0 ) k
  have pre1 : ∀ t, Steps p.tables e below (s₁.setTop (mkF m 9 #[.val (.long q0), .second] [(.long ((q0 * (10000 : Int64)) + (2000000 : Int64)))])) t → Steps p.tables e below (s₁.setTop (entryFrame m #[(.long q0)] 2)) t := fun t kt => pre0 t (by
      show Steps p.tables e below (s₁.setTop (mkF m 0 #[.val (.long q0), .second] [])) _
      refine XS.lloadN X0.here hx rfl (hb hby d3_0) rfl ?_
      show Steps p.tables e below (s₁.setTop (mkF m 1 #[.val (.long q0), .second] [(.long q0)])) _
      refine X0.ldc2Long hx hown (mvT hZ (hw _ (List.mem_of_getElem? (i := 21) rfl))) (g := (mkF m 1 #[.val (.long q0), .second] [(.long q0)])) rfl (hb hby d3_1) _ ?_
      show Steps p.tables e below (s₁.setTop (mkF m 4 #[.val (.long q0), .second] [(.long (10000 : Int64)), (.long q0)])) _
      refine XS.lmul X0.here hx rfl (hb hby d3_4) rfl ?_
      show Steps p.tables e below (s₁.setTop (mkF m 5 #[.val (.long q0), .second] [(.long (q0 * (10000 : Int64)))])) _
      refine X0.ldc2Long hx hown (mvT hZ (hw _ (List.mem_of_getElem? (i := 22) rfl))) (g := (mkF m 5 #[.val (.long q0), .second] [(.long (q0 * (10000 : Int64)))])) rfl (hb hby d3_5) _ ?_
      show Steps p.tables e below (s₁.setTop (mkF m 8 #[.val (.long q0), .second] [(.long (2000000 : Int64)), (.long (q0 * (10000 : Int64)))])) _
      refine XS.ladd X0.here hx rfl (hb hby d3_8) rfl ?_
      exact kt)
  obtain ⟨fs, hr, hrun, hended, hW, hsame⟩ := X0.leave (v := some (.long ((q0 * (10000 : Int64)) + (2000000 : Int64)))) (fun h => by rw [Bd.returns] at h; cases h)
  refine ⟨_, _, pre1 _ ?_, hrun, hended, _, _, rfl, ?_, ⟨_, rfl⟩, hW, hsame.mono (by decide) (by decide)⟩
  · show Steps p.tables e below (s₁.setTop (mkF m 9 #[.val (.long q0), .second] [(.long ((q0 * (10000 : Int64)) + (2000000 : Int64)))])) _
    jvm_step X0.here [X0.here.top, hx, (hb hby d3_9), X0.method', Bd.returns, narrow]
    first | (intro acts; rw [hr _ acts rfl rfl rfl]) | rw [hr _ _ rfl rfl rfl]
    exact Steps.refl _
  · show Q3 Z _ h0 n0 _ s₁.heap _
    rw [e0]
    exact ⟨rfl, N0, rfl⟩
theorem pd_0 : parseMethodDescriptor "(J)J" = some ⟨[.long], some .long⟩ := by decide +kernel
theorem d1_0 : decode prog_5_method_4_code 0 = .ok (.lload_n 0, 1) := by decide +kernel
theorem d1_1 : decode prog_5_method_4_code 1 = .ok (.getstatic 52, 3) := by decide +kernel
theorem d1_4 : decode prog_5_method_4_code 4 = .ok (.lload_n 2, 1) := by decide +kernel
theorem d1_5 : decode prog_5_method_4_code 5 = .ok (.invokevirtual 58, 3) := by decide +kernel
theorem d1_8 : decode prog_5_method_4_code 8 = .ok (.ladd, 1) := by decide +kernel
theorem d1_9 : decode prog_5_method_4_code 9 = .ok (.lload_n 2, 1) := by decide +kernel
theorem d1_10 : decode prog_5_method_4_code 10 = .ok (.invokestatic 62, 3) := by decide +kernel
theorem d1_13 : decode prog_5_method_4_code 13 = .ok (.ladd, 1) := by decide +kernel
theorem d1_14 : decode prog_5_method_4_code 14 = .ok (.lreturn, 1) := by decide +kernel
theorem ef_1 (m : MethodId) (x0 : Int64) (x1 : Int64)  : entryFrame m #[(.long x0), (.long x1)] 4 = mkF m 0 #[.val (.long x0), .second, .val (.long x1), .second] [] := by first | (simp [entryFrame, mkF, argsToLocals, Value.category]; done) | rfl
def Q1 (Z : State) (q0 : Int64) (q1 : Int64) (w_MILLISECONDS_0 : Addr) (h0 : Heap) (n0 : Nat) (v : Option Value) (h : Heap) (L : List Loc) : Prop := v = some (.long ((q0 + (q1 * (1000000 : Int64))) + ((q1 * (10000 : Int64)) + (2000000 : Int64)))) ∧ Fr n0 L ∧ h = h0
set_option maxRecDepth 65536 in
set_option maxHeartbeats 40000000 in
theorem rm1 (l : Launch) (Z : State) (a0 : Array Value) (hw : ∀ d ∈ tables_1, d.before a0 Z = true) (ws : List Jvm.Cond) (q0 : Int64) (q1 : Int64) (w_MILLISECONDS_0 : Addr) (h0 : Heap) (n0 : Nat) (Z0 : n0 ≤ h0.size) (hle : ¬ ((9223372036854 : Int64) < q1)) (hge : ¬ (q1 < (-(9223372036854 : Int64)))) (Sf_MILLISECONDS_2 : Sta Z h0 "java/util/concurrent/TimeUnit" "MILLISECONDS" "Ljava/util/concurrent/TimeUnit;" (.ref w_MILLISECONDS_0)) (Ff_scale_3 : Fld Z h0 w_MILLISECONDS_0 "java/util/concurrent/TimeUnit" "scale" "J" (.long (1000000 : Int64))) (Ff_maxNanos_4 : Fld Z h0 w_MILLISECONDS_0 "java/util/concurrent/TimeUnit" "maxNanos" "J" (.long (9223372036854 : Int64))) (Exa_5 : Exa Z h0 w_MILLISECONDS_0 "java/util/concurrent/TimeUnit") :
    MetFree l (⟨"com/example/lease_on_wire/leaseonwire/LeaseLength", "runsOutBy", "(JJ)J"⟩ : MethodName) (head1 (Jvm.Cond.code (⟨"com/example/lease_on_wire/leaseonwire/LeaseLength", "runsOutBy", "(JJ)J"⟩ : MethodName) prog_5_method_4_code 4 (some .long) :: ws) ({ frames := 1, cells := 0, slots := 0, locals := 20 } : Room)) (fun a U => a = #[(.long q0), (.long q1)] ∧ Z.Warmed39 U.vm ∧ U.heap = h0) (fun _ _ _ _ _ => True) (fun _ U o U' => ∃ v L, o = .returned v ∧ Q1 Z q0 q1 w_MILLISECONDS_0 h0 n0 v U'.heap L ∧ FrameEnd U o U' L ({ frames := 1, cells := 0, slots := 0, locals := 20 } : Room).cells ({ frames := 1, cells := 0, slots := 0, locals := 20 } : Room).slots) := by
  refine MetFree.of_bodySF (plainFor_of_name pn_1) hisR ?_
  intro p e s m args below meth c s₁ Bd hml0 hP hK
  obtain ⟨rfl, hZ, hh⟩ := hP
  have hx := Bd.exec
  have hby := Bd.bytes
  have hml : c.maxLocals = 4 := hml0
  have hown : s.vm.findClass "com/example/lease_on_wire/leaseonwire/LeaseLength" = some m.cls := findClass_of_methodNamed Bd.named
  have hnm := (name_of_methodNamed Bd.named Bd.method).1
  have X0 : Stand p l e ({ frames := 1, cells := 0, slots := 0, locals := 20 } : Room) s m #[(.long q0), (.long q1)] below meth c s₁ [] 0 0 := Stand.of_body Bd
  have e0 : s₁.heap = h0 := by rw [← hh, Bd.state]; rfl
  have N0 := Fr.nil n0
  have pre0 : ∀ t, Steps p.tables e below (s₁.setTop (mkF m 0 #[.val (.long q0), .second, .val (.long q1), .second] [])) t → Steps p.tables e below (s₁.setTop (entryFrame m #[(.long q0), (.long q1)] 4)) t := fun t k => castTop (ef_1 m q0 q1 ) k
  obtain ⟨T1, X1, e1, st1⟩ := getS2 X0 hx hZ hown (host := "") (Or.inl (hw _ (List.mem_of_getElem? (i := 7) rfl))) Via.refl e0 Sf_MILLISECONDS_2 (g := (mkF m 1 #[.val (.long q0), .second, .val (.long q1), .second] [(.long q0)])) rfl (hb hby d1_1)
  obtain ⟨cq2, kq2, q2a, q2b, q2c⟩ := isOf hZ e1 Exa_5
  obtain ⟨_, _, ⟨T2, L2, k2, n2⟩, -, X2, ⟨Lc2, hQ2, l2, y2, z2⟩, st2⟩ := X1.virtualBack hx (y := (⟨"java/util/concurrent/TimeUnit", "toNanos", "(J)J"⟩ : MethodName)) (z := (⟨"java/util/concurrent/TimeUnit", "toNanos", "(J)J"⟩ : MethodName)) hown (mvT hZ (hw _ (List.mem_of_getElem? (i := 9) rfl))) (mvT hZ (hw _ (List.mem_of_getElem? (i := 10) rfl))) (notFace_of_selects (args := #[]) (mvT hZ (hw _ (List.mem_of_getElem? (i := 12) rfl)))) (mvT hZ (hw _ (List.mem_of_getElem? (i := 12) rfl))) (mvT hZ (hw _ (List.mem_of_getElem? (i := 11) rfl))) (by decide) (backOf (W := 2) (rm2 l Z a0 hw [] w_MILLISECONDS_0 q1 h0 n0 Z0 hle hge Ff_scale_3 Ff_maxNanos_4) hZ (hw _ (List.mem_of_getElem? (i := 13) rfl)) (hw _ (List.mem_of_getElem? (i := 8) rfl)) (by decide) (by decide)) q2a q2c (g := (mkF m 5 #[.val (.long q0), .second, .val (.long q1), .second] [(.long q1), (.ref w_MILLISECONDS_0), (.long q0)])) rfl (by rw [hml]; rfl) (Steps.refl _) (argsL := [(.long q1)]) (rest := [(.long q0)]) (lenOf pd_0 rfl) rfl (by show 2 * 0 + _ ≤ _; exact Nat.le_of_eq rfl) (hb hby d1_5) (fun _ _ => ⟨rfl, e1, (by decide : 0 + 0 ≤ _), (by decide : 0 + 0 ≤ _)⟩)
  dsimp only [Pt.U, Pt.locs, Pt.cells, Pt.slots] at X2 l2 y2 z2 st2 hQ2
  subst l2 y2 z2
  obtain ⟨rfl, Nq2, e2⟩ := hQ2
  have N2 := Fr.app N0 Nq2
  obtain ⟨_, _, ⟨T3, L3, k3, n3⟩, -, X3, ⟨Lc3, hQ3, l3, y3, z3⟩, st3⟩ := Jvm.LawKit.callS X2 hx (y := (⟨"com/example/lease_on_wire/leaseonwire/LeaseLength", "driftAllowanceNanos", "(J)J"⟩ : MethodName)) hown (mvT hZ (hw _ (List.mem_of_getElem? (i := 18) rfl))) (mvT hZ (hw _ (List.mem_of_getElem? (i := 19) rfl))) (mvT hZ (hw _ (List.mem_of_getElem? (i := 5) rfl))) (mvT hZ (hw _ (List.mem_of_getElem? (i := 20) rfl))) (by decide) (backOf (W := 2) (rm3 l Z a0 hw [] q1 h0 n0 Z0 ) hZ (hw _ (List.mem_of_getElem? (i := 20) rfl)) (hw _ (List.mem_of_getElem? (i := 5) rfl)) (by decide) (by decide)) (g := (mkF m 10 #[.val (.long q0), .second, .val (.long q1), .second] [(.long q1), (.long (q0 + (q1 * (1000000 : Int64))))])) rfl (by rw [hml]; rfl) (argsL := [(.long q1)]) (rest := [(.long (q0 + (q1 * (1000000 : Int64))))]) (lenOf pd_0 rfl) rfl (by show 2 * 0 + _ ≤ _; exact Nat.le_of_eq rfl) (hb hby d1_10) (fun _ _ => ⟨rfl, e2, (by decide : 0 + 0 ≤ _), (by decide : 0 + 0 ≤ _)⟩)
  dsimp only [Pt.U, Pt.locs, Pt.cells, Pt.slots] at X3 l3 y3 z3 st3 hQ3
  subst l3 y3 z3
  obtain ⟨rfl, Nq3, e3⟩ := hQ3
  have N3 := Fr.app N2 Nq3
  have pre4 : ∀ t, Steps p.tables e below (T3.setTop (mkF m 14 #[.val (.long q0), .second, .val (.long q1), .second] [(.long ((q0 + (q1 * (1000000 : Int64))) + ((q1 * (10000 : Int64)) + (2000000 : Int64))))])) t → Steps p.tables e below (s₁.setTop (entryFrame m #[(.long q0), (.long q1)] 4)) t := fun t kt => pre0 t (by
      show Steps p.tables e below (s₁.setTop (mkF m 0 #[.val (.long q0), .second, .val (.long q1), .second] [])) _
      refine XS.lloadN X0.here hx rfl (hb hby d1_0) rfl ?_
      show Steps p.tables e below (s₁.setTop (mkF m 1 #[.val (.long q0), .second, .val (.long q1), .second] [(.long q0)])) _
      refine st1 _ ?_
      show Steps p.tables e below (T1.setTop (mkF m 4 #[.val (.long q0), .second, .val (.long q1), .second] [(.ref w_MILLISECONDS_0), (.long q0)])) _
      refine XS.lloadN X1.here hx rfl (hb hby d1_4) rfl ?_
      show Steps p.tables e below (T1.setTop (mkF m 5 #[.val (.long q0), .second, .val (.long q1), .second] [(.long q1), (.ref w_MILLISECONDS_0), (.long q0)])) _
      refine st2.trans ?_
      show Steps p.tables e below (T2.setTop (mkF m 8 #[.val (.long q0), .second, .val (.long q1), .second] [(.long (q1 * (1000000 : Int64))), (.long q0)])) _
      refine XS.ladd X2.here hx rfl (hb hby d1_8) rfl ?_
      show Steps p.tables e below (T2.setTop (mkF m 9 #[.val (.long q0), .second, .val (.long q1), .second] [(.long (q0 + (q1 * (1000000 : Int64))))])) _
      refine XS.lloadN X2.here hx rfl (hb hby d1_9) rfl ?_
      show Steps p.tables e below (T2.setTop (mkF m 10 #[.val (.long q0), .second, .val (.long q1), .second] [(.long q1), (.long (q0 + (q1 * (1000000 : Int64))))])) _
      refine st3 _ ?_
      show Steps p.tables e below (T3.setTop (mkF m 13 #[.val (.long q0), .second, .val (.long q1), .second] [(.long ((q1 * (10000 : Int64)) + (2000000 : Int64))), (.long (q0 + (q1 * (1000000 : Int64))))])) _
      refine XS.ladd X3.here hx rfl (hb hby d1_13) rfl ?_
      exact kt)
  obtain ⟨fs, hr, hrun, hended, hW, hsame⟩ := X3.leave (v := some (.long ((q0 + (q1 * (1000000 : Int64))) + ((q1 * (10000 : Int64)) + (2000000 : Int64))))) (fun h => by rw [Bd.returns] at h; cases h)
  refine ⟨_, _, pre4 _ ?_, hrun, hended, _, _, rfl, ?_, ⟨_, rfl⟩, hW, hsame.mono (by decide) (by decide)⟩
  · show Steps p.tables e below (T3.setTop (mkF m 14 #[.val (.long q0), .second, .val (.long q1), .second] [(.long ((q0 + (q1 * (1000000 : Int64))) + ((q1 * (10000 : Int64)) + (2000000 : Int64))))])) _
    jvm_step X3.here [X3.here.top, hx, (hb hby d1_14), X3.method', Bd.returns, narrow]
    first | (intro acts; rw [hr _ acts rfl rfl rfl]) | rw [hr _ _ rfl rfl rfl]
    exact Steps.refl _
  · show Q1 Z _ _ _ h0 n0 _ T3.heap _
    rw [e3]
    exact ⟨rfl, N3, rfl⟩
theorem pd_1 : parseMethodDescriptor "(JJ)J" = some ⟨[.long, .long], some .long⟩ := by decide +kernel
theorem pn_2 : plainName "com/example/lease_on_wire/leaseonwire/LeaseLengthRunsOutByPinLaw" = true := by first | (simp [plainName, overriddenIn]; done) | decide +kernel
theorem ef_0 (m : MethodId) (x0 : Int64) (x1 : Int32)  : entryFrame m #[(.long x0), (.int x1)] maxLocals = mkF m 0 #[.val (.long x0), .second, .val (.int x1), .unset, .unset, .unset, .unset, .unset, .unset, .unset, .unset, .unset, .unset] [] := by first | (simp [entryFrame, mkF, argsToLocals, Value.category, maxLocals]; done) | rfl
def Q0 (Z : State) (q0 : Int64) (p1 : Int32) (w_MILLISECONDS_1 : Addr) (w_name_3 : Addr) (h0 : Heap) (n0 : Nat) (v : Option Value) (h : Heap) (L : List Loc) : Prop := v = some (.int (1 : Int32)) ∧ Fr n0 L ∧ h = h0
set_option maxRecDepth 65536 in
set_option maxHeartbeats 40000000 in
theorem rm0 (l : Launch) (Z : State) (a0 : Array Value) (hw : ∀ d ∈ tables_1, d.before a0 Z = true) (ws : List Jvm.Cond) (q0 : Int64) (p1 : Int32) (w_MILLISECONDS_1 : Addr) (w_name_3 : Addr) (h0 : Heap) (n0 : Nat) (Z0 : n0 ≤ h0.size) (S_MILLISECONDS_0 : Sta Z h0 "java/util/concurrent/TimeUnit" "MILLISECONDS" "Ljava/util/concurrent/TimeUnit;" (.ref w_MILLISECONDS_1)) (E_1 : Exa Z h0 w_MILLISECONDS_1 "java/util/concurrent/TimeUnit") (F_name_2 : Fld Z h0 w_MILLISECONDS_1 "java/lang/Enum" "name" "Ljava/lang/String;" (.ref w_name_3)) (E_3 : Exa Z h0 w_name_3 "java/lang/String") (F_ordinal_4 : Fld Z h0 w_MILLISECONDS_1 "java/lang/Enum" "ordinal" "I" (.int (2 : Int32))) (F_scale_5 : Fld Z h0 w_MILLISECONDS_1 "java/util/concurrent/TimeUnit" "scale" "J" (.long (1000000 : Int64))) (F_maxNanos_6 : Fld Z h0 w_MILLISECONDS_1 "java/util/concurrent/TimeUnit" "maxNanos" "J" (.long (9223372036854 : Int64))) (F_microRatio_7 : Fld Z h0 w_MILLISECONDS_1 "java/util/concurrent/TimeUnit" "microRatio" "J" (.long (1000 : Int64))) (F_maxMicros_8 : Fld Z h0 w_MILLISECONDS_1 "java/util/concurrent/TimeUnit" "maxMicros" "J" (.long (9223372036854775 : Int64))) (F_milliRatio_9 : Fld Z h0 w_MILLISECONDS_1 "java/util/concurrent/TimeUnit" "milliRatio" "I" (.int (1 : Int32))) (F_maxMillis_10 : Fld Z h0 w_MILLISECONDS_1 "java/util/concurrent/TimeUnit" "maxMillis" "J" (.long (9223372036854775807 : Int64))) (F_secRatio_11 : Fld Z h0 w_MILLISECONDS_1 "java/util/concurrent/TimeUnit" "secRatio" "I" (.int (1000 : Int32))) (F_maxSecs_12 : Fld Z h0 w_MILLISECONDS_1 "java/util/concurrent/TimeUnit" "maxSecs" "J" (.long (9223372036854775 : Int64))) :
    MetFree l x (head1 (Jvm.Cond.code x code maxLocals ret :: ws) room_1) (fun a U => a = #[(.long q0), (.int p1)] ∧ Z.Warmed39 U.vm ∧ U.heap = h0) (fun _ _ _ _ _ => True) (fun _ U o U' => ∃ v L, o = .returned v ∧ Q0 Z q0 p1 w_MILLISECONDS_1 w_name_3 h0 n0 v U'.heap L ∧ FrameEnd U o U' L room_1.cells room_1.slots) := by
  refine MetFree.of_bodySF (plainFor_of_name pn_2) hisR ?_
  intro p e s m args below meth c s₁ Bd hml0 hP hK
  obtain ⟨rfl, hZ, hh⟩ := hP
  have hx := Bd.exec
  have hby := Bd.bytes
  have hml : c.maxLocals = 13 := hml0
  have hown : s.vm.findClass "com/example/lease_on_wire/leaseonwire/LeaseLengthRunsOutByPinLaw" = some m.cls := findClass_of_methodNamed Bd.named
  have hnm := (name_of_methodNamed Bd.named Bd.method).1
  have X0 : Stand p l e room_1 s m #[(.long q0), (.int p1)] below meth c s₁ [] 0 0 := Stand.of_body Bd
  have e0 : s₁.heap = h0 := by rw [← hh, Bd.state]; rfl
  have N0 := Fr.nil n0
  have pre0 : ∀ t, Steps p.tables e below (s₁.setTop (mkF m 0 #[.val (.long q0), .second, .val (.int p1), .unset, .unset, .unset, .unset, .unset, .unset, .unset, .unset, .unset, .unset] [])) t → Steps p.tables e below (s₁.setTop (entryFrame m #[(.long q0), (.int p1)] maxLocals)) t := fun t k => castTop (ef_0 m q0 p1 ) k
  have pre1 : ∀ t, Steps p.tables e below (s₁.setTop (mkF m 13 #[.val (.long q0), .second, .val (.int p1), .val (.long ((10 : Int64) + (((p1 &&& (2147483647 : Int32)) % (86399991 : Int32)).toInt64))), .second, .unset, .unset, .unset, .unset, .unset, .unset, .unset, .unset] [])) t → Steps p.tables e below (s₁.setTop (entryFrame m #[(.long q0), (.int p1)] maxLocals)) t := fun t kt => pre0 t (by
      show Steps p.tables e below (s₁.setTop (mkF m 0 #[.val (.long q0), .second, .val (.int p1), .unset, .unset, .unset, .unset, .unset, .unset, .unset, .unset, .unset, .unset] [])) _
      refine X0.ldc2Long hx hown (mvT hZ (hw _ (List.mem_of_getElem? (i := 0) rfl))) (g := (mkF m 0 #[.val (.long q0), .second, .val (.int p1), .unset, .unset, .unset, .unset, .unset, .unset, .unset, .unset, .unset, .unset] [])) rfl (hb hby at_0) _ ?_
      show Steps p.tables e below (s₁.setTop (mkF m 3 #[.val (.long q0), .second, .val (.int p1), .unset, .unset, .unset, .unset, .unset, .unset, .unset, .unset, .unset, .unset] [(.long (10 : Int64))])) _
      refine XS.iloadN X0.here hx rfl (hb hby at_3) rfl ?_
      show Steps p.tables e below (s₁.setTop (mkF m 4 #[.val (.long q0), .second, .val (.int p1), .unset, .unset, .unset, .unset, .unset, .unset, .unset, .unset, .unset, .unset] [(.int p1), (.long (10 : Int64))])) _
      refine X0.ldcInt hx hown (mvT hZ (hw _ (List.mem_of_getElem? (i := 1) rfl))) (g := (mkF m 4 #[.val (.long q0), .second, .val (.int p1), .unset, .unset, .unset, .unset, .unset, .unset, .unset, .unset, .unset, .unset] [(.int p1), (.long (10 : Int64))])) rfl (hb hby at_4) _ ?_
      show Steps p.tables e below (s₁.setTop (mkF m 6 #[.val (.long q0), .second, .val (.int p1), .unset, .unset, .unset, .unset, .unset, .unset, .unset, .unset, .unset, .unset] [(.int (2147483647 : Int32)), (.int p1), (.long (10 : Int64))])) _
      refine XS.iand X0.here hx rfl (hb hby at_6) rfl ?_
      show Steps p.tables e below (s₁.setTop (mkF m 7 #[.val (.long q0), .second, .val (.int p1), .unset, .unset, .unset, .unset, .unset, .unset, .unset, .unset, .unset, .unset] [(.int (p1 &&& (2147483647 : Int32))), (.long (10 : Int64))])) _
      refine X0.ldcInt hx hown (mvT hZ (hw _ (List.mem_of_getElem? (i := 2) rfl))) (g := (mkF m 7 #[.val (.long q0), .second, .val (.int p1), .unset, .unset, .unset, .unset, .unset, .unset, .unset, .unset, .unset, .unset] [(.int (p1 &&& (2147483647 : Int32))), (.long (10 : Int64))])) rfl (hb hby at_7) _ ?_
      show Steps p.tables e below (s₁.setTop (mkF m 9 #[.val (.long q0), .second, .val (.int p1), .unset, .unset, .unset, .unset, .unset, .unset, .unset, .unset, .unset, .unset] [(.int (86399991 : Int32)), (.int (p1 &&& (2147483647 : Int32))), (.long (10 : Int64))])) _
      refine iremM X0 hx rfl (hb hby at_9) rfl (by decide) ?_
      show Steps p.tables e below (s₁.setTop (mkF m 10 #[.val (.long q0), .second, .val (.int p1), .unset, .unset, .unset, .unset, .unset, .unset, .unset, .unset, .unset, .unset] [(.int ((p1 &&& (2147483647 : Int32)) % (86399991 : Int32))), (.long (10 : Int64))])) _
      refine XS.i2l X0.here hx rfl (hb hby at_10) rfl ?_
      show Steps p.tables e below (s₁.setTop (mkF m 11 #[.val (.long q0), .second, .val (.int p1), .unset, .unset, .unset, .unset, .unset, .unset, .unset, .unset, .unset, .unset] [(.long (((p1 &&& (2147483647 : Int32)) % (86399991 : Int32)).toInt64)), (.long (10 : Int64))])) _
      refine XS.ladd X0.here hx rfl (hb hby at_11) rfl ?_
      show Steps p.tables e below (s₁.setTop (mkF m 12 #[.val (.long q0), .second, .val (.int p1), .unset, .unset, .unset, .unset, .unset, .unset, .unset, .unset, .unset, .unset] [(.long ((10 : Int64) + (((p1 &&& (2147483647 : Int32)) % (86399991 : Int32)).toInt64)))])) _
      refine XS.lstoreN X0.here hx rfl (hb hby at_12) rfl (l' := #[.val (.long q0), .second, .val (.int p1), .val (.long ((10 : Int64) + (((p1 &&& (2147483647 : Int32)) % (86399991 : Int32)).toInt64))), .second, .unset, .unset, .unset, .unset, .unset, .unset, .unset, .unset]) rfl ?_
      exact kt)
  obtain ⟨mm, hmm⟩ : ∃ z, z = ((10 : Int64) + (((p1 &&& (2147483647 : Int32)) % (86399991 : Int32)).toInt64)) := ⟨_, rfl⟩
  have hb0 := own_bm p1
  rw [← hmm] at pre1
  have hb1 : 10 ≤ mm.toInt ∧ mm.toInt ≤ 86400000 := by rw [hmm]; exact hb0
  obtain ⟨_, _, ⟨T2, L2, k2, n2⟩, -, X2, ⟨Lc2, hQ2, l2, y2, z2⟩, st2⟩ := Jvm.LawKit.callS X0 hx (y := (⟨"com/example/lease_on_wire/leaseonwire/LeaseLength", "runsOutBy", "(JJ)J"⟩ : MethodName)) hown (mvT hZ (hw _ (List.mem_of_getElem? (i := 3) rfl))) (mvT hZ (hw _ (List.mem_of_getElem? (i := 4) rfl))) (mvT hZ (hw _ (List.mem_of_getElem? (i := 5) rfl))) (mvT hZ (hw _ (List.mem_of_getElem? (i := 6) rfl))) (by decide) (backOf (W := 0) (rm1 l Z a0 hw [] q0 mm w_MILLISECONDS_1 h0 n0 Z0 (own_le hb1) (own_ge hb1) S_MILLISECONDS_0 F_scale_5 F_maxNanos_6 E_1) hZ (hw _ (List.mem_of_getElem? (i := 6) rfl)) (hw _ (List.mem_of_getElem? (i := 5) rfl)) (by decide) (by decide)) (g := (mkF m 15 #[.val (.long q0), .second, .val (.int p1), .val (.long mm), .second, .unset, .unset, .unset, .unset, .unset, .unset, .unset, .unset] [(.long mm), (.long q0)])) rfl (by rw [hml]; rfl) (argsL := [(.long q0), (.long mm)]) (rest := []) (lenOf pd_1 rfl) rfl (by show 2 * 0 + _ ≤ _; exact Nat.le_of_eq rfl) (hb hby at_15) (fun _ _ => ⟨rfl, e0, (by decide : 0 + 0 ≤ _), (by decide : 0 + 0 ≤ _)⟩)
  dsimp only [Pt.U, Pt.locs, Pt.cells, Pt.slots] at X2 l2 y2 z2 st2 hQ2
  subst l2 y2 z2
  obtain ⟨rfl, Nq2, e2⟩ := hQ2
  have N2 := Fr.app N0 Nq2
  have pre3 : ∀ t, Steps p.tables e below (T2.setTop (mkF m 61 #[.val (.long q0), .second, .val (.int p1), .val (.long mm), .second, .val (.long ((q0 + (mm * (1000000 : Int64))) + ((mm * (10000 : Int64)) + (2000000 : Int64)))), .second, .val (.long (mm * (1000000 : Int64))), .second, .val (.long ((mm * (1000000 : Int64)) / (100 : Int64))), .second, .val (.long (2000000 : Int64)), .second] [(.int (1 : Int32))])) t → Steps p.tables e below (s₁.setTop (entryFrame m #[(.long q0), (.int p1)] maxLocals)) t := fun t kt => pre1 t (by
      show Steps p.tables e below (s₁.setTop (mkF m 13 #[.val (.long q0), .second, .val (.int p1), .val (.long mm), .second, .unset, .unset, .unset, .unset, .unset, .unset, .unset, .unset] [])) _
      refine XS.lloadN X0.here hx rfl (hb hby at_13) rfl ?_
      show Steps p.tables e below (s₁.setTop (mkF m 14 #[.val (.long q0), .second, .val (.int p1), .val (.long mm), .second, .unset, .unset, .unset, .unset, .unset, .unset, .unset, .unset] [(.long q0)])) _
      refine XS.lloadN X0.here hx rfl (hb hby at_14) rfl ?_
      show Steps p.tables e below (s₁.setTop (mkF m 15 #[.val (.long q0), .second, .val (.int p1), .val (.long mm), .second, .unset, .unset, .unset, .unset, .unset, .unset, .unset, .unset] [(.long mm), (.long q0)])) _
      refine st2 _ ?_
      show Steps p.tables e below (T2.setTop (mkF m 18 #[.val (.long q0), .second, .val (.int p1), .val (.long mm), .second, .unset, .unset, .unset, .unset, .unset, .unset, .unset, .unset] [(.long ((q0 + (mm * (1000000 : Int64))) + ((mm * (10000 : Int64)) + (2000000 : Int64))))])) _
      refine XS.lstore X2.here hx rfl (hb hby at_18) rfl (l' := #[.val (.long q0), .second, .val (.int p1), .val (.long mm), .second, .val (.long ((q0 + (mm * (1000000 : Int64))) + ((mm * (10000 : Int64)) + (2000000 : Int64)))), .second, .unset, .unset, .unset, .unset, .unset, .unset]) rfl ?_
      show Steps p.tables e below (T2.setTop (mkF m 20 #[.val (.long q0), .second, .val (.int p1), .val (.long mm), .second, .val (.long ((q0 + (mm * (1000000 : Int64))) + ((mm * (10000 : Int64)) + (2000000 : Int64)))), .second, .unset, .unset, .unset, .unset, .unset, .unset] [])) _
      refine XS.lloadN X2.here hx rfl (hb hby at_20) rfl ?_
      show Steps p.tables e below (T2.setTop (mkF m 21 #[.val (.long q0), .second, .val (.int p1), .val (.long mm), .second, .val (.long ((q0 + (mm * (1000000 : Int64))) + ((mm * (10000 : Int64)) + (2000000 : Int64)))), .second, .unset, .unset, .unset, .unset, .unset, .unset] [(.long mm)])) _
      refine X2.ldc2Long hx hown (mvT hZ (hw _ (List.mem_of_getElem? (i := 23) rfl))) (g := (mkF m 21 #[.val (.long q0), .second, .val (.int p1), .val (.long mm), .second, .val (.long ((q0 + (mm * (1000000 : Int64))) + ((mm * (10000 : Int64)) + (2000000 : Int64)))), .second, .unset, .unset, .unset, .unset, .unset, .unset] [(.long mm)])) rfl (hb hby at_21) _ ?_
      show Steps p.tables e below (T2.setTop (mkF m 24 #[.val (.long q0), .second, .val (.int p1), .val (.long mm), .second, .val (.long ((q0 + (mm * (1000000 : Int64))) + ((mm * (10000 : Int64)) + (2000000 : Int64)))), .second, .unset, .unset, .unset, .unset, .unset, .unset] [(.long (1000000 : Int64)), (.long mm)])) _
      refine XS.lmul X2.here hx rfl (hb hby at_24) rfl ?_
      show Steps p.tables e below (T2.setTop (mkF m 25 #[.val (.long q0), .second, .val (.int p1), .val (.long mm), .second, .val (.long ((q0 + (mm * (1000000 : Int64))) + ((mm * (10000 : Int64)) + (2000000 : Int64)))), .second, .unset, .unset, .unset, .unset, .unset, .unset] [(.long (mm * (1000000 : Int64)))])) _
      refine XS.lstore X2.here hx rfl (hb hby at_25) rfl (l' := #[.val (.long q0), .second, .val (.int p1), .val (.long mm), .second, .val (.long ((q0 + (mm * (1000000 : Int64))) + ((mm * (10000 : Int64)) + (2000000 : Int64)))), .second, .val (.long (mm * (1000000 : Int64))), .second, .unset, .unset, .unset, .unset]) rfl ?_
      show Steps p.tables e below (T2.setTop (mkF m 27 #[.val (.long q0), .second, .val (.int p1), .val (.long mm), .second, .val (.long ((q0 + (mm * (1000000 : Int64))) + ((mm * (10000 : Int64)) + (2000000 : Int64)))), .second, .val (.long (mm * (1000000 : Int64))), .second, .unset, .unset, .unset, .unset] [])) _
      refine XS.lload X2.here hx rfl (hb hby at_27) rfl ?_
      show Steps p.tables e below (T2.setTop (mkF m 29 #[.val (.long q0), .second, .val (.int p1), .val (.long mm), .second, .val (.long ((q0 + (mm * (1000000 : Int64))) + ((mm * (10000 : Int64)) + (2000000 : Int64)))), .second, .val (.long (mm * (1000000 : Int64))), .second, .unset, .unset, .unset, .unset] [(.long (mm * (1000000 : Int64)))])) _
      refine X2.ldc2Long hx hown (mvT hZ (hw _ (List.mem_of_getElem? (i := 24) rfl))) (g := (mkF m 29 #[.val (.long q0), .second, .val (.int p1), .val (.long mm), .second, .val (.long ((q0 + (mm * (1000000 : Int64))) + ((mm * (10000 : Int64)) + (2000000 : Int64)))), .second, .val (.long (mm * (1000000 : Int64))), .second, .unset, .unset, .unset, .unset] [(.long (mm * (1000000 : Int64)))])) rfl (hb hby at_29) _ ?_
      show Steps p.tables e below (T2.setTop (mkF m 32 #[.val (.long q0), .second, .val (.int p1), .val (.long mm), .second, .val (.long ((q0 + (mm * (1000000 : Int64))) + ((mm * (10000 : Int64)) + (2000000 : Int64)))), .second, .val (.long (mm * (1000000 : Int64))), .second, .unset, .unset, .unset, .unset] [(.long (100 : Int64)), (.long (mm * (1000000 : Int64)))])) _
      refine XS.ldiv X2.here hx rfl (hb hby at_32) rfl (by decide) ?_
      show Steps p.tables e below (T2.setTop (mkF m 33 #[.val (.long q0), .second, .val (.int p1), .val (.long mm), .second, .val (.long ((q0 + (mm * (1000000 : Int64))) + ((mm * (10000 : Int64)) + (2000000 : Int64)))), .second, .val (.long (mm * (1000000 : Int64))), .second, .unset, .unset, .unset, .unset] [(.long ((mm * (1000000 : Int64)) / (100 : Int64)))])) _
      refine XS.lstore X2.here hx rfl (hb hby at_33) rfl (l' := #[.val (.long q0), .second, .val (.int p1), .val (.long mm), .second, .val (.long ((q0 + (mm * (1000000 : Int64))) + ((mm * (10000 : Int64)) + (2000000 : Int64)))), .second, .val (.long (mm * (1000000 : Int64))), .second, .val (.long ((mm * (1000000 : Int64)) / (100 : Int64))), .second, .unset, .unset]) rfl ?_
      show Steps p.tables e below (T2.setTop (mkF m 35 #[.val (.long q0), .second, .val (.int p1), .val (.long mm), .second, .val (.long ((q0 + (mm * (1000000 : Int64))) + ((mm * (10000 : Int64)) + (2000000 : Int64)))), .second, .val (.long (mm * (1000000 : Int64))), .second, .val (.long ((mm * (1000000 : Int64)) / (100 : Int64))), .second, .unset, .unset] [])) _
      refine X2.ldc2Long hx hown (mvT hZ (hw _ (List.mem_of_getElem? (i := 25) rfl))) (g := (mkF m 35 #[.val (.long q0), .second, .val (.int p1), .val (.long mm), .second, .val (.long ((q0 + (mm * (1000000 : Int64))) + ((mm * (10000 : Int64)) + (2000000 : Int64)))), .second, .val (.long (mm * (1000000 : Int64))), .second, .val (.long ((mm * (1000000 : Int64)) / (100 : Int64))), .second, .unset, .unset] [])) rfl (hb hby at_35) _ ?_
      show Steps p.tables e below (T2.setTop (mkF m 38 #[.val (.long q0), .second, .val (.int p1), .val (.long mm), .second, .val (.long ((q0 + (mm * (1000000 : Int64))) + ((mm * (10000 : Int64)) + (2000000 : Int64)))), .second, .val (.long (mm * (1000000 : Int64))), .second, .val (.long ((mm * (1000000 : Int64)) / (100 : Int64))), .second, .unset, .unset] [(.long (2000000 : Int64))])) _
      refine XS.lstore X2.here hx rfl (hb hby at_38) rfl (l' := #[.val (.long q0), .second, .val (.int p1), .val (.long mm), .second, .val (.long ((q0 + (mm * (1000000 : Int64))) + ((mm * (10000 : Int64)) + (2000000 : Int64)))), .second, .val (.long (mm * (1000000 : Int64))), .second, .val (.long ((mm * (1000000 : Int64)) / (100 : Int64))), .second, .val (.long (2000000 : Int64)), .second]) rfl ?_
      show Steps p.tables e below (T2.setTop (mkF m 40 #[.val (.long q0), .second, .val (.int p1), .val (.long mm), .second, .val (.long ((q0 + (mm * (1000000 : Int64))) + ((mm * (10000 : Int64)) + (2000000 : Int64)))), .second, .val (.long (mm * (1000000 : Int64))), .second, .val (.long ((mm * (1000000 : Int64)) / (100 : Int64))), .second, .val (.long (2000000 : Int64)), .second] [])) _
      refine XS.lload X2.here hx rfl (hb hby at_40) rfl ?_
      show Steps p.tables e below (T2.setTop (mkF m 42 #[.val (.long q0), .second, .val (.int p1), .val (.long mm), .second, .val (.long ((q0 + (mm * (1000000 : Int64))) + ((mm * (10000 : Int64)) + (2000000 : Int64)))), .second, .val (.long (mm * (1000000 : Int64))), .second, .val (.long ((mm * (1000000 : Int64)) / (100 : Int64))), .second, .val (.long (2000000 : Int64)), .second] [(.long ((q0 + (mm * (1000000 : Int64))) + ((mm * (10000 : Int64)) + (2000000 : Int64))))])) _
      refine XS.lloadN X2.here hx rfl (hb hby at_42) rfl ?_
      show Steps p.tables e below (T2.setTop (mkF m 43 #[.val (.long q0), .second, .val (.int p1), .val (.long mm), .second, .val (.long ((q0 + (mm * (1000000 : Int64))) + ((mm * (10000 : Int64)) + (2000000 : Int64)))), .second, .val (.long (mm * (1000000 : Int64))), .second, .val (.long ((mm * (1000000 : Int64)) / (100 : Int64))), .second, .val (.long (2000000 : Int64)), .second] [(.long q0), (.long ((q0 + (mm * (1000000 : Int64))) + ((mm * (10000 : Int64)) + (2000000 : Int64))))])) _
      refine XS.lsub X2.here hx rfl (hb hby at_43) rfl ?_
      show Steps p.tables e below (T2.setTop (mkF m 44 #[.val (.long q0), .second, .val (.int p1), .val (.long mm), .second, .val (.long ((q0 + (mm * (1000000 : Int64))) + ((mm * (10000 : Int64)) + (2000000 : Int64)))), .second, .val (.long (mm * (1000000 : Int64))), .second, .val (.long ((mm * (1000000 : Int64)) / (100 : Int64))), .second, .val (.long (2000000 : Int64)), .second] [(.long (((q0 + (mm * (1000000 : Int64))) + ((mm * (10000 : Int64)) + (2000000 : Int64))) - q0))])) _
      refine XS.lload X2.here hx rfl (hb hby at_44) rfl ?_
      show Steps p.tables e below (T2.setTop (mkF m 46 #[.val (.long q0), .second, .val (.int p1), .val (.long mm), .second, .val (.long ((q0 + (mm * (1000000 : Int64))) + ((mm * (10000 : Int64)) + (2000000 : Int64)))), .second, .val (.long (mm * (1000000 : Int64))), .second, .val (.long ((mm * (1000000 : Int64)) / (100 : Int64))), .second, .val (.long (2000000 : Int64)), .second] [(.long (mm * (1000000 : Int64))), (.long (((q0 + (mm * (1000000 : Int64))) + ((mm * (10000 : Int64)) + (2000000 : Int64))) - q0))])) _
      refine XS.lload X2.here hx rfl (hb hby at_46) rfl ?_
      show Steps p.tables e below (T2.setTop (mkF m 48 #[.val (.long q0), .second, .val (.int p1), .val (.long mm), .second, .val (.long ((q0 + (mm * (1000000 : Int64))) + ((mm * (10000 : Int64)) + (2000000 : Int64)))), .second, .val (.long (mm * (1000000 : Int64))), .second, .val (.long ((mm * (1000000 : Int64)) / (100 : Int64))), .second, .val (.long (2000000 : Int64)), .second] [(.long ((mm * (1000000 : Int64)) / (100 : Int64))), (.long (mm * (1000000 : Int64))), (.long (((q0 + (mm * (1000000 : Int64))) + ((mm * (10000 : Int64)) + (2000000 : Int64))) - q0))])) _
      refine XS.ladd X2.here hx rfl (hb hby at_48) rfl ?_
      show Steps p.tables e below (T2.setTop (mkF m 49 #[.val (.long q0), .second, .val (.int p1), .val (.long mm), .second, .val (.long ((q0 + (mm * (1000000 : Int64))) + ((mm * (10000 : Int64)) + (2000000 : Int64)))), .second, .val (.long (mm * (1000000 : Int64))), .second, .val (.long ((mm * (1000000 : Int64)) / (100 : Int64))), .second, .val (.long (2000000 : Int64)), .second] [(.long ((mm * (1000000 : Int64)) + ((mm * (1000000 : Int64)) / (100 : Int64)))), (.long (((q0 + (mm * (1000000 : Int64))) + ((mm * (10000 : Int64)) + (2000000 : Int64))) - q0))])) _
      refine XS.lload X2.here hx rfl (hb hby at_49) rfl ?_
      show Steps p.tables e below (T2.setTop (mkF m 51 #[.val (.long q0), .second, .val (.int p1), .val (.long mm), .second, .val (.long ((q0 + (mm * (1000000 : Int64))) + ((mm * (10000 : Int64)) + (2000000 : Int64)))), .second, .val (.long (mm * (1000000 : Int64))), .second, .val (.long ((mm * (1000000 : Int64)) / (100 : Int64))), .second, .val (.long (2000000 : Int64)), .second] [(.long (2000000 : Int64)), (.long ((mm * (1000000 : Int64)) + ((mm * (1000000 : Int64)) / (100 : Int64)))), (.long (((q0 + (mm * (1000000 : Int64))) + ((mm * (10000 : Int64)) + (2000000 : Int64))) - q0))])) _
      refine XS.ladd X2.here hx rfl (hb hby at_51) rfl ?_
      show Steps p.tables e below (T2.setTop (mkF m 52 #[.val (.long q0), .second, .val (.int p1), .val (.long mm), .second, .val (.long ((q0 + (mm * (1000000 : Int64))) + ((mm * (10000 : Int64)) + (2000000 : Int64)))), .second, .val (.long (mm * (1000000 : Int64))), .second, .val (.long ((mm * (1000000 : Int64)) / (100 : Int64))), .second, .val (.long (2000000 : Int64)), .second] [(.long (((mm * (1000000 : Int64)) + ((mm * (1000000 : Int64)) / (100 : Int64))) + (2000000 : Int64))), (.long (((q0 + (mm * (1000000 : Int64))) + ((mm * (10000 : Int64)) + (2000000 : Int64))) - q0))])) _
      refine XS.lcmp X2.here hx rfl (hb hby at_52) rfl ?_
      show Steps p.tables e below (T2.setTop (mkF m 53 #[.val (.long q0), .second, .val (.int p1), .val (.long mm), .second, .val (.long ((q0 + (mm * (1000000 : Int64))) + ((mm * (10000 : Int64)) + (2000000 : Int64)))), .second, .val (.long (mm * (1000000 : Int64))), .second, .val (.long ((mm * (1000000 : Int64)) / (100 : Int64))), .second, .val (.long (2000000 : Int64)), .second] [(.int (lcmpW (((q0 + (mm * (1000000 : Int64))) + ((mm * (10000 : Int64)) + (2000000 : Int64))) - q0) (((mm * (1000000 : Int64)) + ((mm * (1000000 : Int64)) / (100 : Int64))) + (2000000 : Int64))))])) _
      refine XS.ifNo X2.here hx rfl (hb hby at_53) rfl ((if0 _ _).trans (teq ((lw_eq _ _).mpr (own_alg hb1))).2) ?_
      show Steps p.tables e below (T2.setTop (mkF m 56 #[.val (.long q0), .second, .val (.int p1), .val (.long mm), .second, .val (.long ((q0 + (mm * (1000000 : Int64))) + ((mm * (10000 : Int64)) + (2000000 : Int64)))), .second, .val (.long (mm * (1000000 : Int64))), .second, .val (.long ((mm * (1000000 : Int64)) / (100 : Int64))), .second, .val (.long (2000000 : Int64)), .second] [])) _
      refine XS.iconst X2.here hx rfl (hb hby at_56) ?_
      show Steps p.tables e below (T2.setTop (mkF m 57 #[.val (.long q0), .second, .val (.int p1), .val (.long mm), .second, .val (.long ((q0 + (mm * (1000000 : Int64))) + ((mm * (10000 : Int64)) + (2000000 : Int64)))), .second, .val (.long (mm * (1000000 : Int64))), .second, .val (.long ((mm * (1000000 : Int64)) / (100 : Int64))), .second, .val (.long (2000000 : Int64)), .second] [(.int (1 : Int32))])) _
      refine XS.goto X2.here hx rfl (pc0 := 57) (pc' := 61) rfl (hb hby at_57) (by decide) (by decide) ?_
      exact kt)
  obtain ⟨fs, hr, hrun, hended, hW, hsame⟩ := X2.leave (v := some (.int (1 : Int32))) (fun h => by rw [Bd.returns] at h; cases h)
  refine ⟨_, _, pre3 _ ?_, hrun, hended, _, _, rfl, ?_, ⟨_, rfl⟩, hW, hsame.mono (by decide) (by decide)⟩
  · show Steps p.tables e below (T2.setTop (mkF m 61 #[.val (.long q0), .second, .val (.int p1), .val (.long mm), .second, .val (.long ((q0 + (mm * (1000000 : Int64))) + ((mm * (10000 : Int64)) + (2000000 : Int64)))), .second, .val (.long (mm * (1000000 : Int64))), .second, .val (.long ((mm * (1000000 : Int64)) / (100 : Int64))), .second, .val (.long (2000000 : Int64)), .second] [(.int (1 : Int32))])) _
    exact retN X2 hx (t := .boolean) Bd.returns (by simp) (hb hby at_61) hr
  · show Q0 Z _ _ _ _ h0 n0 _ T2.heap _
    rw [e2]
    exact ⟨rfl, N2, rfl⟩
set_option maxRecDepth 65536 in
set_option maxHeartbeats 40000000 in
theorem comes_1 {Post : Tables → Env → Array Value → State → Outcome → State → Prop} (hpost : ∀ tb e args s v u, (limb_1_1.after args s (.returned v) u = true ∧ limb_1_2.after args s (.returned v) u = true ∧ True) → FrameEnd s (.returned v) u (Jvm.fieldLocs frame_1_writes args s ++ Jvm.arrayLocs frame_1_arrays args s ++ Jvm.staticLocs frame_1_statics s) 0 0 → Post tb e args s (.returned v) u) :
    ArmFor flags0 classFile x code maxLocals ret World_1 tables_1 room_1 Calls_1 rest_1 Pre_1 Post := by
  intro l hfl _ _ p e ha hc hk s m args below hf hA hF happ hP
  obtain ⟨hcalls, hrest, hpre⟩ := hP
  obtain ⟨-, -, -, hnamed, -, -, -, hat⟩ := (Spec.applies_iff hf).mp happ
  obtain ⟨hg, hn⟩ := and_e (Cond.before_iff.mp (show (Jvm.Cond.and given_1 narrow_1).before args s = true from hpre))
  obtain ⟨hg0, hgr0⟩ := and_e hg
  obtain ⟨hg1, hgr1⟩ := and_e hgr0
  obtain ⟨w0, w1, rfl⟩ : ∃ w0 w1 : Value, args = #[w0, w1] := by
    have hs : args.size = 2 := by simpa [Cond.value, given_1] using hg0
    obtain ⟨L⟩ := args
    match L, hs with
    | [w0, w1], _ => exact ⟨w0, w1, rfl⟩
  have hw := fun d (hd : d ∈ tables_1) => atoms_spec (ws := Jvm.Cond.code x code maxLocals ret :: tables_1) hat d (List.mem_cons_of_mem _ hd)
  have hfit : Fit s := fun {y c} hc i hi => by
    obtain ⟨ha, rfl⟩ := Array.getElem?_eq_some_iff.mp hc
    have q := List.all_eq_true.mp ((Array.all_eq_true_iff_forall_mem.mp hF) _ (Array.getElem_mem ha)) i (List.mem_range.mpr hi)
    simpa [Array.getElem?_eq_getElem hi] using q
  obtain ⟨hsets, hown0⟩ := atoms_of _ (rest_1_c_eq ▸ (show rest_1_c.before _ s = true from hrest))
  obtain ⟨i0, ei0⟩ := isL_v hg1
  obtain rfl : w0 = (.long i0) := Option.some.inj ei0
  obtain ⟨i1, ei1⟩ := is_v hgr1
  obtain rfl : w1 = (.int i1) := Option.some.inj ei1
  obtain ⟨w_MILLISECONDS_1, ev2⟩ := exa_v (Cond.before_iff.mp (hsets _ (List.mem_of_getElem? (i := 2) rfl)))
  have S_MILLISECONDS_0 : Sta s s.heap "java/util/concurrent/TimeUnit" "MILLISECONDS" "Ljava/util/concurrent/TimeUnit;" (.ref w_MILLISECONDS_1) := Sta.start ev2 (Or.inl (hsets _ (List.mem_of_getElem? (i := 1) rfl)))
  have E_1 : Exa s s.heap w_MILLISECONDS_1 "java/util/concurrent/TimeUnit" := Exa.start ev2 (Cond.before_iff.mp (hsets _ (List.mem_of_getElem? (i := 2) rfl)))
  obtain ⟨w_name_3, ev4⟩ := exa_v (Cond.before_iff.mp (hsets _ (List.mem_of_getElem? (i := 3) rfl)))
  have F_name_2 : Fld s s.heap w_MILLISECONDS_1 "java/lang/Enum" "name" "Ljava/lang/String;" (.ref w_name_3) := Fld.start ((fld_at ev2).symm.trans ev4)
  have E_3 : Exa s s.heap w_name_3 "java/lang/String" := Exa.start ev4 (Cond.before_iff.mp (hsets _ (List.mem_of_getElem? (i := 3) rfl)))
  have F_ordinal_4 : Fld s s.heap w_MILLISECONDS_1 "java/lang/Enum" "ordinal" "I" (.int (2 : Int32)) := Fld.start ((fld_at ev2).symm.trans (own_eqI (Cond.before_iff.mp (hsets _ (List.mem_of_getElem? (i := 4) rfl)))))
  have F_scale_5 : Fld s s.heap w_MILLISECONDS_1 "java/util/concurrent/TimeUnit" "scale" "J" (.long (1000000 : Int64)) := Fld.start ((fld_at ev2).symm.trans (own_eqJ (Cond.before_iff.mp (hsets _ (List.mem_of_getElem? (i := 5) rfl)))))
  have F_maxNanos_6 : Fld s s.heap w_MILLISECONDS_1 "java/util/concurrent/TimeUnit" "maxNanos" "J" (.long (9223372036854 : Int64)) := Fld.start ((fld_at ev2).symm.trans (own_eqJ (Cond.before_iff.mp (hsets _ (List.mem_of_getElem? (i := 6) rfl)))))
  have F_microRatio_7 : Fld s s.heap w_MILLISECONDS_1 "java/util/concurrent/TimeUnit" "microRatio" "J" (.long (1000 : Int64)) := Fld.start ((fld_at ev2).symm.trans (own_eqJ (Cond.before_iff.mp (hsets _ (List.mem_of_getElem? (i := 7) rfl)))))
  have F_maxMicros_8 : Fld s s.heap w_MILLISECONDS_1 "java/util/concurrent/TimeUnit" "maxMicros" "J" (.long (9223372036854775 : Int64)) := Fld.start ((fld_at ev2).symm.trans (own_eqJ (Cond.before_iff.mp (hsets _ (List.mem_of_getElem? (i := 8) rfl)))))
  have F_milliRatio_9 : Fld s s.heap w_MILLISECONDS_1 "java/util/concurrent/TimeUnit" "milliRatio" "I" (.int (1 : Int32)) := Fld.start ((fld_at ev2).symm.trans (own_eqI (Cond.before_iff.mp (hsets _ (List.mem_of_getElem? (i := 9) rfl)))))
  have F_maxMillis_10 : Fld s s.heap w_MILLISECONDS_1 "java/util/concurrent/TimeUnit" "maxMillis" "J" (.long (9223372036854775807 : Int64)) := Fld.start ((fld_at ev2).symm.trans (own_eqJ (Cond.before_iff.mp (hsets _ (List.mem_of_getElem? (i := 10) rfl)))))
  have F_secRatio_11 : Fld s s.heap w_MILLISECONDS_1 "java/util/concurrent/TimeUnit" "secRatio" "I" (.int (1000 : Int32)) := Fld.start ((fld_at ev2).symm.trans (own_eqI (Cond.before_iff.mp (hsets _ (List.mem_of_getElem? (i := 11) rfl)))))
  have F_maxSecs_12 : Fld s s.heap w_MILLISECONDS_1 "java/util/concurrent/TimeUnit" "maxSecs" "J" (.long (9223372036854775 : Int64)) := Fld.start ((fld_at ev2).symm.trans (own_eqJ (Cond.before_iff.mp (hsets _ (List.mem_of_getElem? (i := 12) rfl)))))
  obtain ⟨n, o, h1, h2, h3, _, L, rfl, ⟨rfl, N, -⟩, hq⟩ := rm0 l s _ hw tables_1 i0 i1 w_MILLISECONDS_1 w_name_3 s.heap s.heap.size (Nat.le_refl _) S_MILLISECONDS_0 E_1 F_name_2 E_3 F_ordinal_4 F_scale_5 F_maxNanos_6 F_microRatio_7 F_maxMicros_8 F_milliRatio_9 F_maxMillis_10 F_secRatio_11 F_maxSecs_12 p e ha hc hk s m _ below hf ((Spec.applies_iff_loose hf).mp happ).1 ⟨rfl, State.Warmed39.refl s, rfl⟩ trivial
  refine ⟨n, _, h1, h2, h3, hpost _ _ _ _ _ _ ⟨Cond.after_iff.mpr rfl, Cond.after_iff.mpr (eq_i res_at (Term.int_eval (1)) rfl), trivial⟩ ⟨hq.1, hq.2.1, (hq.2.2.sift fun y hy => Or.inr (N y hy)).mono (by decide) (by decide)⟩⟩
theorem main_1_1 : Claimed_1_1 := comes_1 fun _ _ _ _ _ _ h hF => ⟨h.1, hF⟩
theorem main_1_2 : Claimed_1_2 := comes_1 fun _ _ _ _ _ _ h hF => ⟨h.2.1, hF⟩
end Jvm.Pilot.@@N@@
namespace Jvm.Pilot.@@N@@
open Jvm Jvm.ClassFile Sem Op Lib Jvm.Free Jvm.Stand Jvm.Pilot.@@N@@.Jvm.D
/-! MADE BY PROGRAM (witnessworld.py) out of the Statement's table words and the real class files: 16 classes; the members and pool entries that the words name. The judged class is class 1, her method 1. -/
namespace start1
open Jvm.ClassFile
def u (s : String) : CpInfo := .utf8 (stringToUtf16 s)
/-- a pool by its gaps: so many unusable entries, then the entry; so many at the end -/
def gap : Nat → List CpInfo → List CpInfo
  | 0, r => r
  | n + 1, r => .unusable :: gap n r
def poolList (es : List (Nat × CpInfo)) (last : Nat) : List CpInfo := es.foldr (fun e r => gap e.1 (e.2 :: r)) (gap last [])
def pool (es : List (Nat × CpInfo)) (last : Nat) : Array CpInfo := ⟨poolList es last⟩
def fileOf (pool : Array CpInfo) (this : Nat) (attrs : Array Attribute := #[]) (ms : Array MethodInfo := #[]) (fl : Nat := 33) (sup : Nat := 0) (ifs : Array Nat := #[]) (fds : Array FieldInfo := #[]) : ClassFile where
  minorVersion := 0
  majorVersion := 65
  constantPool := pool
  accessFlags := fl
  thisClass := this
  superClass := sup
  interfaces := ifs
  fields := fds
  methods := ms
  attributes := attrs
def plain (name : String) (sup : Option ClassId) : Class where
  name := name
  kind := .ordinary
  loader := none
  accessFlags := 33
  super := sup
  interfaces := #[]
  cf := none
  fields := #[]
  methods := #[]
  instanceTypes := #[]
  staticTypes := #[]
  resolved := #[]
  callSites := []
  init := .initialized
  statics := none
  mirror := none

def pool0 : Array CpInfo := pool [(5, u "<init>"), (0, u "()V"), (1, .class_ 10), (1, u "java/lang/Object")] 113

def k0m0 : Method := { name := "<init>", desc := "()V", sig := { parameters := [], returnType := none }, accessFlags := 1, code := none }
/-- java/lang/Object -/
def k0 : Class := { plain "java/lang/Object" none with
  accessFlags := 33
  interfaces := #[]
  cf := some (fileOf pool0 8 #[] #[{ accessFlags := 1, nameIndex := 5, descriptorIndex := 6, attributes := #[] }] 33 0 #[] #[])
  fields := #[]
  methods := #[k0m0]
  instanceTypes := #[]
  staticTypes := #[]
  resolved := Array.replicate 124 none
  statics := none }

def pool1 : Array CpInfo := pool [(2, .class_ 4), (1, u "java/lang/Object"), (0, u "<init>"), (0, u "()V"), (0, .long 10), (1, .integer 2147483647), (0, .integer 86399991), (0, .methodref 12 13), (0, .class_ 14), (0, .nameAndType 15 16), (0, u "com/example/lease_on_wire/leaseonwire/LeaseLength"), (0, u "runsOutBy"), (0, u "(JJ)J"), (0, .long 1000000), (1, .long 100), (1, .long 2000000), (1, .class_ 24), (0, u "com/example/lease_on_wire/leaseonwire/LeaseLengthRunsOutByPinLaw"), (2, u "law"), (0, u "(JI)Z")] 3

def k1m0 : Method := { name := "<init>", desc := "()V", sig := { parameters := [], returnType := none }, accessFlags := 2, code := none }
def k1c1 : Code := { maxStack := 6, maxLocals := 13, code := code, exceptionTable := #[], attributes := #[] }
def k1m1 : Method := { name := "law", desc := "(JI)Z", sig := { parameters := [.long, .int], returnType := some .boolean }, accessFlags := 9, code := some k1c1 }
/-- com/example/lease_on_wire/leaseonwire/LeaseLengthRunsOutByPinLaw -/
def k1 : Class := { plain "com/example/lease_on_wire/leaseonwire/LeaseLengthRunsOutByPinLaw" (some 0) with
  accessFlags := 49
  interfaces := #[]
  cf := some (fileOf pool1 23 #[] #[{ accessFlags := 2, nameIndex := 5, descriptorIndex := 6, attributes := #[] }, { accessFlags := 9, nameIndex := 27, descriptorIndex := 28, attributes := #[] }] 49 2 #[] #[])
  fields := #[]
  methods := #[k1m0, k1m1]
  instanceTypes := #[]
  staticTypes := #[]
  resolved := Array.replicate 32 none
  statics := none }

def pool2 : Array CpInfo := pool [(1, .class_ 2), (0, u "com/example/lease_on_wire/leaseonwire/LeaseLength"), (1, .class_ 6), (1, u "java/lang/Object"), (0, u "<init>"), (0, u "()V"), (9, u "MIN"), (0, u "Ljava/time/Duration;"), (8, u "MAX"), (19, .long 10000), (1, .long 2000000), (1, .fieldref 53 54), (0, .class_ 55), (0, .nameAndType 56 57), (0, u "java/util/concurrent/TimeUnit"), (0, u "MILLISECONDS"), (0, u "Ljava/util/concurrent/TimeUnit;"), (0, .methodref 53 59), (0, .nameAndType 60 61), (0, u "toNanos"), (0, u "(J)J"), (0, .methodref 1 63), (0, .nameAndType 64 61), (0, u "driftAllowanceNanos"), (11, u "NANOS_PER_MILLI"), (0, u "I"), (1, u "FIXED_DRIFT_NANOS"), (0, u "J"), (0, u "DRIFT_NANOS_PER_MILLI"), (4, u "runsOutBy"), (0, u "(JJ)J")] 19

def k2m0 : Method := { name := "<init>", desc := "()V", sig := { parameters := [], returnType := none }, accessFlags := 2, code := none }
def k2c1 : Code := { maxStack := 4, maxLocals := 2, code := prog_5_method_3_code, exceptionTable := #[], attributes := #[] }
def k2m1 : Method := { name := "driftAllowanceNanos", desc := "(J)J", sig := { parameters := [.long], returnType := some .long }, accessFlags := 8, code := some k2c1 }
def k2c2 : Code := { maxStack := 5, maxLocals := 4, code := prog_5_method_4_code, exceptionTable := #[], attributes := #[] }
def k2m2 : Method := { name := "runsOutBy", desc := "(JJ)J", sig := { parameters := [.long, .long], returnType := some .long }, accessFlags := 8, code := some k2c2 }
/-- com/example/lease_on_wire/leaseonwire/LeaseLength -/
def k2 : Class := { plain "com/example/lease_on_wire/leaseonwire/LeaseLength" (some 0) with
  accessFlags := 32
  interfaces := #[]
  cf := some (fileOf pool2 1 #[] #[{ accessFlags := 2, nameIndex := 7, descriptorIndex := 8, attributes := #[] }, { accessFlags := 8, nameIndex := 64, descriptorIndex := 61, attributes := #[] }, { accessFlags := 8, nameIndex := 86, descriptorIndex := 87, attributes := #[] }] 32 4 #[] #[{ accessFlags := 24, nameIndex := 18, descriptorIndex := 19, attributes := #[] }, { accessFlags := 24, nameIndex := 28, descriptorIndex := 19, attributes := #[] }, { accessFlags := 26, nameIndex := 76, descriptorIndex := 77, attributes := #[] }, { accessFlags := 26, nameIndex := 79, descriptorIndex := 80, attributes := #[] }, { accessFlags := 26, nameIndex := 81, descriptorIndex := 80, attributes := #[] }])
  fields := #[{ name := "MIN", type := (.object "java/time/Duration"), accessFlags := 24, slot := 0, constantValue := 0 }, { name := "MAX", type := (.object "java/time/Duration"), accessFlags := 24, slot := 1, constantValue := 0 }, { name := "NANOS_PER_MILLI", type := .int, accessFlags := 26, slot := 2, constantValue := 0 }, { name := "FIXED_DRIFT_NANOS", type := .long, accessFlags := 26, slot := 3, constantValue := 0 }, { name := "DRIFT_NANOS_PER_MILLI", type := .long, accessFlags := 26, slot := 4, constantValue := 0 }]
  methods := #[k2m0, k2m1, k2m2]
  instanceTypes := #[]
  staticTypes := #[(.object "java/time/Duration"), (.object "java/time/Duration"), .int, .long, .long]
  resolved := Array.replicate 107 none
  statics := none }

def pool3 : Array CpInfo := pool [(1, .class_ 2), (0, u "java/lang/constant/Constable"), (0, .class_ 4), (0, u "java/lang/Object")] 6

/-- java/lang/constant/Constable -/
def k3 : Class := { plain "java/lang/constant/Constable" (some 0) with
  accessFlags := 1537
  interfaces := #[]
  cf := some (fileOf pool3 1 #[] #[] 1537 3 #[] #[])
  fields := #[]
  methods := #[]
  instanceTypes := #[]
  staticTypes := #[]
  resolved := Array.replicate 11 none
  statics := none }

def pool4 : Array CpInfo := pool [(1, .class_ 2), (0, u "java/lang/Comparable"), (0, .class_ 4), (0, u "java/lang/Object")] 7

/-- java/lang/Comparable -/
def k4 : Class := { plain "java/lang/Comparable" (some 0) with
  accessFlags := 1537
  interfaces := #[]
  cf := some (fileOf pool4 1 #[] #[] 1537 3 #[] #[])
  fields := #[]
  methods := #[]
  instanceTypes := #[]
  staticTypes := #[]
  resolved := Array.replicate 12 none
  statics := none }

def pool5 : Array CpInfo := pool [(1, .class_ 2), (0, u "java/io/Serializable"), (0, .class_ 4), (0, u "java/lang/Object")] 2

/-- java/io/Serializable -/
def k5 : Class := { plain "java/io/Serializable" (some 0) with
  accessFlags := 1537
  interfaces := #[]
  cf := some (fileOf pool5 1 #[] #[] 1537 3 #[] #[])
  fields := #[]
  methods := #[]
  instanceTypes := #[]
  staticTypes := #[]
  resolved := Array.replicate 7 none
  statics := none }

def pool6 : Array CpInfo := pool [(2, .class_ 4), (1, u "java/lang/Enum"), (0, u "name"), (0, u "Ljava/lang/String;"), (2, u "ordinal"), (0, u "I"), (1, .class_ 14), (1, u "java/lang/Object"), (4, u "hash"), (86, .class_ 108), (1, u "java/lang/Enum$EnumDesc"), (2, .class_ 112), (0, u "java/lang/constant/Constable"), (0, .class_ 114), (0, u "java/lang/Comparable"), (0, .class_ 116), (0, u "java/io/Serializable")] 87

/-- java/lang/Enum -/
def k6 : Class := { plain "java/lang/Enum" (some 0) with
  accessFlags := 1057
  interfaces := #[3, 4, 5]
  cf := some (fileOf pool6 2 #[.nestMembers #[106]] #[] 1057 12 #[111, 113, 115] #[{ accessFlags := 18, nameIndex := 5, descriptorIndex := 6, attributes := #[] }, { accessFlags := 18, nameIndex := 9, descriptorIndex := 10, attributes := #[] }, { accessFlags := 2, nameIndex := 19, descriptorIndex := 10, attributes := #[] }])
  fields := #[{ name := "name", type := (.object "java/lang/String"), accessFlags := 18, slot := 0, constantValue := 0 }, { name := "ordinal", type := .int, accessFlags := 18, slot := 1, constantValue := 0 }, { name := "hash", type := .int, accessFlags := 2, slot := 2, constantValue := 0 }]
  methods := #[]
  instanceTypes := #[(.object "java/lang/String"), .int, .int]
  staticTypes := #[]
  resolved := Array.replicate 204 none
  statics := none }

def pool7 : Array CpInfo := pool [(1, .class_ 2), (0, u "java/util/concurrent/TimeUnit"), (2, u "NANOSECONDS"), (0, u "Ljava/util/concurrent/TimeUnit;"), (2, u "MICROSECONDS"), (2, u "MILLISECONDS"), (2, u "SECONDS"), (2, u "MINUTES"), (2, u "HOURS"), (2, u "DAYS"), (2, u "$VALUES"), (0, u "[Ljava/util/concurrent/TimeUnit;"), (6, .class_ 37), (1, u "java/lang/Enum"), (6, .fieldref 1 45), (0, .nameAndType 46 47), (0, u "scale"), (0, u "J"), (4, .fieldref 1 53), (0, .nameAndType 54 47), (0, u "maxNanos"), (4, u "microRatio"), (2, u "maxMicros"), (4, u "milliRatio"), (0, u "I"), (2, u "maxMillis"), (4, u "secRatio"), (2, u "maxSecs"), (8, u "toNanos"), (0, u "(J)J"), (73, .class_ 165), (1, u "java/util/concurrent/TimeUnit$1"), (46, u "NANO_SCALE"), (3, u "MICRO_SCALE"), (0, u "MILLI_SCALE"), (0, u "SECOND_SCALE"), (0, u "MINUTE_SCALE"), (0, u "HOUR_SCALE"), (0, u "DAY_SCALE")] 61

def k7c0 : Code := { maxStack := 6, maxLocals := 7, code := jdk_2799_method_7_code, exceptionTable := #[], attributes := #[] }
def k7m0 : Method := { name := "toNanos", desc := "(J)J", sig := { parameters := [.long], returnType := some .long }, accessFlags := 1, code := some k7c0 }
/-- java/util/concurrent/TimeUnit -/
def k7 : Class := { plain "java/util/concurrent/TimeUnit" (some 6) with
  accessFlags := 16433
  interfaces := #[]
  cf := some (fileOf pool7 1 #[.nestMembers #[163]] #[{ accessFlags := 1, nameIndex := 88, descriptorIndex := 89, attributes := #[] }] 16433 35 #[] #[{ accessFlags := 16409, nameIndex := 5, descriptorIndex := 6, attributes := #[] }, { accessFlags := 16409, nameIndex := 9, descriptorIndex := 6, attributes := #[] }, { accessFlags := 16409, nameIndex := 12, descriptorIndex := 6, attributes := #[] }, { accessFlags := 16409, nameIndex := 15, descriptorIndex := 6, attributes := #[] }, { accessFlags := 16409, nameIndex := 18, descriptorIndex := 6, attributes := #[] }, { accessFlags := 16409, nameIndex := 21, descriptorIndex := 6, attributes := #[] }, { accessFlags := 16409, nameIndex := 24, descriptorIndex := 6, attributes := #[] }, { accessFlags := 26, nameIndex := 212, descriptorIndex := 47, attributes := #[] }, { accessFlags := 26, nameIndex := 216, descriptorIndex := 47, attributes := #[] }, { accessFlags := 26, nameIndex := 217, descriptorIndex := 47, attributes := #[] }, { accessFlags := 26, nameIndex := 218, descriptorIndex := 47, attributes := #[] }, { accessFlags := 26, nameIndex := 219, descriptorIndex := 47, attributes := #[] }, { accessFlags := 26, nameIndex := 220, descriptorIndex := 47, attributes := #[] }, { accessFlags := 26, nameIndex := 221, descriptorIndex := 47, attributes := #[] }, { accessFlags := 18, nameIndex := 46, descriptorIndex := 47, attributes := #[] }, { accessFlags := 18, nameIndex := 54, descriptorIndex := 47, attributes := #[] }, { accessFlags := 18, nameIndex := 62, descriptorIndex := 47, attributes := #[] }, { accessFlags := 18, nameIndex := 71, descriptorIndex := 47, attributes := #[] }, { accessFlags := 18, nameIndex := 79, descriptorIndex := 47, attributes := #[] }, { accessFlags := 18, nameIndex := 59, descriptorIndex := 47, attributes := #[] }, { accessFlags := 18, nameIndex := 67, descriptorIndex := 68, attributes := #[] }, { accessFlags := 18, nameIndex := 76, descriptorIndex := 68, attributes := #[] }, { accessFlags := 4122, nameIndex := 27, descriptorIndex := 28, attributes := #[] }])
  fields := #[{ name := "NANOSECONDS", type := (.object "java/util/concurrent/TimeUnit"), accessFlags := 16409, slot := 0, constantValue := 0 }, { name := "MICROSECONDS", type := (.object "java/util/concurrent/TimeUnit"), accessFlags := 16409, slot := 1, constantValue := 0 }, { name := "MILLISECONDS", type := (.object "java/util/concurrent/TimeUnit"), accessFlags := 16409, slot := 2, constantValue := 0 }, { name := "SECONDS", type := (.object "java/util/concurrent/TimeUnit"), accessFlags := 16409, slot := 3, constantValue := 0 }, { name := "MINUTES", type := (.object "java/util/concurrent/TimeUnit"), accessFlags := 16409, slot := 4, constantValue := 0 }, { name := "HOURS", type := (.object "java/util/concurrent/TimeUnit"), accessFlags := 16409, slot := 5, constantValue := 0 }, { name := "DAYS", type := (.object "java/util/concurrent/TimeUnit"), accessFlags := 16409, slot := 6, constantValue := 0 }, { name := "NANO_SCALE", type := .long, accessFlags := 26, slot := 7, constantValue := 0 }, { name := "MICRO_SCALE", type := .long, accessFlags := 26, slot := 8, constantValue := 0 }, { name := "MILLI_SCALE", type := .long, accessFlags := 26, slot := 9, constantValue := 0 }, { name := "SECOND_SCALE", type := .long, accessFlags := 26, slot := 10, constantValue := 0 }, { name := "MINUTE_SCALE", type := .long, accessFlags := 26, slot := 11, constantValue := 0 }, { name := "HOUR_SCALE", type := .long, accessFlags := 26, slot := 12, constantValue := 0 }, { name := "DAY_SCALE", type := .long, accessFlags := 26, slot := 13, constantValue := 0 }, { name := "scale", type := .long, accessFlags := 18, slot := 3, constantValue := 0 }, { name := "maxNanos", type := .long, accessFlags := 18, slot := 4, constantValue := 0 }, { name := "maxMicros", type := .long, accessFlags := 18, slot := 5, constantValue := 0 }, { name := "maxMillis", type := .long, accessFlags := 18, slot := 6, constantValue := 0 }, { name := "maxSecs", type := .long, accessFlags := 18, slot := 7, constantValue := 0 }, { name := "microRatio", type := .long, accessFlags := 18, slot := 8, constantValue := 0 }, { name := "milliRatio", type := .int, accessFlags := 18, slot := 9, constantValue := 0 }, { name := "secRatio", type := .int, accessFlags := 18, slot := 10, constantValue := 0 }, { name := "$VALUES", type := (.array (.object "java/util/concurrent/TimeUnit")), accessFlags := 4122, slot := 14, constantValue := 0 }]
  methods := #[k7m0]
  instanceTypes := #[(.object "java/lang/String"), .int, .int, .long, .long, .long, .long, .long, .long, .int, .int]
  staticTypes := #[(.object "java/util/concurrent/TimeUnit"), (.object "java/util/concurrent/TimeUnit"), (.object "java/util/concurrent/TimeUnit"), (.object "java/util/concurrent/TimeUnit"), (.object "java/util/concurrent/TimeUnit"), (.object "java/util/concurrent/TimeUnit"), (.object "java/util/concurrent/TimeUnit"), .long, .long, .long, .long, .long, .long, .long, (.array (.object "java/util/concurrent/TimeUnit"))]
  resolved := Array.replicate 283 none
  statics := some 0 }

def pool8 : Array CpInfo := pool [(2, .class_ 4), (1, u "java/lang/CharSequence"), (42, .class_ 48), (0, u "java/lang/CharSequence$1CodePointIterator"), (10, .class_ 60), (0, u "java/lang/CharSequence$1CharIterator"), (5, .class_ 67), (0, u "java/lang/Object")] 63

/-- java/lang/CharSequence -/
def k8 : Class := { plain "java/lang/CharSequence" (some 0) with
  accessFlags := 1537
  interfaces := #[]
  cf := some (fileOf pool8 2 #[.nestMembers #[47, 59]] #[] 1537 66 #[] #[])
  fields := #[]
  methods := #[]
  instanceTypes := #[]
  staticTypes := #[]
  resolved := Array.replicate 131 none
  statics := none }

def pool9 : Array CpInfo := pool [(1, .class_ 2), (0, u "java/lang/constant/ConstantDesc"), (0, .class_ 4), (0, u "java/lang/Object")] 32

/-- java/lang/constant/ConstantDesc -/
def k9 : Class := { plain "java/lang/constant/ConstantDesc" (some 0) with
  accessFlags := 1537
  interfaces := #[]
  cf := some (fileOf pool9 1 #[] #[] 1537 3 #[] #[])
  fields := #[]
  methods := #[]
  instanceTypes := #[]
  staticTypes := #[]
  resolved := Array.replicate 37 none
  statics := none }

def pool10 : Array CpInfo := pool [(2, .class_ 4), (1, u "java/lang/Object"), (0, u "<init>"), (0, u "()V"), (3, .class_ 12), (1, u "java/lang/String"), (0, u "value"), (0, u "[B"), (2, u "coder"), (0, u "B"), (2, u "hash"), (0, u "I"), (2, u "hashIsZero"), (0, u "Z"), (13, u "COMPACT_STRINGS"), (534, .class_ 576), (0, u "java/lang/CharSequence"), (22, u "CASE_INSENSITIVE_ORDER"), (0, u "Ljava/util/Comparator;"), (500, u "serialPersistentFields"), (0, u "[Ljava/io/ObjectStreamField;"), (0, .class_ 1104), (0, u "java/lang/String$CaseInsensitiveComparator"), (1, .class_ 1107), (0, u "java/io/Serializable"), (0, .class_ 1109), (0, u "java/lang/Comparable"), (0, .class_ 1111), (0, u "java/lang/constant/Constable"), (0, .class_ 1113), (0, u "java/lang/constant/ConstantDesc"), (2, u "serialVersionUID"), (0, u "J"), (3, u "REPL"), (0, u "C"), (2, u "LATIN1"), (1, u "UTF16")] 323

def k10m0 : Method := { name := "<init>", desc := "()V", sig := { parameters := [], returnType := none }, accessFlags := 1, code := none }
/-- java/lang/String -/
def k10 : Class := { plain "java/lang/String" (some 0) with
  accessFlags := 49
  interfaces := #[5, 4, 8, 3, 9]
  cf := some (fileOf pool10 10 #[.nestMembers #[1103]] #[{ accessFlags := 1, nameIndex := 5, descriptorIndex := 6, attributes := #[] }] 49 2 #[1106, 1108, 575, 1110, 1112] #[{ accessFlags := 18, nameIndex := 13, descriptorIndex := 14, attributes := #[] }, { accessFlags := 18, nameIndex := 17, descriptorIndex := 18, attributes := #[] }, { accessFlags := 2, nameIndex := 21, descriptorIndex := 22, attributes := #[] }, { accessFlags := 2, nameIndex := 25, descriptorIndex := 26, attributes := #[] }, { accessFlags := 26, nameIndex := 1116, descriptorIndex := 1117, attributes := #[] }, { accessFlags := 24, nameIndex := 40, descriptorIndex := 26, attributes := #[] }, { accessFlags := 26, nameIndex := 1101, descriptorIndex := 1102, attributes := #[] }, { accessFlags := 26, nameIndex := 1121, descriptorIndex := 1122, attributes := #[] }, { accessFlags := 25, nameIndex := 599, descriptorIndex := 600, attributes := #[] }, { accessFlags := 24, nameIndex := 1125, descriptorIndex := 18, attributes := #[] }, { accessFlags := 24, nameIndex := 1127, descriptorIndex := 18, attributes := #[] }])
  fields := #[{ name := "value", type := (.array .byte), accessFlags := 18, slot := 0, constantValue := 0 }, { name := "coder", type := .byte, accessFlags := 18, slot := 1, constantValue := 0 }, { name := "hash", type := .int, accessFlags := 2, slot := 2, constantValue := 0 }, { name := "hashIsZero", type := .boolean, accessFlags := 2, slot := 3, constantValue := 0 }, { name := "serialVersionUID", type := .long, accessFlags := 26, slot := 0, constantValue := 0 }, { name := "COMPACT_STRINGS", type := .boolean, accessFlags := 24, slot := 1, constantValue := 0 }, { name := "serialPersistentFields", type := (.array (.object "java/io/ObjectStreamField")), accessFlags := 26, slot := 2, constantValue := 0 }, { name := "REPL", type := .char, accessFlags := 26, slot := 3, constantValue := 0 }, { name := "CASE_INSENSITIVE_ORDER", type := (.object "java/util/Comparator"), accessFlags := 25, slot := 4, constantValue := 0 }, { name := "LATIN1", type := .byte, accessFlags := 24, slot := 5, constantValue := 0 }, { name := "UTF16", type := .byte, accessFlags := 24, slot := 6, constantValue := 0 }]
  methods := #[k10m0]
  instanceTypes := #[(.array .byte), .byte, .int, .boolean]
  staticTypes := #[.long, .boolean, (.array (.object "java/io/ObjectStreamField")), .char, (.object "java/util/Comparator"), .byte, .byte]
  resolved := Array.replicate 1451 none
  statics := none }

def pool11 : Array CpInfo := pool [(1, u "java/lang/Cloneable"), (0, .class_ 1), (0, u "java/lang/Object"), (0, .class_ 3)] 3

/-- java/lang/Cloneable -/
def k11 : Class := { plain "java/lang/Cloneable" (some 0) with
  accessFlags := 1537
  interfaces := #[]
  cf := some (fileOf pool11 2 #[] #[] 1537 4 #[] #[])
  fields := #[]
  methods := #[]
  instanceTypes := #[]
  staticTypes := #[]
  resolved := Array.replicate 8 none
  statics := none }

/-- the primitive byte -/
def k12 : Class := { plain "byte" none with kind := .primitive 'B', accessFlags := 0x411 }
/-- [B -/
def k13 : Class := { plain "[B" (some 0) with kind := .array 12 .byte, interfaces := #[11, 5], accessFlags := 1041 }

/-- the primitive int -/
def k14 : Class := { plain "int" none with kind := .primitive 'I', accessFlags := 0x411 }
/-- [I -/
def k15 : Class := { plain "[I" (some 0) with kind := .array 14 .int, interfaces := #[11, 5], accessFlags := 1041 }

def heap : Heap := #[{ cls := 7, slots := #[.null, .null, .ref 2, .null, .null, .null, .null, .long 0, .long 0, .long 0, .long 0, .long 0, .long 0, .long 0, .null], vm := .statics 7 },
  { cls := 10, slots := #[.null, .int 0, .int 0, .int 0], vm := .none },
  { cls := 7, slots := #[.ref 1, .int 2, .int 0, .long 1000000, .long 9223372036854, .long 9223372036854775, .long 9223372036854775807, .long 9223372036854775, .long 1000, .int 1, .int 1000], vm := .none }]
def classes : Array Class := #[k0, k1, k2, k3, k4, k5, k6, k7, k8, k9, k10, k11, k12, k13, k14, k15]
def interned : List (Array UInt16 × Addr) := []
def slotsUsed : Nat := 30
def theMethod : MethodId := ⟨1, 1⟩
def args0 : Array Value := #[.long 5, .int 7]
def aboutOver (below : List Frame) : State where
  vm := { classes := classes, interned := interned.toArray }
  heap := heap
  slotsUsed := slotsUsed
  threads := #[{ frames := .invoking theMethod args0 :: below }]
def below0 : List Frame := [.native { method := ⟨0, 0⟩, args := #[] }]
def about1 : State := aboutOver below0
def p0 : Program := .bare "" "" ""
def e0 : Env := launch0.env 0 0 0
theorem w_frames : about1.frames = Frame.invoking theMethod args0 :: below0 := rfl
set_option maxRecDepth 65536 in
theorem w_args : argsFit about1.vm theMethod args0 = true := by decide +kernel
set_option maxRecDepth 65536 in
theorem w_heap : heapFits about1 = true := by decide +kernel
set_option maxRecDepth 65536 in
theorem w_runnable : about1.curStatus? = some .runnable := by decide +kernel
set_option maxRecDepth 65536 in
theorem w_alone : about1.alone = true := by decide +kernel
set_option maxRecDepth 65536 in
theorem w_named : about1.methodNamed? x = some theMethod := by decide +kernel
set_option maxRecDepth 65536 in
theorem w_hears : about1.hears theMethod below0 = true := by decide +kernel
set_option maxRecDepth 65536 in
theorem w_ripe : about1.ripe theMethod args0 below0 = true := by decide +kernel
theorem w_running : about1.status = .running := rfl
set_option maxRecDepth 65536 in
theorem w_room : about1.hasRoom e0.platform room_1 = true :=
  launch0.hasRoom_least _ room_1 (by decide +kernel) (by decide +kernel) (by decide +kernel) (by decide +kernel) (by decide +kernel) (by decide +kernel)
theorem allAtoms_all (ts : List Jvm.Cond) (a : Array Jvm.Value) (st : Jvm.State) : (allAtoms ts).before a st = ts.all (fun c => c.before a st) := by
  induction ts with
  | nil => rfl
  | cons c t ih =>
    show (Jvm.Cond.and c (allAtoms t)).before a st = _
    rw [Jvm.Cond.before_and, ih, List.all_cons]
def words1 : List Jvm.Cond := Jvm.Cond.code x code maxLocals ret :: tables_1
/-- a 'code' word, met by the world's own term for the bytes: nothing is compared byte by byte -/
theorem code_word {y : MethodName} {bytes : ByteArray} {mx : Nat} {rt : Option FieldType} {a : Array Value} {s : State} {m : MethodId} {meth : Method} {c : Code} (h1 : s.methodNamed? y = some m) (h2 : s.vm.method? m = some meth) (h3 : meth.code = some c) (h4 : c.code = bytes)
    (h5 : (c.maxLocals == mx && c.exceptionTable.isEmpty && decide (c.maxStack ≤ mostOperands) && decide (meth.sig.returnType = rt) && !meth.locks && decide (parseMethodDescriptor y.desc = some meth.sig)) = true) : (Jvm.Cond.code y bytes mx rt).before a s = true := by
  simp only [Bool.and_eq_true, beq_iff_eq, Bool.not_eq_true', decide_eq_true_eq] at h5
  obtain ⟨⟨⟨⟨⟨g1, g2⟩, g3⟩, g4⟩, g5⟩, g6⟩ := h5
  simp [Cond.before, Cond.holds, Cond.value, h1, h2, h3, h4, g1, g2, g3, g4, g5, g6]
def isCode : Jvm.Cond → Bool
  | .code _ _ _ _ => true
  | _ => false
theorem all_split {L : List Jvm.Cond} {P : Jvm.Cond → Bool} (h1 : L.all (fun c => isCode c || P c) = true) (h2 : ∀ c ∈ L.filter isCode, P c = true) : L.all P = true := by
  refine List.all_eq_true.mpr fun c hc => ?_
  have h := List.all_eq_true.mp h1 c hc
  rcases Bool.eq_false_or_eq_true (isCode c) with hi | hi
  · exact h2 c (List.mem_filter.mpr ⟨hc, hi⟩)
  · simpa [hi] using h
set_option maxRecDepth 65536 in
theorem w_c0 : (Jvm.Cond.code x code maxLocals ret).before args0 about1 = true := code_word (m := ⟨1, 1⟩) (meth := k1m1) (c := k1c1) (by decide +kernel) rfl rfl rfl (by decide +kernel)
set_option maxRecDepth 65536 in
theorem w_c1 : (Jvm.Cond.code ({ cls := "com/example/lease_on_wire/leaseonwire/LeaseLength", name := "runsOutBy", desc := "(JJ)J" } : Jvm.MethodName) prog_5_method_4_code (4 : Nat) (Option.some Jvm.ClassFile.FieldType.long)).before args0 about1 = true := code_word (m := ⟨2, 2⟩) (meth := k2m2) (c := k2c2) (by decide +kernel) rfl rfl rfl (by decide +kernel)
set_option maxRecDepth 65536 in
theorem w_c2 : (Jvm.Cond.code ({ cls := "java/util/concurrent/TimeUnit", name := "toNanos", desc := "(J)J" } : Jvm.MethodName) jdk_2799_method_7_code (7 : Nat) (Option.some Jvm.ClassFile.FieldType.long)).before args0 about1 = true := code_word (m := ⟨7, 0⟩) (meth := k7m0) (c := k7c0) (by decide +kernel) rfl rfl rfl (by decide +kernel)
set_option maxRecDepth 65536 in
theorem w_c3 : (Jvm.Cond.code ({ cls := "com/example/lease_on_wire/leaseonwire/LeaseLength", name := "driftAllowanceNanos", desc := "(J)J" } : Jvm.MethodName) prog_5_method_3_code (2 : Nat) (Option.some Jvm.ClassFile.FieldType.long)).before args0 about1 = true := code_word (m := ⟨2, 1⟩) (meth := k2m1) (c := k2c1) (by decide +kernel) rfl rfl rfl (by decide +kernel)
def codes1 : List Jvm.Cond := [Jvm.Cond.code x code maxLocals ret, Jvm.Cond.code ({ cls := "com/example/lease_on_wire/leaseonwire/LeaseLength", name := "runsOutBy", desc := "(JJ)J" } : Jvm.MethodName) prog_5_method_4_code (4 : Nat) (Option.some Jvm.ClassFile.FieldType.long), Jvm.Cond.code ({ cls := "java/util/concurrent/TimeUnit", name := "toNanos", desc := "(J)J" } : Jvm.MethodName) jdk_2799_method_7_code (7 : Nat) (Option.some Jvm.ClassFile.FieldType.long), Jvm.Cond.code ({ cls := "com/example/lease_on_wire/leaseonwire/LeaseLength", name := "driftAllowanceNanos", desc := "(J)J" } : Jvm.MethodName) prog_5_method_3_code (2 : Nat) (Option.some Jvm.ClassFile.FieldType.long)]
set_option maxRecDepth 65536 in
theorem codes_eq : words1.filter isCode = codes1 := rfl
theorem w_codes : ∀ c ∈ words1.filter isCode, c.before args0 about1 = true := by
  rw [codes_eq]
  intro c hc
  simp only [codes1, List.mem_cons, List.not_mem_nil, or_false] at hc
  rcases hc with rfl | rfl | rfl | rfl
  · exact w_c0
  · exact w_c1
  · exact w_c2
  · exact w_c3
set_option maxRecDepth 65536 in
theorem w_t1 : (words1.take 24).all (fun c => isCode c || c.before args0 about1) = true := by decide +kernel
set_option maxRecDepth 65536 in
theorem w_t2 : (words1.drop 24).all (fun c => isCode c || c.before args0 about1) = true := by decide +kernel
theorem w_tables : (allAtoms (Jvm.Cond.code x code maxLocals ret :: tables_1)).before args0 about1 = true := by
  rw [allAtoms_all]
  show words1.all (fun c => c.before args0 about1) = true
  refine all_split ?_ w_codes
  rw [← List.take_append_drop 24 words1, List.all_append, w_t1, w_t2]
  rfl
set_option maxRecDepth 65536 in
theorem w_rest : rest_1_c.before args0 about1 = true := by decide +kernel
set_option maxRecDepth 65536 in
theorem w_case : (Jvm.Cond.and given_1 narrow_1).before args0 about1 = true := by decide +kernel
theorem w_applies : (headSpec (Jvm.Cond.code x code maxLocals ret :: tables_1) room_1).applies x e0.platform about1 = true :=
  (Spec.applies_iff w_frames).mpr ⟨w_running, w_runnable, w_alone, w_named, w_hears, w_ripe, w_room, w_tables⟩
theorem atStart : AtStart classFile x code maxLocals ret World_1 tables_1 room_1 Calls_1 rest_1 Pre_1 launch0 p0 e0 about1 theMethod args0 below0 :=
  ⟨lists_1, trivial, launch0.admits_env _ _ _, launch0.least_env, fairChoices_fair.cas, fairChoices_fair.clock, w_frames, w_args, w_heap, w_applies, trivial, w_rest, w_case⟩
end start1
theorem witness_1 : WitnessClaimed_1 := ⟨start1.p0, start1.e0, start1.about1, start1.theMethod, start1.args0, start1.below0, start1.atStart⟩
end Jvm.Pilot.@@N@@
