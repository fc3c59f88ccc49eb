import JvmDerived
import JvmDerived.Pilot.@@N@@Statement
import JvmDerived.Pilot.@@N@@Code
set_option linter.unusedVariables false
set_option linter.unusedSimpArgs false
namespace Jvm.RoadKit
open Sem ClassFile Op Lib Jvm.Stand Jvm.Free Jvm.LawKit
section New
variable {p : Program} {l : Launch} {e : Env} {R : Room} {s : State} {m : MethodId} {args : Array Value} {below : List Frame} {meth : Method} {c : Code} {T : State} {locs : List Loc} {cells slots : Nat}
theorem retI (X : Stand p l e R s m args below meth c T locs cells slots) (hx : p.tables.exec = Jvm.exec) {pc : Nat} {Ls : Array Slot} {z : Int32} {rest : List Value} (hret : meth.sig.returnType = some .int) (hd : decode c.code pc = .ok (.ireturn, 1)) {fs : List Frame}
    (hl : ∀ (f : JFrame) (acts : List Action), f.method = m → f.locked = none → f.entered = [] → (doReturn e (T.setTop f) acts (some (.int z))).1 = T.setFrames fs) : Steps p.tables e below (T.setTop (mkF m pc Ls (.int z :: rest))) (T.setFrames fs) := by
  have hm' : T.vm.method? m = some meth := X.method'
  have hn : narrow .int (.int z) = .int z := rfl
  show Steps p.tables e below (T.setTop { method := m, pc := pc, locals := Ls, stack := _ :: rest, locked := none }) _
  jvm_step X.here [X.here.top, hx, hd, hm', hret, hn]
  first | (intro acts; rw [hl _ acts rfl rfl rfl]) | rw [hl _ _ rfl rfl rfl]
  exact Steps.refl _
end New
end Jvm.RoadKit
namespace Jvm.Pilot.@@N@@
open Jvm Jvm.ClassFile Sem Op Lib Jvm.Free Jvm.Stand Jvm.LawKit Jvm.RoadKit Bundle Jvm.Pilot.@@N@@.Jvm.D
theorem own_eqI {t : Term} {args : Array Value} {first s : State} {o : Option Outcome} {idx : List Nat} {k : Int32} (h : (Jvm.Cond.eq t (.int k)).value args first o s idx = some true) : t.eval args first o idx s = some (.int k) := by
  cases ht : t.eval args first o idx s with
  | none => simp [Cond.value, ht] at h
  | some x => cases x <;> simp [Cond.value, ht, Term.eval] at h ⊢ <;> exact h
theorem own_eqJ {t : Term} {args : Array Value} {first s : State} {o : Option Outcome} {idx : List Nat} {k : Int64} (h : (Jvm.Cond.eq t (.long k)).value args first o s idx = some true) : t.eval args first o idx s = some (.long k) := by
  cases ht : t.eval args first o idx s with
  | none => simp [Cond.value, ht] at h
  | some x => cases x <;> simp [Cond.value, ht, Term.eval] at h ⊢ <;> exact h
theorem own_eqR {t u : Term} {args : Array Value} {first s : State} {o : Option Outcome} {idx : List Nat} {x : Addr} (h : (Jvm.Cond.eq t u).value args first o s idx = some true) (hu : u.eval args first o idx s = some (.ref x)) : t.eval args first o idx s = some (.ref x) := by
  cases ht : t.eval args first o idx s with
  | none => simp [Cond.value, ht] at h
  | some z => cases z <;> simp [Cond.value, ht, hu] at h ⊢ <;> exact h
theorem cat_of {v : Value} (h : v.isRef = true) : v.category = 1 := by rcases ref_cases h with rfl | ⟨a, rfl⟩ <;> rfl
theorem own_fits {n : String} {v : Value} (h : v.isRef = true) : fits (.object n) v = true := by rcases ref_cases h with rfl | ⟨a, rfl⟩ <;> rfl
theorem own_exa_ns {Z : State} {h : Heap} {a : Addr} {C : String} (E : Exa Z h a C) : ∀ c : Cell, h[a]? = some c → c.vm.isStatics = false := fun c hc => by
  obtain ⟨cell, k, h1, -, -, h4, -⟩ := E
  cases h1.symm.trans hc; exact h4
theorem own_sta_keep {Z : State} {h h' : Heap} {ws : List Addr} {C n d : String} {v : Value} (F : Sta Z h C n d v) (K : Keep h h' ws) (q : ∀ x ∈ ws, ∀ c : Cell, h[x]? = some c → c.vm.isStatics = false) : Sta Z h' C n d v := by
  obtain ⟨cf, i, k, f, st, cell, h1, h2, h3, h4, h5, h6, r⟩ := F
  refine ⟨cf, i, k, f, st, cell, h1, h2, h3, h4, K.2.1 st cell h5 (fun hm => ?_), h6, r⟩
  have := q st hm cell h5
  rw [h6] at this; cases this
theorem own_le (p : Int32) : ¬ ((9223372036854 : Int64) < (p.toInt64)) := by
  rw [Int64.lt_iff_toInt_lt, c_i2l]
  have : (9223372036854 : Int64).toInt = 9223372036854 := by decide
  have := rng32 p
  omega
theorem own_ge (p : Int32) : ¬ ((p.toInt64) < (-(9223372036854 : Int64))) := by
  rw [Int64.lt_iff_toInt_lt, c_i2l]
  have : (-(9223372036854 : Int64)).toInt = -9223372036854 := by decide
  have := rng32 p
  omega
theorem own_s1 (e l s : Int64) : (e - s) - l = (e - l) - s := by grind
theorem own_s2 (x l s : Int64) : ((x + l) - l) - s = x - s := by grind
theorem own_s3 (x l : Int64) : ¬ (0 : Int64) < ((x + l) - l) - x := by
  have : ((x + l) - l) - x = 0 := by grind
  rw [this]; decide
theorem own_s4 (x l : Int64) : (0 : Int64) < ((x + l) - l) - (x - 1) := by
  have : ((x + l) - l) - (x - 1) = 1 := by grind
  rw [this]; decide
theorem pn_0 : plainName "java/util/concurrent/TimeUnit" = true := by first | (simp [plainName, overriddenIn]; done) | decide +kernel
theorem d3_0 : decode jdk_2799_method_7_code 0 = .ok (.aload_n 0, 1) := by decide +kernel
theorem d3_1 : decode jdk_2799_method_7_code 1 = .ok (.getfield 44, 3) := by decide +kernel
theorem d3_4 : decode jdk_2799_method_7_code 4 = .ok (.dup2, 1) := by decide +kernel
theorem d3_5 : decode jdk_2799_method_7_code 5 = .ok (.lstore_n 3, 1) := by decide +kernel
theorem d3_6 : decode jdk_2799_method_7_code 6 = .ok (.lconst 1, 1) := by decide +kernel
theorem d3_7 : decode jdk_2799_method_7_code 7 = .ok (.lcmp, 1) := by decide +kernel
theorem d3_8 : decode jdk_2799_method_7_code 8 = .ok (.ifCond .ne 5, 3) := by decide +kernel
theorem d3_13 : decode jdk_2799_method_7_code 13 = .ok (.lload_n 1, 1) := by decide +kernel
theorem d3_14 : decode jdk_2799_method_7_code 14 = .ok (.aload_n 0, 1) := by decide +kernel
theorem d3_15 : decode jdk_2799_method_7_code 15 = .ok (.getfield 52, 3) := by decide +kernel
theorem d3_18 : decode jdk_2799_method_7_code 18 = .ok (.dup2, 1) := by decide +kernel
theorem d3_19 : decode jdk_2799_method_7_code 19 = .ok (.lstore 5, 2) := by decide +kernel
theorem d3_21 : decode jdk_2799_method_7_code 21 = .ok (.lcmp, 1) := by decide +kernel
theorem d3_22 : decode jdk_2799_method_7_code 22 = .ok (.ifCond .le 7, 3) := by decide +kernel
theorem d3_29 : decode jdk_2799_method_7_code 29 = .ok (.lload_n 1, 1) := by decide +kernel
theorem d3_30 : decode jdk_2799_method_7_code 30 = .ok (.lload 5, 2) := by decide +kernel
theorem d3_32 : decode jdk_2799_method_7_code 32 = .ok (.lneg, 1) := by decide +kernel
theorem d3_33 : decode jdk_2799_method_7_code 33 = .ok (.lcmp, 1) := by decide +kernel
theorem d3_34 : decode jdk_2799_method_7_code 34 = .ok (.ifCond .ge 7, 3) := by decide +kernel
theorem d3_41 : decode jdk_2799_method_7_code 41 = .ok (.lload_n 1, 1) := by decide +kernel
theorem d3_42 : decode jdk_2799_method_7_code 42 = .ok (.lload_n 3, 1) := by decide +kernel
theorem d3_43 : decode jdk_2799_method_7_code 43 = .ok (.lmul, 1) := by decide +kernel
theorem d3_44 : decode jdk_2799_method_7_code 44 = .ok (.lreturn, 1) := by decide +kernel
theorem ef_3 (m : MethodId) (x0 : Addr) (x1 : Int64)  : entryFrame m #[(.ref x0), (.long x1)] 7 = mkF m 0 #[.val (.ref x0), .val (.long x1), .second, .unset, .unset, .unset, .unset] [] := by first | (simp [entryFrame, mkF, argsToLocals, Value.category]; done) | rfl
def Q3 (Z : State) (a0 : Addr) (q1 : Int64) (h0 : Heap) (n0 : Nat) (v : Option Value) (h : Heap) (L : List Loc) : Prop := v = some (.long (q1 * (1000000 : Int64))) ∧ Fr n0 L ∧ h = h0
set_option maxRecDepth 65536 in
set_option maxHeartbeats 40000000 in
theorem rm3 (l : Launch) (Z : State) (aw : Array Value) (hw : ∀ d ∈ tables_1, d.before aw Z = true) (ws : List Jvm.Cond) (a0 : Addr) (q1 : Int64) (h0 : Heap) (n0 : Nat) (Z0 : n0 ≤ h0.size) (hle : ¬ ((9223372036854 : Int64) < q1)) (hge : ¬ (q1 < (-(9223372036854 : Int64)))) (Ff_scale_2 : Fld Z h0 a0 "java/util/concurrent/TimeUnit" "scale" "J" (.long (1000000 : Int64))) (Ff_maxNanos_3 : Fld Z h0 a0 "java/util/concurrent/TimeUnit" "maxNanos" "J" (.long (9223372036854 : Int64))) :
    MetFree l (⟨"java/util/concurrent/TimeUnit", "toNanos", "(J)J"⟩ : MethodName) (head1 (Jvm.Cond.code (⟨"java/util/concurrent/TimeUnit", "toNanos", "(J)J"⟩ : MethodName) jdk_2799_method_7_code 7 (some .long) :: ws) ({ frames := 0, cells := 0, slots := 0, locals := 0 } : Room)) (fun a U => a = #[(.ref a0), (.long q1)] ∧ Z.Warmed39 U.vm ∧ U.heap = h0) (fun _ _ _ _ _ => True) (fun _ U o U' => ∃ v L, o = .returned v ∧ Q3 Z a0 q1 h0 n0 v U'.heap L ∧ FrameEnd U o U' L ({ frames := 0, cells := 0, slots := 0, locals := 0 } : Room).cells ({ frames := 0, cells := 0, slots := 0, locals := 0 } : Room).slots) := by
  refine MetFree.of_bodySF (plainFor_of_name pn_0) hisR ?_
  intro p e s m args below meth c s₁ Bd hml0 hP hK
  obtain ⟨rfl, hZ, hh⟩ := hP
  have hx := Bd.exec
  have hby := Bd.bytes
  have hml : c.maxLocals = 7 := hml0
  have hown : s.vm.findClass "java/util/concurrent/TimeUnit" = some m.cls := findClass_of_methodNamed Bd.named
  have hnm := (name_of_methodNamed Bd.named Bd.method).1
  have X0 : Stand p l e ({ frames := 0, cells := 0, slots := 0, locals := 0 } : Room) s m #[(.ref a0), (.long q1)] below meth c s₁ [] 0 0 := Stand.of_body Bd
  have e0 : s₁.heap = h0 := by rw [← hh, Bd.state]; rfl
  have N0 := Fr.nil n0
  have pre0 : ∀ t, Steps p.tables e below (s₁.setTop (mkF m 0 #[.val (.ref a0), .val (.long q1), .second, .unset, .unset, .unset, .unset] [])) t → Steps p.tables e below (s₁.setTop (entryFrame m #[(.ref a0), (.long q1)] 7)) t := fun t k => castTop (ef_3 m a0 q1 ) k
  obtain ⟨T1, X1, e1, st1⟩ := getF X0 hx hZ hown (host := "") (Or.inl (hw _ (List.mem_of_getElem? (i := 16) rfl))) Via.refl e0 Ff_scale_2 (g := (mkF m 1 #[.val (.ref a0), .val (.long q1), .second, .unset, .unset, .unset, .unset] [(.ref a0)])) rfl rfl (hb hby d3_1)
  obtain ⟨T2, X2, e2, st2⟩ := getF X1 hx hZ hown (host := "") (Or.inl (hw _ (List.mem_of_getElem? (i := 18) rfl))) Via.refl e1 Ff_maxNanos_3 (g := (mkF m 15 #[.val (.ref a0), .val (.long q1), .second, .val (.long (1000000 : Int64)), .second, .unset, .unset] [(.ref a0), (.long q1)])) rfl rfl (hb hby d3_15)
  have pre3 : ∀ t, Steps p.tables e below (T2.setTop (mkF m 44 #[.val (.ref a0), .val (.long q1), .second, .val (.long (1000000 : Int64)), .second, .val (.long (9223372036854 : Int64)), .second] [(.long (q1 * (1000000 : Int64)))])) t → Steps p.tables e below (s₁.setTop (entryFrame m #[(.ref a0), (.long q1)] 7)) t := fun t kt => pre0 t (by
      show Steps p.tables e below (s₁.setTop (mkF m 0 #[.val (.ref a0), .val (.long q1), .second, .unset, .unset, .unset, .unset] [])) _
      refine XS.aloadN X0.here hx rfl (hb hby d3_0) rfl rfl ?_
      show Steps p.tables e below (s₁.setTop (mkF m 1 #[.val (.ref a0), .val (.long q1), .second, .unset, .unset, .unset, .unset] [(.ref a0)])) _
      refine st1 _ ?_
      show Steps p.tables e below (T1.setTop (mkF m 4 #[.val (.ref a0), .val (.long q1), .second, .unset, .unset, .unset, .unset] [(.long (1000000 : Int64))])) _
      refine Jvm.Free.XT.dup2L X1.here hx rfl (hb hby d3_4) rfl ?_
      show Steps p.tables e below (T1.setTop (mkF m 5 #[.val (.ref a0), .val (.long q1), .second, .unset, .unset, .unset, .unset] [(.long (1000000 : Int64)), (.long (1000000 : Int64))])) _
      refine XS.lstoreN X1.here hx rfl (hb hby d3_5) rfl (l' := #[.val (.ref a0), .val (.long q1), .second, .val (.long (1000000 : Int64)), .second, .unset, .unset]) rfl ?_
      show Steps p.tables e below (T1.setTop (mkF m 6 #[.val (.ref a0), .val (.long q1), .second, .val (.long (1000000 : Int64)), .second, .unset, .unset] [(.long (1000000 : Int64))])) _
      refine XS.lconst X1.here hx rfl (hb hby d3_6) ?_
      show Steps p.tables e below (T1.setTop (mkF m 7 #[.val (.ref a0), .val (.long q1), .second, .val (.long (1000000 : Int64)), .second, .unset, .unset] [(.long (1 : Int64)), (.long (1000000 : Int64))])) _
      refine XS.lcmp X1.here hx rfl (hb hby d3_7) rfl ?_
      show Steps p.tables e below (T1.setTop (mkF m 8 #[.val (.ref a0), .val (.long q1), .second, .val (.long (1000000 : Int64)), .second, .unset, .unset] [(.int (lcmpW (1000000 : Int64) (1 : Int64)))])) _
      refine XS.ifYes X1.here hx rfl (pc0 := 8) (pc' := 13) rfl (hb hby d3_8) rfl ((if0 _ _).trans (feq (by decide : ¬ (lcmpW (1000000 : Int64) (1 : Int64) = (0 : Int32)))).2) (by decide) (by decide) ?_
      show Steps p.tables e below (T1.setTop (mkF m 13 #[.val (.ref a0), .val (.long q1), .second, .val (.long (1000000 : Int64)), .second, .unset, .unset] [])) _
      refine XS.lloadN X1.here hx rfl (hb hby d3_13) rfl ?_
      show Steps p.tables e below (T1.setTop (mkF m 14 #[.val (.ref a0), .val (.long q1), .second, .val (.long (1000000 : Int64)), .second, .unset, .unset] [(.long q1)])) _
      refine XS.aloadN X1.here hx rfl (hb hby d3_14) rfl rfl ?_
      show Steps p.tables e below (T1.setTop (mkF m 15 #[.val (.ref a0), .val (.long q1), .second, .val (.long (1000000 : Int64)), .second, .unset, .unset] [(.ref a0), (.long q1)])) _
      refine st2 _ ?_
      show Steps p.tables e below (T2.setTop (mkF m 18 #[.val (.ref a0), .val (.long q1), .second, .val (.long (1000000 : Int64)), .second, .unset, .unset] [(.long (9223372036854 : Int64)), (.long q1)])) _
      refine Jvm.Free.XT.dup2L X2.here hx rfl (hb hby d3_18) rfl ?_
      show Steps p.tables e below (T2.setTop (mkF m 19 #[.val (.ref a0), .val (.long q1), .second, .val (.long (1000000 : Int64)), .second, .unset, .unset] [(.long (9223372036854 : Int64)), (.long (9223372036854 : Int64)), (.long q1)])) _
      refine XS.lstore X2.here hx rfl (hb hby d3_19) rfl (l' := #[.val (.ref a0), .val (.long q1), .second, .val (.long (1000000 : Int64)), .second, .val (.long (9223372036854 : Int64)), .second]) rfl ?_
      show Steps p.tables e below (T2.setTop (mkF m 21 #[.val (.ref a0), .val (.long q1), .second, .val (.long (1000000 : Int64)), .second, .val (.long (9223372036854 : Int64)), .second] [(.long (9223372036854 : Int64)), (.long q1)])) _
      refine XS.lcmp X2.here hx rfl (hb hby d3_21) rfl ?_
      show Steps p.tables e below (T2.setTop (mkF m 22 #[.val (.ref a0), .val (.long q1), .second, .val (.long (1000000 : Int64)), .second, .val (.long (9223372036854 : Int64)), .second] [(.int (lcmpW q1 (9223372036854 : Int64)))])) _
      refine XS.ifYes X2.here hx rfl (pc0 := 22) (pc' := 29) rfl (hb hby d3_22) rfl ((if0 _ _).trans (flt (fun z => hle ((lw_gt _ _).mp z))).2.2.2) (by decide) (by decide) ?_
      show Steps p.tables e below (T2.setTop (mkF m 29 #[.val (.ref a0), .val (.long q1), .second, .val (.long (1000000 : Int64)), .second, .val (.long (9223372036854 : Int64)), .second] [])) _
      refine XS.lloadN X2.here hx rfl (hb hby d3_29) rfl ?_
      show Steps p.tables e below (T2.setTop (mkF m 30 #[.val (.ref a0), .val (.long q1), .second, .val (.long (1000000 : Int64)), .second, .val (.long (9223372036854 : Int64)), .second] [(.long q1)])) _
      refine XS.lload X2.here hx rfl (hb hby d3_30) rfl ?_
      show Steps p.tables e below (T2.setTop (mkF m 32 #[.val (.ref a0), .val (.long q1), .second, .val (.long (1000000 : Int64)), .second, .val (.long (9223372036854 : Int64)), .second] [(.long (9223372036854 : Int64)), (.long q1)])) _
      refine XS.lneg X2.here hx rfl (hb hby d3_32) rfl ?_
      show Steps p.tables e below (T2.setTop (mkF m 33 #[.val (.ref a0), .val (.long q1), .second, .val (.long (1000000 : Int64)), .second, .val (.long (9223372036854 : Int64)), .second] [(.long (-(9223372036854 : Int64))), (.long q1)])) _
      refine XS.lcmp X2.here hx rfl (hb hby d3_33) rfl ?_
      show Steps p.tables e below (T2.setTop (mkF m 34 #[.val (.ref a0), .val (.long q1), .second, .val (.long (1000000 : Int64)), .second, .val (.long (9223372036854 : Int64)), .second] [(.int (lcmpW q1 (-(9223372036854 : Int64))))])) _
      refine XS.ifYes X2.here hx rfl (pc0 := 34) (pc' := 41) rfl (hb hby d3_34) rfl ((if0 _ _).trans (flt (fun z => hge ((lw_lt _ _).mp z))).2.1) (by decide) (by decide) ?_
      show Steps p.tables e below (T2.setTop (mkF m 41 #[.val (.ref a0), .val (.long q1), .second, .val (.long (1000000 : Int64)), .second, .val (.long (9223372036854 : Int64)), .second] [])) _
      refine XS.lloadN X2.here hx rfl (hb hby d3_41) rfl ?_
      show Steps p.tables e below (T2.setTop (mkF m 42 #[.val (.ref a0), .val (.long q1), .second, .val (.long (1000000 : Int64)), .second, .val (.long (9223372036854 : Int64)), .second] [(.long q1)])) _
      refine XS.lloadN X2.here hx rfl (hb hby d3_42) rfl ?_
      show Steps p.tables e below (T2.setTop (mkF m 43 #[.val (.ref a0), .val (.long q1), .second, .val (.long (1000000 : Int64)), .second, .val (.long (9223372036854 : Int64)), .second] [(.long (1000000 : Int64)), (.long q1)])) _
      refine XS.lmul X2.here hx rfl (hb hby d3_43) rfl ?_
      exact kt)
  obtain ⟨fs, hr, hrun, hended, hW, hsame⟩ := X2.leave (v := some (.long (q1 * (1000000 : Int64)))) (fun h => by rw [Bd.returns] at h; cases h)
  refine ⟨_, _, pre3 _ ?_, hrun, hended, _, _, rfl, ?_, ⟨_, rfl⟩, hW, hsame.mono (by decide) (by decide)⟩
  · show Steps p.tables e below (T2.setTop (mkF m 44 #[.val (.ref a0), .val (.long q1), .second, .val (.long (1000000 : Int64)), .second, .val (.long (9223372036854 : Int64)), .second] [(.long (q1 * (1000000 : Int64)))])) _
    jvm_step X2.here [X2.here.top, hx, (hb hby d3_44), X2.method', Bd.returns, narrow]
    first | (intro acts; rw [hr _ acts rfl rfl rfl]) | rw [hr _ _ rfl rfl rfl]
    exact Steps.refl _
  · show Q3 Z _ _ h0 n0 _ T2.heap _
    rw [e2]
    exact ⟨rfl, N0, rfl⟩
theorem d4_0 : decode jdk_29_method_65_code 0 = .ok (.iload_n 0, 1) := by decide +kernel
theorem d4_1 : decode jdk_29_method_65_code 1 = .ok (.iload_n 1, 1) := by decide +kernel
theorem d4_2 : decode jdk_29_method_65_code 2 = .ok (.if_icmp .lt 7, 3) := by decide +kernel
theorem d4_5 : decode jdk_29_method_65_code 5 = .ok (.iload_n 0, 1) := by decide +kernel
theorem d4_6 : decode jdk_29_method_65_code 6 = .ok (.goto 4, 3) := by decide +kernel
theorem d4_9 : decode jdk_29_method_65_code 9 = .ok (.iload_n 1, 1) := by decide +kernel
theorem d4_10 : decode jdk_29_method_65_code 10 = .ok (.ireturn, 1) := by decide +kernel
theorem ef_4 (m : MethodId) (x0 : Int32) (x1 : Int32)  : entryFrame m #[(.int x0), (.int x1)] 2 = mkF m 0 #[.val (.int x0), .val (.int x1)] [] := by first | (simp [entryFrame, mkF, argsToLocals, Value.category]; done) | rfl
def Q4 (Z : State) (p0 : Int32) (p1 : Int32) (h0 : Heap) (n0 : Nat) (v : Option Value) (h : Heap) (L : List Loc) : Prop := (∃ r : Int32, v = some (.int r) ∧ (True)) ∧ Fr n0 L ∧ h = h0
set_option maxRecDepth 65536 in
set_option maxHeartbeats 40000000 in
theorem rm4 (l : Launch) (Z : State) (aw : Array Value) (hw : ∀ d ∈ tables_1, d.before aw Z = true) (ws : List Jvm.Cond) (p0 : Int32) (p1 : Int32) (h0 : Heap) (n0 : Nat) (Z0 : n0 ≤ h0.size) :
    MetFree l (⟨"java/lang/Math", "max", "(II)I"⟩ : MethodName) (head1 (Jvm.Cond.code (⟨"java/lang/Math", "max", "(II)I"⟩ : MethodName) jdk_29_method_65_code 2 (some .int) :: ws) ({ frames := 0, cells := 0, slots := 0, locals := 0 } : Room)) (fun a U => a = #[(.int p0), (.int p1)] ∧ Z.Warmed39 U.vm ∧ U.heap = h0) (fun _ _ _ _ _ => True) (fun _ U o U' => ∃ v L, o = .returned v ∧ Q4 Z p0 p1 h0 n0 v U'.heap L ∧ FrameEnd U o U' L ({ frames := 0, cells := 0, slots := 0, locals := 0 } : Room).cells ({ frames := 0, cells := 0, slots := 0, locals := 0 } : Room).slots) := by
  refine MetFree.of_bodySF (Jvm.Free.JP.mathPlain rfl (by decide +kernel)) hisR ?_
  intro p e s m args below meth c s₁ Bd hml0 hP hK
  obtain ⟨rfl, hZ, hh⟩ := hP
  have hx := Bd.exec
  have hby := Bd.bytes
  have hml : c.maxLocals = 2 := hml0
  have hown : s.vm.findClass "java/lang/Math" = some m.cls := findClass_of_methodNamed Bd.named
  have hnm := (name_of_methodNamed Bd.named Bd.method).1
  have X0 : Stand p l e ({ frames := 0, cells := 0, slots := 0, locals := 0 } : Room) s m #[(.int p0), (.int p1)] below meth c s₁ [] 0 0 := Stand.of_body Bd
  have e0 : s₁.heap = h0 := by rw [← hh, Bd.state]; rfl
  have N0 := Fr.nil n0
  have pre0 : ∀ t, Steps p.tables e below (s₁.setTop (mkF m 0 #[.val (.int p0), .val (.int p1)] [])) t → Steps p.tables e below (s₁.setTop (entryFrame m #[(.int p0), (.int p1)] 2)) t := fun t k => castTop (ef_4 m p0 p1 ) k
  have pre1 : ∀ t, Steps p.tables e below (s₁.setTop (mkF m 2 #[.val (.int p0), .val (.int p1)] [(.int p1), (.int p0)])) t → Steps p.tables e below (s₁.setTop (entryFrame m #[(.int p0), (.int p1)] 2)) t := fun t kt => pre0 t (by
      show Steps p.tables e below (s₁.setTop (mkF m 0 #[.val (.int p0), .val (.int p1)] [])) _
      refine XS.iloadN X0.here hx rfl (hb hby d4_0) rfl ?_
      show Steps p.tables e below (s₁.setTop (mkF m 1 #[.val (.int p0), .val (.int p1)] [(.int p0)])) _
      refine XS.iloadN X0.here hx rfl (hb hby d4_1) rfl ?_
      exact kt)
  by_cases hc2 : p0 < p1
  · skip
    have pre3 : ∀ t, Steps p.tables e below (s₁.setTop (mkF m 10 #[.val (.int p0), .val (.int p1)] [(.int p1)])) t → Steps p.tables e below (s₁.setTop (entryFrame m #[(.int p0), (.int p1)] 2)) t := fun t kt => pre1 t (by
        show Steps p.tables e below (s₁.setTop (mkF m 2 #[.val (.int p0), .val (.int p1)] [(.int p1), (.int p0)])) _
        refine XS.icmpYes X0.here hx rfl (pc0 := 2) (pc' := 9) rfl (hb hby d4_2) rfl (tlt hc2).1 (by decide) (by decide) ?_
        show Steps p.tables e below (s₁.setTop (mkF m 9 #[.val (.int p0), .val (.int p1)] [])) _
        refine XS.iloadN X0.here hx rfl (hb hby d4_9) rfl ?_
        exact kt)
    obtain ⟨fs, hr, hrun, hended, hW, hsame⟩ := X0.leave (v := some (.int p1)) (fun h => by rw [Bd.returns] at h; cases h)
    refine ⟨_, _, pre3 _ ?_, hrun, hended, _, _, rfl, ?_, ⟨_, rfl⟩, hW, hsame.mono (by decide) (by decide)⟩
    · show Steps p.tables e below (s₁.setTop (mkF m 10 #[.val (.int p0), .val (.int p1)] [(.int p1)])) _
      exact retI X0 hx Bd.returns (hb hby d4_10) hr
    · show Q4 Z _ _ h0 n0 _ s₁.heap _
      rw [e0]
      exact ⟨⟨_, rfl, trivial⟩, N0, rfl⟩
  · skip
    have pre4 : ∀ t, Steps p.tables e below (s₁.setTop (mkF m 10 #[.val (.int p0), .val (.int p1)] [(.int p0)])) t → Steps p.tables e below (s₁.setTop (entryFrame m #[(.int p0), (.int p1)] 2)) t := fun t kt => pre1 t (by
        show Steps p.tables e below (s₁.setTop (mkF m 2 #[.val (.int p0), .val (.int p1)] [(.int p1), (.int p0)])) _
        refine XS.icmpNo X0.here hx rfl (hb hby d4_2) rfl (flt hc2).1 ?_
        show Steps p.tables e below (s₁.setTop (mkF m 5 #[.val (.int p0), .val (.int p1)] [])) _
        refine XS.iloadN X0.here hx rfl (hb hby d4_5) rfl ?_
        show Steps p.tables e below (s₁.setTop (mkF m 6 #[.val (.int p0), .val (.int p1)] [(.int p0)])) _
        refine XS.goto X0.here hx rfl (pc0 := 6) (pc' := 10) rfl (hb hby d4_6) (by decide) (by decide) ?_
        exact kt)
    obtain ⟨fs, hr, hrun, hended, hW, hsame⟩ := X0.leave (v := some (.int p0)) (fun h => by rw [Bd.returns] at h; cases h)
    refine ⟨_, _, pre4 _ ?_, hrun, hended, _, _, rfl, ?_, ⟨_, rfl⟩, hW, hsame.mono (by decide) (by decide)⟩
    · show Steps p.tables e below (s₁.setTop (mkF m 10 #[.val (.int p0), .val (.int p1)] [(.int p0)])) _
      exact retI X0 hx Bd.returns (hb hby d4_10) hr
    · show Q4 Z _ _ h0 n0 _ s₁.heap _
      rw [e0]
      exact ⟨⟨_, rfl, trivial⟩, N0, rfl⟩
theorem pd_0 : parseMethodDescriptor "(J)J" = some ⟨[.long], some .long⟩ := by decide +kernel
theorem pd_1 : parseMethodDescriptor "(II)I" = some ⟨[.int, .int], some .int⟩ := by decide +kernel
theorem pn_1 : plainName "com/example/cluster_log/clusterlog/Lease" = true := by first | (simp [plainName, overriddenIn]; done) | decide +kernel
theorem d1_0 : decode prog_8_method_1_code 0 = .ok (.aload_n 0, 1) := by decide +kernel
theorem d1_1 : decode prog_8_method_1_code 1 = .ok (.invokespecial 1, 3) := by decide +kernel
theorem d1_4 : decode prog_8_method_1_code 4 = .ok (.aload_n 0, 1) := by decide +kernel
theorem d1_5 : decode prog_8_method_1_code 5 = .ok (.getstatic 7, 3) := by decide +kernel
theorem d1_8 : decode prog_8_method_1_code 8 = .ok (.iload_n 1, 1) := by decide +kernel
theorem d1_9 : decode prog_8_method_1_code 9 = .ok (.i2l, 1) := by decide +kernel
theorem d1_10 : decode prog_8_method_1_code 10 = .ok (.invokevirtual 13, 3) := by decide +kernel
theorem d1_13 : decode prog_8_method_1_code 13 = .ok (.ldc2_w 19, 3) := by decide +kernel
theorem d1_16 : decode prog_8_method_1_code 16 = .ok (.lmul, 1) := by decide +kernel
theorem d1_17 : decode prog_8_method_1_code 17 = .ok (.ldc2_w 21, 3) := by decide +kernel
theorem d1_20 : decode prog_8_method_1_code 20 = .ok (.ldiv, 1) := by decide +kernel
theorem d1_21 : decode prog_8_method_1_code 21 = .ok (.putfield 23, 3) := by decide +kernel
theorem d1_24 : decode prog_8_method_1_code 24 = .ok (.aload_n 0, 1) := by decide +kernel
theorem d1_25 : decode prog_8_method_1_code 25 = .ok (.iconst 1, 1) := by decide +kernel
theorem d1_26 : decode prog_8_method_1_code 26 = .ok (.iload_n 1, 1) := by decide +kernel
theorem d1_27 : decode prog_8_method_1_code 27 = .ok (.iconst 3, 1) := by decide +kernel
theorem d1_28 : decode prog_8_method_1_code 28 = .ok (.idiv, 1) := by decide +kernel
theorem d1_29 : decode prog_8_method_1_code 29 = .ok (.invokestatic 27, 3) := by decide +kernel
theorem d1_32 : decode prog_8_method_1_code 32 = .ok (.i2l, 1) := by decide +kernel
theorem d1_33 : decode prog_8_method_1_code 33 = .ok (.putfield 33, 3) := by decide +kernel
theorem d1_36 : decode prog_8_method_1_code 36 = .ok (.aload_n 0, 1) := by decide +kernel
theorem d1_37 : decode prog_8_method_1_code 37 = .ok (.lload_n 2, 1) := by decide +kernel
theorem d1_38 : decode prog_8_method_1_code 38 = .ok (.putfield 36, 3) := by decide +kernel
theorem d1_41 : decode prog_8_method_1_code 41 = .ok (.return_, 1) := by decide +kernel
theorem ef_1 (m : MethodId) (x0 : Addr) (x1 : Int32) (x2 : Int64)  : entryFrame m #[(.ref x0), (.int x1), (.long x2)] 4 = mkF m 0 #[.val (.ref x0), .val (.int x1), .val (.long x2), .second] [] := by first | (simp [entryFrame, mkF, argsToLocals, Value.category]; done) | rfl
def Q1 (Z : State) (a0 : Addr) (p1 : Int32) (q2 : Int64) (w_MILLISECONDS_0 : Addr) (u_length_1 : Value) (u_heartbeatMs_2 : Value) (u_end_3 : Value) (h0 : Heap) (n0 : Nat) (v : Option Value) (h : Heap) (L : List Loc) : Prop := v = none ∧ Fr n0 L ∧ (Keep h0 h [a0]) ∧ (Exa Z h a0 "com/example/cluster_log/clusterlog/Lease") ∧ (Fld Z h a0 "com/example/cluster_log/clusterlog/Lease" "length" "J" (.long ((((p1.toInt64) * (1000000 : Int64)) * (9 : Int64)) / (10 : Int64)))) ∧ (Fld Z h a0 "com/example/cluster_log/clusterlog/Lease" "end" "J" (.long q2))
set_option maxRecDepth 65536 in
set_option maxHeartbeats 40000000 in
theorem rm1 (l : Launch) (Z : State) (aw : Array Value) (hw : ∀ d ∈ tables_1, d.before aw Z = true) (ws : List Jvm.Cond) (a0 : Addr) (p1 : Int32) (q2 : Int64) (w_MILLISECONDS_0 : Addr) (u_length_1 : Value) (u_heartbeatMs_2 : Value) (u_end_3 : Value) (h0 : Heap) (n0 : Nat) (Z0 : n0 ≤ h0.size) (Sf_MILLISECONDS_0 : Sta Z h0 "java/util/concurrent/TimeUnit" "MILLISECONDS" "Ljava/util/concurrent/TimeUnit;" (.ref w_MILLISECONDS_0)) (Ff_scale_1 : Fld Z h0 w_MILLISECONDS_0 "java/util/concurrent/TimeUnit" "scale" "J" (.long (1000000 : Int64))) (Ff_maxNanos_2 : Fld Z h0 w_MILLISECONDS_0 "java/util/concurrent/TimeUnit" "maxNanos" "J" (.long (9223372036854 : Int64))) (Exa_3 : Exa Z h0 w_MILLISECONDS_0 "java/util/concurrent/TimeUnit") (Exa_4 : Exa Z h0 a0 "com/example/cluster_log/clusterlog/Lease") (Fo_length_5 : Fld Z h0 a0 "com/example/cluster_log/clusterlog/Lease" "length" "J" u_length_1) (g_a0 : n0 ≤ a0) (Fo_heartbeatMs_7 : Fld Z h0 a0 "com/example/cluster_log/clusterlog/Lease" "heartbeatMs" "J" u_heartbeatMs_2) (Fo_end_8 : Fld Z h0 a0 "com/example/cluster_log/clusterlog/Lease" "end" "J" u_end_3) :
    MetFree l (⟨"com/example/cluster_log/clusterlog/Lease", "<init>", "(IJ)V"⟩ : MethodName) (head1 (Jvm.Cond.code (⟨"com/example/cluster_log/clusterlog/Lease", "<init>", "(IJ)V"⟩ : MethodName) prog_8_method_1_code 4 none :: ws) ({ frames := 1, cells := 0, slots := 0, locals := 19 } : Room)) (fun a U => a = #[(.ref a0), (.int p1), (.long q2)] ∧ Z.Warmed39 U.vm ∧ U.heap = h0) (fun _ _ _ _ _ => True) (fun _ U o U' => ∃ v L, o = .returned v ∧ Q1 Z a0 p1 q2 w_MILLISECONDS_0 u_length_1 u_heartbeatMs_2 u_end_3 h0 n0 v U'.heap L ∧ FrameEnd U o U' L ({ frames := 1, cells := 0, slots := 0, locals := 19 } : Room).cells ({ frames := 1, cells := 0, slots := 0, locals := 19 } : Room).slots) := by
  refine MetFree.of_bodySF (plainFor_of_name pn_1) hisR ?_
  intro p e s m args below meth c s₁ Bd hml0 hP hK
  obtain ⟨rfl, hZ, hh⟩ := hP
  have hx := Bd.exec
  have hby := Bd.bytes
  have hml : c.maxLocals = 4 := hml0
  have hown : s.vm.findClass "com/example/cluster_log/clusterlog/Lease" = some m.cls := findClass_of_methodNamed Bd.named
  have hnm := (name_of_methodNamed Bd.named Bd.method).1
  have X0 : Stand p l e ({ frames := 1, cells := 0, slots := 0, locals := 19 } : Room) s m #[(.ref a0), (.int p1), (.long q2)] below meth c s₁ [] 0 0 := Stand.of_body Bd
  have e0 : s₁.heap = h0 := by rw [← hh, Bd.state]; rfl
  have N0 := Fr.nil n0
  have pre0 : ∀ t, Steps p.tables e below (s₁.setTop (mkF m 0 #[.val (.ref a0), .val (.int p1), .val (.long q2), .second] [])) t → Steps p.tables e below (s₁.setTop (entryFrame m #[(.ref a0), (.int p1), (.long q2)] 4)) t := fun t k => castTop (ef_1 m a0 p1 q2 ) k
  obtain ⟨T1, X1, e1, st1⟩ := initO X0 hx hZ hown (hw _ (List.mem_of_getElem? (i := 6) rfl)) (hw _ (List.mem_of_getElem? (i := 7) rfl)) (hw _ (List.mem_of_getElem? (i := 8) rfl)) e0 (g := (mkF m 1 #[.val (.ref a0), .val (.int p1), .val (.long q2), .second] [(.ref a0)])) rfl (by rw [hml]; rfl) rfl (hb hby d1_1) (by decide) (W := 0) (by show 2 * 0 + _ ≤ _; exact Nat.le_of_eq rfl) (by decide)
  obtain ⟨T2, X2, e2, st2⟩ := getS2 X1 hx hZ hown (host := "") (Or.inl (hw _ (List.mem_of_getElem? (i := 9) rfl))) Via.refl e1 Sf_MILLISECONDS_0 (g := (mkF m 5 #[.val (.ref a0), .val (.int p1), .val (.long q2), .second] [(.ref a0)])) rfl (hb hby d1_5)
  obtain ⟨cq3, kq3, q3a, q3b, q3c⟩ := isOf hZ e2 Exa_3
  obtain ⟨_, _, ⟨T3, L3, k3, n3⟩, -, X3, ⟨Lc3, hQ3, l3, y3, z3⟩, st3⟩ := X2.virtualBack hx (y := (⟨"java/util/concurrent/TimeUnit", "toNanos", "(J)J"⟩ : MethodName)) (z := (⟨"java/util/concurrent/TimeUnit", "toNanos", "(J)J"⟩ : MethodName)) hown (mvT hZ (hw _ (List.mem_of_getElem? (i := 11) rfl))) (mvT hZ (hw _ (List.mem_of_getElem? (i := 12) rfl))) (notFace_of_selects (args := #[]) (mvT hZ (hw _ (List.mem_of_getElem? (i := 14) rfl)))) (mvT hZ (hw _ (List.mem_of_getElem? (i := 14) rfl))) (mvT hZ (hw _ (List.mem_of_getElem? (i := 13) rfl))) (by decide) (backOf (W := 1) (rm3 l Z aw hw [] w_MILLISECONDS_0 (p1.toInt64) h0 n0 Z0 (own_le _) (own_ge _) Ff_scale_1 Ff_maxNanos_2) hZ (hw _ (List.mem_of_getElem? (i := 15) rfl)) (hw _ (List.mem_of_getElem? (i := 10) rfl)) (by decide) (by decide)) q3a q3c (g := (mkF m 10 #[.val (.ref a0), .val (.int p1), .val (.long q2), .second] [(.long (p1.toInt64)), (.ref w_MILLISECONDS_0), (.ref a0)])) rfl (by rw [hml]; rfl) (Steps.refl _) (argsL := [(.long (p1.toInt64))]) (rest := [(.ref a0)]) (lenOf pd_0 rfl) rfl (by show 2 * 0 + _ ≤ _; exact Nat.le_of_eq rfl) (hb hby d1_10) (fun _ _ => ⟨rfl, e2, (by decide : 0 + 0 ≤ _), (by decide : 0 + 0 ≤ _)⟩)
  dsimp only [Pt.U, Pt.locs, Pt.cells, Pt.slots] at X3 l3 y3 z3 st3 hQ3
  subst l3 y3 z3
  obtain ⟨rfl, Nq3, e3⟩ := hQ3
  have N3 := Fr.app N0 Nq3
  obtain ⟨T4, h4, X4, e4, W4, st4⟩ := putF X3 hx hZ hown (host := "") (Or.inl (hw _ (List.mem_of_getElem? (i := 22) rfl))) Via.refl e3 Fo_length_5 Exa_4 (Or.inr ⟨(hw _ (List.mem_of_getElem? (i := 23) rfl)), rfl, hnm⟩) (hw _ (List.mem_of_getElem? (i := 1) rfl)) (ty := .long) (by decide) rfl rfl (g := (mkF m 21 #[.val (.ref a0), .val (.int p1), .val (.long q2), .second] [(.long ((((p1.toInt64) * (1000000 : Int64)) * (9 : Int64)) / (10 : Int64))), (.ref a0)])) rfl rfl (hb hby d1_21)
  have Fw4 := Fo_length_5.same W4
  have f5 := (Sf_MILLISECONDS_0.wr W4)
  have f6 := (Ff_scale_1.other W4 (Or.inl (ne_exa Exa_3 Exa_4 (by decide))))
  have f7 := (Ff_maxNanos_2.other W4 (Or.inl (ne_exa Exa_3 Exa_4 (by decide))))
  have f8 := (Exa_3.wr W4)
  have f9 := (Exa_4.wr W4)
  have N4 := Fr.snoc X4 N3 g_a0
  have K4 : Keep h0 h4 [a0] := Keep.wr (Keep.refl h0 [a0]) W4 (Or.inl (List.mem_of_getElem? (i := 0) rfl))
  obtain ⟨_, _, ⟨T10, L10, k10, n10⟩, -, X10, ⟨Lc10, hQ10, l10, y10, z10⟩, st10⟩ := Jvm.LawKit.callS X4 hx (y := (⟨"java/lang/Math", "max", "(II)I"⟩ : MethodName)) hown (mvT hZ (hw _ (List.mem_of_getElem? (i := 24) rfl))) (mvT hZ (hw _ (List.mem_of_getElem? (i := 25) rfl))) (mvT hZ (hw _ (List.mem_of_getElem? (i := 26) rfl))) (mvT hZ (hw _ (List.mem_of_getElem? (i := 27) rfl))) (by decide) (backOf (W := 1) (rm4 l Z aw hw [] (1 : Int32) (p1 / (3 : Int32)) h4 n0 (Nat.le_trans Z0 (Keep.of_wr W4).1) ) hZ (hw _ (List.mem_of_getElem? (i := 27) rfl)) (hw _ (List.mem_of_getElem? (i := 26) rfl)) (by decide) (by decide)) (g := (mkF m 29 #[.val (.ref a0), .val (.int p1), .val (.long q2), .second] [(.int (p1 / (3 : Int32))), (.int (1 : Int32)), (.ref a0)])) rfl (by rw [hml]; rfl) (argsL := [(.int (1 : Int32)), (.int (p1 / (3 : Int32)))]) (rest := [(.ref a0)]) (lenOf pd_1 rfl) rfl (by show 2 * 0 + _ ≤ _; exact Nat.le_of_eq rfl) (hb hby d1_29) (fun _ _ => ⟨rfl, e4, (by decide : 0 + 0 ≤ _), (by decide : 0 + 0 ≤ _)⟩)
  dsimp only [Pt.U, Pt.locs, Pt.cells, Pt.slots] at X10 l10 y10 z10 st10 hQ10
  subst l10 y10 z10
  obtain ⟨⟨r11, rfl, Pr11⟩, Nq10, e10⟩ := hQ10
  have N10 := Fr.app N4 Nq10
  obtain ⟨T12, h12, X12, e12, W12, st12⟩ := putF X10 hx hZ hown (host := "") (Or.inl (hw _ (List.mem_of_getElem? (i := 28) rfl))) Via.refl e10 (Fo_heartbeatMs_7.other W4 (Or.inr (slot_ne (Or.inr (hw _ (List.mem_of_getElem? (i := 29) rfl))) (Or.inr (hw _ (List.mem_of_getElem? (i := 23) rfl))) (by decide) (t := .long) (t' := .long) (by decide) (by decide)))) f9 (Or.inr ⟨(hw _ (List.mem_of_getElem? (i := 29) rfl)), rfl, hnm⟩) (hw _ (List.mem_of_getElem? (i := 1) rfl)) (ty := .long) (by decide) rfl rfl (g := (mkF m 33 #[.val (.ref a0), .val (.int p1), .val (.long q2), .second] [(.long (r11.toInt64)), (.ref a0)])) rfl rfl (hb hby d1_33)
  have Fw12 := (Fo_heartbeatMs_7.other W4 (Or.inr (slot_ne (Or.inr (hw _ (List.mem_of_getElem? (i := 29) rfl))) (Or.inr (hw _ (List.mem_of_getElem? (i := 23) rfl))) (by decide) (t := .long) (t' := .long) (by decide) (by decide)))).same W12
  have f13 := (f5.wr W12)
  have f14 := (f6.other W12 (Or.inl (ne_exa f8 f9 (by decide))))
  have f15 := (f7.other W12 (Or.inl (ne_exa f8 f9 (by decide))))
  have f16 := (f8.wr W12)
  have f17 := (f9.wr W12)
  have f18 := (Fw4.other W12 (Or.inr (slot_ne (Or.inr (hw _ (List.mem_of_getElem? (i := 23) rfl))) (Or.inr (hw _ (List.mem_of_getElem? (i := 29) rfl))) (by decide) (t := .long) (t' := .long) (by decide) (by decide))))
  have N12 := Fr.snoc X12 N10 g_a0
  have K12 : Keep h0 h12 [a0] := Keep.wr K4 W12 (Or.inl (List.mem_of_getElem? (i := 0) rfl))
  obtain ⟨T19, h19, X19, e19, W19, st19⟩ := putF X12 hx hZ hown (host := "") (Or.inl (hw _ (List.mem_of_getElem? (i := 30) rfl))) Via.refl e12 ((Fo_end_8.other W4 (Or.inr (slot_ne (Or.inl (hw _ (List.mem_of_getElem? (i := 31) rfl))) (Or.inr (hw _ (List.mem_of_getElem? (i := 23) rfl))) (by decide) (t := .long) (t' := .long) (by decide) (by decide)))).other W12 (Or.inr (slot_ne (Or.inl (hw _ (List.mem_of_getElem? (i := 31) rfl))) (Or.inr (hw _ (List.mem_of_getElem? (i := 29) rfl))) (by decide) (t := .long) (t' := .long) (by decide) (by decide)))) f17 (Or.inl (hw _ (List.mem_of_getElem? (i := 31) rfl))) (hw _ (List.mem_of_getElem? (i := 1) rfl)) (ty := .long) (by decide) rfl rfl (g := (mkF m 38 #[.val (.ref a0), .val (.int p1), .val (.long q2), .second] [(.long q2), (.ref a0)])) rfl rfl (hb hby d1_38)
  have Fw19 := ((Fo_end_8.other W4 (Or.inr (slot_ne (Or.inl (hw _ (List.mem_of_getElem? (i := 31) rfl))) (Or.inr (hw _ (List.mem_of_getElem? (i := 23) rfl))) (by decide) (t := .long) (t' := .long) (by decide) (by decide)))).other W12 (Or.inr (slot_ne (Or.inl (hw _ (List.mem_of_getElem? (i := 31) rfl))) (Or.inr (hw _ (List.mem_of_getElem? (i := 29) rfl))) (by decide) (t := .long) (t' := .long) (by decide) (by decide)))).same W19
  have f20 := (f13.wr W19)
  have f21 := (f14.other W19 (Or.inl (ne_exa f16 f17 (by decide))))
  have f22 := (f15.other W19 (Or.inl (ne_exa f16 f17 (by decide))))
  have f23 := (f16.wr W19)
  have f24 := (f17.wr W19)
  have f25 := (f18.other W19 (Or.inr (slot_ne (Or.inr (hw _ (List.mem_of_getElem? (i := 23) rfl))) (Or.inl (hw _ (List.mem_of_getElem? (i := 31) rfl))) (by decide) (t := .long) (t' := .long) (by decide) (by decide))))
  have f26 := (Fw12.other W19 (Or.inr (slot_ne (Or.inr (hw _ (List.mem_of_getElem? (i := 29) rfl))) (Or.inl (hw _ (List.mem_of_getElem? (i := 31) rfl))) (by decide) (t := .long) (t' := .long) (by decide) (by decide))))
  have N19 := Fr.snoc X19 N12 g_a0
  have K19 : Keep h0 h19 [a0] := Keep.wr K12 W19 (Or.inl (List.mem_of_getElem? (i := 0) rfl))
  have pre27 : ∀ t, Steps p.tables e below (T19.setTop (mkF m 41 #[.val (.ref a0), .val (.int p1), .val (.long q2), .second] [])) t → Steps p.tables e below (s₁.setTop (entryFrame m #[(.ref a0), (.int p1), (.long q2)] 4)) t := fun t kt => pre0 t (by
      show Steps p.tables e below (s₁.setTop (mkF m 0 #[.val (.ref a0), .val (.int p1), .val (.long q2), .second] [])) _
      refine XS.aloadN X0.here hx rfl (hb hby d1_0) rfl rfl ?_
      show Steps p.tables e below (s₁.setTop (mkF m 1 #[.val (.ref a0), .val (.int p1), .val (.long q2), .second] [(.ref a0)])) _
      refine st1 _ ?_
      show Steps p.tables e below (T1.setTop (mkF m 4 #[.val (.ref a0), .val (.int p1), .val (.long q2), .second] [])) _
      refine XS.aloadN X1.here hx rfl (hb hby d1_4) rfl rfl ?_
      show Steps p.tables e below (T1.setTop (mkF m 5 #[.val (.ref a0), .val (.int p1), .val (.long q2), .second] [(.ref a0)])) _
      refine st2 _ ?_
      show Steps p.tables e below (T2.setTop (mkF m 8 #[.val (.ref a0), .val (.int p1), .val (.long q2), .second] [(.ref w_MILLISECONDS_0), (.ref a0)])) _
      refine XS.iloadN X2.here hx rfl (hb hby d1_8) rfl ?_
      show Steps p.tables e below (T2.setTop (mkF m 9 #[.val (.ref a0), .val (.int p1), .val (.long q2), .second] [(.int p1), (.ref w_MILLISECONDS_0), (.ref a0)])) _
      refine XS.i2l X2.here hx rfl (hb hby d1_9) rfl ?_
      show Steps p.tables e below (T2.setTop (mkF m 10 #[.val (.ref a0), .val (.int p1), .val (.long q2), .second] [(.long (p1.toInt64)), (.ref w_MILLISECONDS_0), (.ref a0)])) _
      refine st3.trans ?_
      show Steps p.tables e below (T3.setTop (mkF m 13 #[.val (.ref a0), .val (.int p1), .val (.long q2), .second] [(.long ((p1.toInt64) * (1000000 : Int64))), (.ref a0)])) _
      refine X3.ldc2Long hx hown (mvT hZ (hw _ (List.mem_of_getElem? (i := 20) rfl))) (g := (mkF m 13 #[.val (.ref a0), .val (.int p1), .val (.long q2), .second] [(.long ((p1.toInt64) * (1000000 : Int64))), (.ref a0)])) rfl (hb hby d1_13) _ ?_
      show Steps p.tables e below (T3.setTop (mkF m 16 #[.val (.ref a0), .val (.int p1), .val (.long q2), .second] [(.long (9 : Int64)), (.long ((p1.toInt64) * (1000000 : Int64))), (.ref a0)])) _
      refine XS.lmul X3.here hx rfl (hb hby d1_16) rfl ?_
      show Steps p.tables e below (T3.setTop (mkF m 17 #[.val (.ref a0), .val (.int p1), .val (.long q2), .second] [(.long (((p1.toInt64) * (1000000 : Int64)) * (9 : Int64))), (.ref a0)])) _
      refine X3.ldc2Long hx hown (mvT hZ (hw _ (List.mem_of_getElem? (i := 21) rfl))) (g := (mkF m 17 #[.val (.ref a0), .val (.int p1), .val (.long q2), .second] [(.long (((p1.toInt64) * (1000000 : Int64)) * (9 : Int64))), (.ref a0)])) rfl (hb hby d1_17) _ ?_
      show Steps p.tables e below (T3.setTop (mkF m 20 #[.val (.ref a0), .val (.int p1), .val (.long q2), .second] [(.long (10 : Int64)), (.long (((p1.toInt64) * (1000000 : Int64)) * (9 : Int64))), (.ref a0)])) _
      refine XS.ldiv X3.here hx rfl (hb hby d1_20) rfl (by decide) ?_
      show Steps p.tables e below (T3.setTop (mkF m 21 #[.val (.ref a0), .val (.int p1), .val (.long q2), .second] [(.long ((((p1.toInt64) * (1000000 : Int64)) * (9 : Int64)) / (10 : Int64))), (.ref a0)])) _
      refine st4 _ ?_
      show Steps p.tables e below (T4.setTop (mkF m 24 #[.val (.ref a0), .val (.int p1), .val (.long q2), .second] [])) _
      refine XS.aloadN X4.here hx rfl (hb hby d1_24) rfl rfl ?_
      show Steps p.tables e below (T4.setTop (mkF m 25 #[.val (.ref a0), .val (.int p1), .val (.long q2), .second] [(.ref a0)])) _
      refine XS.iconst X4.here hx rfl (hb hby d1_25) ?_
      show Steps p.tables e below (T4.setTop (mkF m 26 #[.val (.ref a0), .val (.int p1), .val (.long q2), .second] [(.int (1 : Int32)), (.ref a0)])) _
      refine XS.iloadN X4.here hx rfl (hb hby d1_26) rfl ?_
      show Steps p.tables e below (T4.setTop (mkF m 27 #[.val (.ref a0), .val (.int p1), .val (.long q2), .second] [(.int p1), (.int (1 : Int32)), (.ref a0)])) _
      refine XS.iconst X4.here hx rfl (hb hby d1_27) ?_
      show Steps p.tables e below (T4.setTop (mkF m 28 #[.val (.ref a0), .val (.int p1), .val (.long q2), .second] [(.int (3 : Int32)), (.int p1), (.int (1 : Int32)), (.ref a0)])) _
      refine XS.idiv X4.here hx rfl (hb hby d1_28) rfl (by decide) ?_
      show Steps p.tables e below (T4.setTop (mkF m 29 #[.val (.ref a0), .val (.int p1), .val (.long q2), .second] [(.int (p1 / (3 : Int32))), (.int (1 : Int32)), (.ref a0)])) _
      refine st10 _ ?_
      show Steps p.tables e below (T10.setTop (mkF m 32 #[.val (.ref a0), .val (.int p1), .val (.long q2), .second] [(.int r11), (.ref a0)])) _
      refine XS.i2l X10.here hx rfl (hb hby d1_32) rfl ?_
      show Steps p.tables e below (T10.setTop (mkF m 33 #[.val (.ref a0), .val (.int p1), .val (.long q2), .second] [(.long (r11.toInt64)), (.ref a0)])) _
      refine st12 _ ?_
      show Steps p.tables e below (T12.setTop (mkF m 36 #[.val (.ref a0), .val (.int p1), .val (.long q2), .second] [])) _
      refine XS.aloadN X12.here hx rfl (hb hby d1_36) rfl rfl ?_
      show Steps p.tables e below (T12.setTop (mkF m 37 #[.val (.ref a0), .val (.int p1), .val (.long q2), .second] [(.ref a0)])) _
      refine XS.lloadN X12.here hx rfl (hb hby d1_37) rfl ?_
      show Steps p.tables e below (T12.setTop (mkF m 38 #[.val (.ref a0), .val (.int p1), .val (.long q2), .second] [(.long q2), (.ref a0)])) _
      refine st19 _ ?_
      exact kt)
  obtain ⟨fs, hr, hrun, hended, hW, hsame⟩ := X19.leave (v := none) (fun _ => rfl)
  refine ⟨_, _, pre27 _ ?_, hrun, hended, _, _, rfl, ?_, ⟨_, rfl⟩, hW, hsame.mono (by decide) (by decide)⟩
  · show Steps p.tables e below (T19.setTop (mkF m 41 #[.val (.ref a0), .val (.int p1), .val (.long q2), .second] [])) _
    exact X19.returnOut hx Bd.returns (hb hby d1_41) hr
  · show Q1 Z _ _ _ _ _ _ _ h0 n0 _ T19.heap _
    rw [e19]
    exact ⟨rfl, N19, K19, f24, f25, Fw19⟩
theorem d5_0 : decode prog_8_method_2_code 0 = .ok (.aload_n 0, 1) := by decide +kernel
theorem d5_1 : decode prog_8_method_2_code 1 = .ok (.getfield 23, 3) := by decide +kernel
theorem d5_4 : decode prog_8_method_2_code 4 = .ok (.lreturn, 1) := by decide +kernel
theorem ef_5 (m : MethodId) (x0 : Addr)  : entryFrame m #[(.ref x0)] 1 = mkF m 0 #[.val (.ref x0)] [] := by first | (simp [entryFrame, mkF, argsToLocals, Value.category]; done) | rfl
def Q5 (Z : State) (a0 : Addr) (w_length_0 : Int64) (h0 : Heap) (n0 : Nat) (v : Option Value) (h : Heap) (L : List Loc) : Prop := v = some (.long w_length_0) ∧ Fr n0 L ∧ h = h0
set_option maxRecDepth 65536 in
set_option maxHeartbeats 40000000 in
theorem rm5 (l : Launch) (Z : State) (aw : Array Value) (hw : ∀ d ∈ tables_1, d.before aw Z = true) (ws : List Jvm.Cond) (a0 : Addr) (w_length_0 : Int64) (h0 : Heap) (n0 : Nat) (Z0 : n0 ≤ h0.size) (Ff_length_0 : Fld Z h0 a0 "com/example/cluster_log/clusterlog/Lease" "length" "J" (.long w_length_0)) :
    MetFree l (⟨"com/example/cluster_log/clusterlog/Lease", "length", "()J"⟩ : MethodName) (head1 (Jvm.Cond.code (⟨"com/example/cluster_log/clusterlog/Lease", "length", "()J"⟩ : MethodName) prog_8_method_2_code 1 (some .long) :: ws) ({ frames := 0, cells := 0, slots := 0, locals := 0 } : Room)) (fun a U => a = #[(.ref a0)] ∧ Z.Warmed39 U.vm ∧ U.heap = h0) (fun _ _ _ _ _ => True) (fun _ U o U' => ∃ v L, o = .returned v ∧ Q5 Z a0 w_length_0 h0 n0 v U'.heap L ∧ FrameEnd U o U' L ({ frames := 0, cells := 0, slots := 0, locals := 0 } : Room).cells ({ frames := 0, cells := 0, slots := 0, locals := 0 } : Room).slots) := by
  refine MetFree.of_bodySF (plainFor_of_name pn_1) hisR ?_
  intro p e s m args below meth c s₁ Bd hml0 hP hK
  obtain ⟨rfl, hZ, hh⟩ := hP
  have hx := Bd.exec
  have hby := Bd.bytes
  have hml : c.maxLocals = 1 := hml0
  have hown : s.vm.findClass "com/example/cluster_log/clusterlog/Lease" = some m.cls := findClass_of_methodNamed Bd.named
  have hnm := (name_of_methodNamed Bd.named Bd.method).1
  have X0 : Stand p l e ({ frames := 0, cells := 0, slots := 0, locals := 0 } : Room) s m #[(.ref a0)] below meth c s₁ [] 0 0 := Stand.of_body Bd
  have e0 : s₁.heap = h0 := by rw [← hh, Bd.state]; rfl
  have N0 := Fr.nil n0
  have pre0 : ∀ t, Steps p.tables e below (s₁.setTop (mkF m 0 #[.val (.ref a0)] [])) t → Steps p.tables e below (s₁.setTop (entryFrame m #[(.ref a0)] 1)) t := fun t k => castTop (ef_5 m a0 ) k
  obtain ⟨T1, X1, e1, st1⟩ := getF X0 hx hZ hown (host := "") (Or.inl (hw _ (List.mem_of_getElem? (i := 22) rfl))) Via.refl e0 Ff_length_0 (g := (mkF m 1 #[.val (.ref a0)] [(.ref a0)])) rfl rfl (hb hby d5_1)
  have pre2 : ∀ t, Steps p.tables e below (T1.setTop (mkF m 4 #[.val (.ref a0)] [(.long w_length_0)])) t → Steps p.tables e below (s₁.setTop (entryFrame m #[(.ref a0)] 1)) t := fun t kt => pre0 t (by
      show Steps p.tables e below (s₁.setTop (mkF m 0 #[.val (.ref a0)] [])) _
      refine XS.aloadN X0.here hx rfl (hb hby d5_0) rfl rfl ?_
      show Steps p.tables e below (s₁.setTop (mkF m 1 #[.val (.ref a0)] [(.ref a0)])) _
      refine st1 _ ?_
      exact kt)
  obtain ⟨fs, hr, hrun, hended, hW, hsame⟩ := X1.leave (v := some (.long w_length_0)) (fun h => by rw [Bd.returns] at h; cases h)
  refine ⟨_, _, pre2 _ ?_, hrun, hended, _, _, rfl, ?_, ⟨_, rfl⟩, hW, hsame.mono (by decide) (by decide)⟩
  · show Steps p.tables e below (T1.setTop (mkF m 4 #[.val (.ref a0)] [(.long w_length_0)])) _
    jvm_step X1.here [X1.here.top, hx, (hb hby d5_4), X1.method', Bd.returns, narrow]
    first | (intro acts; rw [hr _ acts rfl rfl rfl]) | rw [hr _ _ rfl rfl rfl]
    exact Steps.refl _
  · show Q5 Z _ _ h0 n0 _ T1.heap _
    rw [e1]
    exact ⟨rfl, N0, rfl⟩
theorem d8_0 : decode prog_8_method_5_code 0 = .ok (.aload_n 0, 1) := by decide +kernel
theorem d8_1 : decode prog_8_method_5_code 1 = .ok (.getfield 36, 3) := by decide +kernel
theorem d8_4 : decode prog_8_method_5_code 4 = .ok (.lload_n 1, 1) := by decide +kernel
theorem d8_5 : decode prog_8_method_5_code 5 = .ok (.lsub, 1) := by decide +kernel
theorem d8_6 : decode prog_8_method_5_code 6 = .ok (.lreturn, 1) := by decide +kernel
theorem ef_8 (m : MethodId) (x0 : Addr) (x1 : Int64)  : entryFrame m #[(.ref x0), (.long x1)] 3 = mkF m 0 #[.val (.ref x0), .val (.long x1), .second] [] := by first | (simp [entryFrame, mkF, argsToLocals, Value.category]; done) | rfl
def Q8 (Z : State) (a0 : Addr) (q1 : Int64) (w_end_0 : Int64) (h0 : Heap) (n0 : Nat) (v : Option Value) (h : Heap) (L : List Loc) : Prop := v = some (.long (w_end_0 - q1)) ∧ Fr n0 L ∧ h = h0
set_option maxRecDepth 65536 in
set_option maxHeartbeats 40000000 in
theorem rm8 (l : Launch) (Z : State) (aw : Array Value) (hw : ∀ d ∈ tables_1, d.before aw Z = true) (ws : List Jvm.Cond) (a0 : Addr) (q1 : Int64) (w_end_0 : Int64) (h0 : Heap) (n0 : Nat) (Z0 : n0 ≤ h0.size) (Ff_end_0 : Fld Z h0 a0 "com/example/cluster_log/clusterlog/Lease" "end" "J" (.long w_end_0)) :
    MetFree l (⟨"com/example/cluster_log/clusterlog/Lease", "left", "(J)J"⟩ : MethodName) (head1 (Jvm.Cond.code (⟨"com/example/cluster_log/clusterlog/Lease", "left", "(J)J"⟩ : MethodName) prog_8_method_5_code 3 (some .long) :: ws) ({ frames := 0, cells := 0, slots := 0, locals := 0 } : Room)) (fun a U => a = #[(.ref a0), (.long q1)] ∧ Z.Warmed39 U.vm ∧ U.heap = h0) (fun _ _ _ _ _ => True) (fun _ U o U' => ∃ v L, o = .returned v ∧ Q8 Z a0 q1 w_end_0 h0 n0 v U'.heap L ∧ FrameEnd U o U' L ({ frames := 0, cells := 0, slots := 0, locals := 0 } : Room).cells ({ frames := 0, cells := 0, slots := 0, locals := 0 } : Room).slots) := by
  refine MetFree.of_bodySF (plainFor_of_name pn_1) hisR ?_
  intro p e s m args below meth c s₁ Bd hml0 hP hK
  obtain ⟨rfl, hZ, hh⟩ := hP
  have hx := Bd.exec
  have hby := Bd.bytes
  have hml : c.maxLocals = 3 := hml0
  have hown : s.vm.findClass "com/example/cluster_log/clusterlog/Lease" = some m.cls := findClass_of_methodNamed Bd.named
  have hnm := (name_of_methodNamed Bd.named Bd.method).1
  have X0 : Stand p l e ({ frames := 0, cells := 0, slots := 0, locals := 0 } : Room) s m #[(.ref a0), (.long q1)] below meth c s₁ [] 0 0 := Stand.of_body Bd
  have e0 : s₁.heap = h0 := by rw [← hh, Bd.state]; rfl
  have N0 := Fr.nil n0
  have pre0 : ∀ t, Steps p.tables e below (s₁.setTop (mkF m 0 #[.val (.ref a0), .val (.long q1), .second] [])) t → Steps p.tables e below (s₁.setTop (entryFrame m #[(.ref a0), (.long q1)] 3)) t := fun t k => castTop (ef_8 m a0 q1 ) k
  obtain ⟨T1, X1, e1, st1⟩ := getF X0 hx hZ hown (host := "") (Or.inl (hw _ (List.mem_of_getElem? (i := 30) rfl))) Via.refl e0 Ff_end_0 (g := (mkF m 1 #[.val (.ref a0), .val (.long q1), .second] [(.ref a0)])) rfl rfl (hb hby d8_1)
  have pre2 : ∀ t, Steps p.tables e below (T1.setTop (mkF m 6 #[.val (.ref a0), .val (.long q1), .second] [(.long (w_end_0 - q1))])) t → Steps p.tables e below (s₁.setTop (entryFrame m #[(.ref a0), (.long q1)] 3)) t := fun t kt => pre0 t (by
      show Steps p.tables e below (s₁.setTop (mkF m 0 #[.val (.ref a0), .val (.long q1), .second] [])) _
      refine XS.aloadN X0.here hx rfl (hb hby d8_0) rfl rfl ?_
      show Steps p.tables e below (s₁.setTop (mkF m 1 #[.val (.ref a0), .val (.long q1), .second] [(.ref a0)])) _
      refine st1 _ ?_
      show Steps p.tables e below (T1.setTop (mkF m 4 #[.val (.ref a0), .val (.long q1), .second] [(.long w_end_0)])) _
      refine XS.lloadN X1.here hx rfl (hb hby d8_4) rfl ?_
      show Steps p.tables e below (T1.setTop (mkF m 5 #[.val (.ref a0), .val (.long q1), .second] [(.long q1), (.long w_end_0)])) _
      refine XS.lsub X1.here hx rfl (hb hby d8_5) rfl ?_
      exact kt)
  obtain ⟨fs, hr, hrun, hended, hW, hsame⟩ := X1.leave (v := some (.long (w_end_0 - q1))) (fun h => by rw [Bd.returns] at h; cases h)
  refine ⟨_, _, pre2 _ ?_, hrun, hended, _, _, rfl, ?_, ⟨_, rfl⟩, hW, hsame.mono (by decide) (by decide)⟩
  · show Steps p.tables e below (T1.setTop (mkF m 6 #[.val (.ref a0), .val (.long q1), .second] [(.long (w_end_0 - q1))])) _
    jvm_step X1.here [X1.here.top, hx, (hb hby d8_6), X1.method', Bd.returns, narrow]
    first | (intro acts; rw [hr _ acts rfl rfl rfl]) | rw [hr _ _ rfl rfl rfl]
    exact Steps.refl _
  · show Q8 Z _ _ _ h0 n0 _ T1.heap _
    rw [e1]
    exact ⟨rfl, N0, rfl⟩
theorem d6_0 : decode prog_8_method_4_code 0 = .ok (.lload_n 1, 1) := by decide +kernel
theorem d6_1 : decode prog_8_method_4_code 1 = .ok (.aload_n 0, 1) := by decide +kernel
theorem d6_2 : decode prog_8_method_4_code 2 = .ok (.getfield 23, 3) := by decide +kernel
theorem d6_5 : decode prog_8_method_4_code 5 = .ok (.ladd, 1) := by decide +kernel
theorem d6_6 : decode prog_8_method_4_code 6 = .ok (.lstore_n 3, 1) := by decide +kernel
theorem d6_7 : decode prog_8_method_4_code 7 = .ok (.lload_n 3, 1) := by decide +kernel
theorem d6_8 : decode prog_8_method_4_code 8 = .ok (.aload_n 0, 1) := by decide +kernel
theorem d6_9 : decode prog_8_method_4_code 9 = .ok (.getfield 36, 3) := by decide +kernel
theorem d6_12 : decode prog_8_method_4_code 12 = .ok (.lsub, 1) := by decide +kernel
theorem d6_13 : decode prog_8_method_4_code 13 = .ok (.lconst 0, 1) := by decide +kernel
theorem d6_14 : decode prog_8_method_4_code 14 = .ok (.lcmp, 1) := by decide +kernel
theorem d6_15 : decode prog_8_method_4_code 15 = .ok (.ifCond .gt 5, 3) := by decide +kernel
theorem d6_20 : decode prog_8_method_4_code 20 = .ok (.aload_n 0, 1) := by decide +kernel
theorem d6_21 : decode prog_8_method_4_code 21 = .ok (.lload_n 3, 1) := by decide +kernel
theorem d6_22 : decode prog_8_method_4_code 22 = .ok (.putfield 36, 3) := by decide +kernel
theorem d6_25 : decode prog_8_method_4_code 25 = .ok (.iconst 1, 1) := by decide +kernel
theorem d6_26 : decode prog_8_method_4_code 26 = .ok (.ireturn, 1) := by decide +kernel
theorem ef_Y (m : MethodId) (x0 : Addr) (x1 : Int64)  : entryFrame m #[(.ref x0), (.long x1)] 5 = mkF m 0 #[.val (.ref x0), .val (.long x1), .second, .unset, .unset] [] := by first | (simp [entryFrame, mkF, argsToLocals, Value.category]; done) | rfl
def QY (Z : State) (a0 : Addr) (q1 : Int64) (ln : Int64) (en : Int64) (h0 : Heap) (n0 : Nat) (v : Option Value) (h : Heap) (L : List Loc) : Prop := v = some (.int (1 : Int32)) ∧ Fr n0 L ∧ (Keep h0 h [a0]) ∧ (Exa Z h a0 "com/example/cluster_log/clusterlog/Lease") ∧ (Fld Z h a0 "com/example/cluster_log/clusterlog/Lease" "length" "J" (.long ln)) ∧ (Fld Z h a0 "com/example/cluster_log/clusterlog/Lease" "end" "J" (.long (q1 + ln)))
set_option maxRecDepth 65536 in
set_option maxHeartbeats 40000000 in
theorem rmY (l : Launch) (Z : State) (aw : Array Value) (hw : ∀ d ∈ tables_1, d.before aw Z = true) (ws : List Jvm.Cond) (a0 : Addr) (q1 : Int64) (ln : Int64) (en : Int64) (h0 : Heap) (n0 : Nat) (Z0 : n0 ≤ h0.size) (hy : (0 : Int64) < ((q1 + ln) - en)) (Ff_length_1 : Fld Z h0 a0 "com/example/cluster_log/clusterlog/Lease" "length" "J" (.long ln)) (Ff_end_2 : Fld Z h0 a0 "com/example/cluster_log/clusterlog/Lease" "end" "J" (.long en)) (Exa_3 : Exa Z h0 a0 "com/example/cluster_log/clusterlog/Lease") (g_a0 : n0 ≤ a0) :
    MetFree l (⟨"com/example/cluster_log/clusterlog/Lease", "renew", "(J)Z"⟩ : MethodName) (head1 (Jvm.Cond.code (⟨"com/example/cluster_log/clusterlog/Lease", "renew", "(J)Z"⟩ : MethodName) prog_8_method_4_code 5 (some .boolean) :: ws) ({ frames := 0, cells := 0, slots := 0, locals := 0 } : Room)) (fun a U => a = #[(.ref a0), (.long q1)] ∧ Z.Warmed39 U.vm ∧ U.heap = h0) (fun _ _ _ _ _ => True) (fun _ U o U' => ∃ v L, o = .returned v ∧ QY Z a0 q1 ln en h0 n0 v U'.heap L ∧ FrameEnd U o U' L ({ frames := 0, cells := 0, slots := 0, locals := 0 } : Room).cells ({ frames := 0, cells := 0, slots := 0, locals := 0 } : Room).slots) := by
  refine MetFree.of_bodySF (plainFor_of_name pn_1) hisR ?_
  intro p e s m args below meth c s₁ Bd hml0 hP hK
  obtain ⟨rfl, hZ, hh⟩ := hP
  have hx := Bd.exec
  have hby := Bd.bytes
  have hml : c.maxLocals = 5 := hml0
  have hown : s.vm.findClass "com/example/cluster_log/clusterlog/Lease" = some m.cls := findClass_of_methodNamed Bd.named
  have hnm := (name_of_methodNamed Bd.named Bd.method).1
  have X0 : Stand p l e ({ frames := 0, cells := 0, slots := 0, locals := 0 } : Room) s m #[(.ref a0), (.long q1)] below meth c s₁ [] 0 0 := Stand.of_body Bd
  have e0 : s₁.heap = h0 := by rw [← hh, Bd.state]; rfl
  have N0 := Fr.nil n0
  have pre0 : ∀ t, Steps p.tables e below (s₁.setTop (mkF m 0 #[.val (.ref a0), .val (.long q1), .second, .unset, .unset] [])) t → Steps p.tables e below (s₁.setTop (entryFrame m #[(.ref a0), (.long q1)] 5)) t := fun t k => castTop (ef_Y m a0 q1 ) k
  obtain ⟨T1, X1, e1, st1⟩ := getF X0 hx hZ hown (host := "") (Or.inl (hw _ (List.mem_of_getElem? (i := 22) rfl))) Via.refl e0 Ff_length_1 (g := (mkF m 2 #[.val (.ref a0), .val (.long q1), .second, .unset, .unset] [(.ref a0), (.long q1)])) rfl rfl (hb hby d6_2)
  obtain ⟨T2, X2, e2, st2⟩ := getF X1 hx hZ hown (host := "") (Or.inl (hw _ (List.mem_of_getElem? (i := 30) rfl))) Via.refl e1 Ff_end_2 (g := (mkF m 9 #[.val (.ref a0), .val (.long q1), .second, .val (.long (q1 + ln)), .second] [(.ref a0), (.long (q1 + ln))])) rfl rfl (hb hby d6_9)
  obtain ⟨T3, h3, X3, e3, W3, st3⟩ := putF X2 hx hZ hown (host := "") (Or.inl (hw _ (List.mem_of_getElem? (i := 30) rfl))) Via.refl e2 Ff_end_2 Exa_3 (Or.inl (hw _ (List.mem_of_getElem? (i := 31) rfl))) (hw _ (List.mem_of_getElem? (i := 1) rfl)) (ty := .long) (by decide) rfl rfl (g := (mkF m 22 #[.val (.ref a0), .val (.long q1), .second, .val (.long (q1 + ln)), .second] [(.long (q1 + ln)), (.ref a0)])) rfl rfl (hb hby d6_22)
  have Fw3 := Ff_end_2.same W3
  have f4 := (Ff_length_1.other W3 (Or.inr (slot_ne (Or.inr (hw _ (List.mem_of_getElem? (i := 23) rfl))) (Or.inl (hw _ (List.mem_of_getElem? (i := 31) rfl))) (by decide) (t := .long) (t' := .long) (by decide) (by decide))))
  have f5 := (Exa_3.wr W3)
  have N3 := Fr.snoc X3 N0 g_a0
  have K3 : Keep h0 h3 [a0] := Keep.wr (Keep.refl h0 [a0]) W3 (Or.inl (List.mem_of_getElem? (i := 0) rfl))
  have pre6 : ∀ t, Steps p.tables e below (T3.setTop (mkF m 26 #[.val (.ref a0), .val (.long q1), .second, .val (.long (q1 + ln)), .second] [(.int (1 : Int32))])) t → Steps p.tables e below (s₁.setTop (entryFrame m #[(.ref a0), (.long q1)] 5)) t := fun t kt => pre0 t (by
      show Steps p.tables e below (s₁.setTop (mkF m 0 #[.val (.ref a0), .val (.long q1), .second, .unset, .unset] [])) _
      refine XS.lloadN X0.here hx rfl (hb hby d6_0) rfl ?_
      show Steps p.tables e below (s₁.setTop (mkF m 1 #[.val (.ref a0), .val (.long q1), .second, .unset, .unset] [(.long q1)])) _
      refine XS.aloadN X0.here hx rfl (hb hby d6_1) rfl rfl ?_
      show Steps p.tables e below (s₁.setTop (mkF m 2 #[.val (.ref a0), .val (.long q1), .second, .unset, .unset] [(.ref a0), (.long q1)])) _
      refine st1 _ ?_
      show Steps p.tables e below (T1.setTop (mkF m 5 #[.val (.ref a0), .val (.long q1), .second, .unset, .unset] [(.long ln), (.long q1)])) _
      refine XS.ladd X1.here hx rfl (hb hby d6_5) rfl ?_
      show Steps p.tables e below (T1.setTop (mkF m 6 #[.val (.ref a0), .val (.long q1), .second, .unset, .unset] [(.long (q1 + ln))])) _
      refine XS.lstoreN X1.here hx rfl (hb hby d6_6) rfl (l' := #[.val (.ref a0), .val (.long q1), .second, .val (.long (q1 + ln)), .second]) rfl ?_
      show Steps p.tables e below (T1.setTop (mkF m 7 #[.val (.ref a0), .val (.long q1), .second, .val (.long (q1 + ln)), .second] [])) _
      refine XS.lloadN X1.here hx rfl (hb hby d6_7) rfl ?_
      show Steps p.tables e below (T1.setTop (mkF m 8 #[.val (.ref a0), .val (.long q1), .second, .val (.long (q1 + ln)), .second] [(.long (q1 + ln))])) _
      refine XS.aloadN X1.here hx rfl (hb hby d6_8) rfl rfl ?_
      show Steps p.tables e below (T1.setTop (mkF m 9 #[.val (.ref a0), .val (.long q1), .second, .val (.long (q1 + ln)), .second] [(.ref a0), (.long (q1 + ln))])) _
      refine st2 _ ?_
      show Steps p.tables e below (T2.setTop (mkF m 12 #[.val (.ref a0), .val (.long q1), .second, .val (.long (q1 + ln)), .second] [(.long en), (.long (q1 + ln))])) _
      refine XS.lsub X2.here hx rfl (hb hby d6_12) rfl ?_
      show Steps p.tables e below (T2.setTop (mkF m 13 #[.val (.ref a0), .val (.long q1), .second, .val (.long (q1 + ln)), .second] [(.long ((q1 + ln) - en))])) _
      refine XS.lconst X2.here hx rfl (hb hby d6_13) ?_
      show Steps p.tables e below (T2.setTop (mkF m 14 #[.val (.ref a0), .val (.long q1), .second, .val (.long (q1 + ln)), .second] [(.long (0 : Int64)), (.long ((q1 + ln) - en))])) _
      refine XS.lcmp X2.here hx rfl (hb hby d6_14) rfl ?_
      show Steps p.tables e below (T2.setTop (mkF m 15 #[.val (.ref a0), .val (.long q1), .second, .val (.long (q1 + ln)), .second] [(.int (lcmpW ((q1 + ln) - en) (0 : Int64)))])) _
      refine XS.ifYes X2.here hx rfl (pc0 := 15) (pc' := 20) rfl (hb hby d6_15) rfl ((if0 _ _).trans (tlt ((lw_gt _ _).mpr hy)).2.2.1) (by decide) (by decide) ?_
      show Steps p.tables e below (T2.setTop (mkF m 20 #[.val (.ref a0), .val (.long q1), .second, .val (.long (q1 + ln)), .second] [])) _
      refine XS.aloadN X2.here hx rfl (hb hby d6_20) rfl rfl ?_
      show Steps p.tables e below (T2.setTop (mkF m 21 #[.val (.ref a0), .val (.long q1), .second, .val (.long (q1 + ln)), .second] [(.ref a0)])) _
      refine XS.lloadN X2.here hx rfl (hb hby d6_21) rfl ?_
      show Steps p.tables e below (T2.setTop (mkF m 22 #[.val (.ref a0), .val (.long q1), .second, .val (.long (q1 + ln)), .second] [(.long (q1 + ln)), (.ref a0)])) _
      refine st3 _ ?_
      show Steps p.tables e below (T3.setTop (mkF m 25 #[.val (.ref a0), .val (.long q1), .second, .val (.long (q1 + ln)), .second] [])) _
      refine XS.iconst X3.here hx rfl (hb hby d6_25) ?_
      exact kt)
  obtain ⟨fs, hr, hrun, hended, hW, hsame⟩ := X3.leave (v := some (.int (1 : Int32))) (fun h => by rw [Bd.returns] at h; cases h)
  refine ⟨_, _, pre6 _ ?_, hrun, hended, _, _, rfl, ?_, ⟨_, rfl⟩, hW, hsame.mono (by decide) (by decide)⟩
  · show Steps p.tables e below (T3.setTop (mkF m 26 #[.val (.ref a0), .val (.long q1), .second, .val (.long (q1 + ln)), .second] [(.int (1 : Int32))])) _
    exact retN X3 hx (t := .boolean) Bd.returns (by simp) (hb hby d6_26) hr
  · show QY Z _ _ _ _ h0 n0 _ T3.heap _
    rw [e3]
    exact ⟨rfl, N3, K3, f5, f4, Fw3⟩
theorem d6_18 : decode prog_8_method_4_code 18 = .ok (.iconst 0, 1) := by decide +kernel
theorem d6_19 : decode prog_8_method_4_code 19 = .ok (.ireturn, 1) := by decide +kernel
theorem ef_N (m : MethodId) (x0 : Addr) (x1 : Int64)  : entryFrame m #[(.ref x0), (.long x1)] 5 = mkF m 0 #[.val (.ref x0), .val (.long x1), .second, .unset, .unset] [] := by first | (simp [entryFrame, mkF, argsToLocals, Value.category]; done) | rfl
def QN (Z : State) (a0 : Addr) (q1 : Int64) (ln : Int64) (en : Int64) (h0 : Heap) (n0 : Nat) (v : Option Value) (h : Heap) (L : List Loc) : Prop := v = some (.int (0 : Int32)) ∧ Fr n0 L ∧ h = h0
set_option maxRecDepth 65536 in
set_option maxHeartbeats 40000000 in
theorem rmN (l : Launch) (Z : State) (aw : Array Value) (hw : ∀ d ∈ tables_1, d.before aw Z = true) (ws : List Jvm.Cond) (a0 : Addr) (q1 : Int64) (ln : Int64) (en : Int64) (h0 : Heap) (n0 : Nat) (Z0 : n0 ≤ h0.size) (hn : ¬ (0 : Int64) < ((q1 + ln) - en)) (Ff_length_1 : Fld Z h0 a0 "com/example/cluster_log/clusterlog/Lease" "length" "J" (.long ln)) (Ff_end_2 : Fld Z h0 a0 "com/example/cluster_log/clusterlog/Lease" "end" "J" (.long en)) :
    MetFree l (⟨"com/example/cluster_log/clusterlog/Lease", "renew", "(J)Z"⟩ : MethodName) (head1 (Jvm.Cond.code (⟨"com/example/cluster_log/clusterlog/Lease", "renew", "(J)Z"⟩ : MethodName) prog_8_method_4_code 5 (some .boolean) :: ws) ({ frames := 0, cells := 0, slots := 0, locals := 0 } : Room)) (fun a U => a = #[(.ref a0), (.long q1)] ∧ Z.Warmed39 U.vm ∧ U.heap = h0) (fun _ _ _ _ _ => True) (fun _ U o U' => ∃ v L, o = .returned v ∧ QN Z a0 q1 ln en h0 n0 v U'.heap L ∧ FrameEnd U o U' L ({ frames := 0, cells := 0, slots := 0, locals := 0 } : Room).cells ({ frames := 0, cells := 0, slots := 0, locals := 0 } : Room).slots) := by
  refine MetFree.of_bodySF (plainFor_of_name pn_1) hisR ?_
  intro p e s m args below meth c s₁ Bd hml0 hP hK
  obtain ⟨rfl, hZ, hh⟩ := hP
  have hx := Bd.exec
  have hby := Bd.bytes
  have hml : c.maxLocals = 5 := hml0
  have hown : s.vm.findClass "com/example/cluster_log/clusterlog/Lease" = some m.cls := findClass_of_methodNamed Bd.named
  have hnm := (name_of_methodNamed Bd.named Bd.method).1
  have X0 : Stand p l e ({ frames := 0, cells := 0, slots := 0, locals := 0 } : Room) s m #[(.ref a0), (.long q1)] below meth c s₁ [] 0 0 := Stand.of_body Bd
  have e0 : s₁.heap = h0 := by rw [← hh, Bd.state]; rfl
  have N0 := Fr.nil n0
  have pre0 : ∀ t, Steps p.tables e below (s₁.setTop (mkF m 0 #[.val (.ref a0), .val (.long q1), .second, .unset, .unset] [])) t → Steps p.tables e below (s₁.setTop (entryFrame m #[(.ref a0), (.long q1)] 5)) t := fun t k => castTop (ef_N m a0 q1 ) k
  obtain ⟨T1, X1, e1, st1⟩ := getF X0 hx hZ hown (host := "") (Or.inl (hw _ (List.mem_of_getElem? (i := 22) rfl))) Via.refl e0 Ff_length_1 (g := (mkF m 2 #[.val (.ref a0), .val (.long q1), .second, .unset, .unset] [(.ref a0), (.long q1)])) rfl rfl (hb hby d6_2)
  obtain ⟨T2, X2, e2, st2⟩ := getF X1 hx hZ hown (host := "") (Or.inl (hw _ (List.mem_of_getElem? (i := 30) rfl))) Via.refl e1 Ff_end_2 (g := (mkF m 9 #[.val (.ref a0), .val (.long q1), .second, .val (.long (q1 + ln)), .second] [(.ref a0), (.long (q1 + ln))])) rfl rfl (hb hby d6_9)
  have pre3 : ∀ t, Steps p.tables e below (T2.setTop (mkF m 19 #[.val (.ref a0), .val (.long q1), .second, .val (.long (q1 + ln)), .second] [(.int (0 : Int32))])) t → Steps p.tables e below (s₁.setTop (entryFrame m #[(.ref a0), (.long q1)] 5)) t := fun t kt => pre0 t (by
      show Steps p.tables e below (s₁.setTop (mkF m 0 #[.val (.ref a0), .val (.long q1), .second, .unset, .unset] [])) _
      refine XS.lloadN X0.here hx rfl (hb hby d6_0) rfl ?_
      show Steps p.tables e below (s₁.setTop (mkF m 1 #[.val (.ref a0), .val (.long q1), .second, .unset, .unset] [(.long q1)])) _
      refine XS.aloadN X0.here hx rfl (hb hby d6_1) rfl rfl ?_
      show Steps p.tables e below (s₁.setTop (mkF m 2 #[.val (.ref a0), .val (.long q1), .second, .unset, .unset] [(.ref a0), (.long q1)])) _
      refine st1 _ ?_
      show Steps p.tables e below (T1.setTop (mkF m 5 #[.val (.ref a0), .val (.long q1), .second, .unset, .unset] [(.long ln), (.long q1)])) _
      refine XS.ladd X1.here hx rfl (hb hby d6_5) rfl ?_
      show Steps p.tables e below (T1.setTop (mkF m 6 #[.val (.ref a0), .val (.long q1), .second, .unset, .unset] [(.long (q1 + ln))])) _
      refine XS.lstoreN X1.here hx rfl (hb hby d6_6) rfl (l' := #[.val (.ref a0), .val (.long q1), .second, .val (.long (q1 + ln)), .second]) rfl ?_
      show Steps p.tables e below (T1.setTop (mkF m 7 #[.val (.ref a0), .val (.long q1), .second, .val (.long (q1 + ln)), .second] [])) _
      refine XS.lloadN X1.here hx rfl (hb hby d6_7) rfl ?_
      show Steps p.tables e below (T1.setTop (mkF m 8 #[.val (.ref a0), .val (.long q1), .second, .val (.long (q1 + ln)), .second] [(.long (q1 + ln))])) _
      refine XS.aloadN X1.here hx rfl (hb hby d6_8) rfl rfl ?_
      show Steps p.tables e below (T1.setTop (mkF m 9 #[.val (.ref a0), .val (.long q1), .second, .val (.long (q1 + ln)), .second] [(.ref a0), (.long (q1 + ln))])) _
      refine st2 _ ?_
      show Steps p.tables e below (T2.setTop (mkF m 12 #[.val (.ref a0), .val (.long q1), .second, .val (.long (q1 + ln)), .second] [(.long en), (.long (q1 + ln))])) _
      refine XS.lsub X2.here hx rfl (hb hby d6_12) rfl ?_
      show Steps p.tables e below (T2.setTop (mkF m 13 #[.val (.ref a0), .val (.long q1), .second, .val (.long (q1 + ln)), .second] [(.long ((q1 + ln) - en))])) _
      refine XS.lconst X2.here hx rfl (hb hby d6_13) ?_
      show Steps p.tables e below (T2.setTop (mkF m 14 #[.val (.ref a0), .val (.long q1), .second, .val (.long (q1 + ln)), .second] [(.long (0 : Int64)), (.long ((q1 + ln) - en))])) _
      refine XS.lcmp X2.here hx rfl (hb hby d6_14) rfl ?_
      show Steps p.tables e below (T2.setTop (mkF m 15 #[.val (.ref a0), .val (.long q1), .second, .val (.long (q1 + ln)), .second] [(.int (lcmpW ((q1 + ln) - en) (0 : Int64)))])) _
      refine XS.ifNo X2.here hx rfl (hb hby d6_15) rfl ((if0 _ _).trans (flt (fun z => hn ((lw_gt _ _).mp z))).2.2.1) ?_
      show Steps p.tables e below (T2.setTop (mkF m 18 #[.val (.ref a0), .val (.long q1), .second, .val (.long (q1 + ln)), .second] [])) _
      refine XS.iconst X2.here hx rfl (hb hby d6_18) ?_
      exact kt)
  obtain ⟨fs, hr, hrun, hended, hW, hsame⟩ := X2.leave (v := some (.int (0 : Int32))) (fun h => by rw [Bd.returns] at h; cases h)
  refine ⟨_, _, pre3 _ ?_, hrun, hended, _, _, rfl, ?_, ⟨_, rfl⟩, hW, hsame.mono (by decide) (by decide)⟩
  · show Steps p.tables e below (T2.setTop (mkF m 19 #[.val (.ref a0), .val (.long q1), .second, .val (.long (q1 + ln)), .second] [(.int (0 : Int32))])) _
    exact retN X2 hx (t := .boolean) Bd.returns (by simp) (hb hby d6_19) hr
  · show QN Z _ _ _ _ h0 n0 _ T2.heap _
    rw [e2]
    exact ⟨rfl, N0, rfl⟩
theorem d7_0 : decode prog_8_method_6_code 0 = .ok (.aload_n 0, 1) := by decide +kernel
theorem d7_1 : decode prog_8_method_6_code 1 = .ok (.getfield 36, 3) := by decide +kernel
theorem d7_4 : decode prog_8_method_6_code 4 = .ok (.aload_n 0, 1) := by decide +kernel
theorem d7_5 : decode prog_8_method_6_code 5 = .ok (.getfield 23, 3) := by decide +kernel
theorem d7_8 : decode prog_8_method_6_code 8 = .ok (.lsub, 1) := by decide +kernel
theorem d7_9 : decode prog_8_method_6_code 9 = .ok (.lload_n 1, 1) := by decide +kernel
theorem d7_10 : decode prog_8_method_6_code 10 = .ok (.lsub, 1) := by decide +kernel
theorem d7_11 : decode prog_8_method_6_code 11 = .ok (.lconst 0, 1) := by decide +kernel
theorem d7_12 : decode prog_8_method_6_code 12 = .ok (.lcmp, 1) := by decide +kernel
theorem d7_13 : decode prog_8_method_6_code 13 = .ok (.ifCond .le 7, 3) := by decide +kernel
theorem d7_16 : decode prog_8_method_6_code 16 = .ok (.iconst 1, 1) := by decide +kernel
theorem d7_17 : decode prog_8_method_6_code 17 = .ok (.goto 4, 3) := by decide +kernel
theorem d7_20 : decode prog_8_method_6_code 20 = .ok (.iconst 0, 1) := by decide +kernel
theorem d7_21 : decode prog_8_method_6_code 21 = .ok (.ireturn, 1) := by decide +kernel
theorem ef_7 (m : MethodId) (x0 : Addr) (x1 : Int64)  : entryFrame m #[(.ref x0), (.long x1)] 3 = mkF m 0 #[.val (.ref x0), .val (.long x1), .second] [] := by first | (simp [entryFrame, mkF, argsToLocals, Value.category]; done) | rfl
def Q7 (Z : State) (a0 : Addr) (q1 : Int64) (ln : Int64) (en : Int64) (h0 : Heap) (n0 : Nat) (v : Option Value) (h : Heap) (L : List Loc) : Prop := (∃ r : Int32, v = some (.int r) ∧ (((0 : Int64) < ((en - ln) - q1) → (1 : Int32) = r) ∧ (¬ (0 : Int64) < ((en - ln) - q1) → (0 : Int32) = r))) ∧ Fr n0 L ∧ h = h0
set_option maxRecDepth 65536 in
set_option maxHeartbeats 40000000 in
theorem rm7 (l : Launch) (Z : State) (aw : Array Value) (hw : ∀ d ∈ tables_1, d.before aw Z = true) (ws : List Jvm.Cond) (a0 : Addr) (q1 : Int64) (ln : Int64) (en : Int64) (h0 : Heap) (n0 : Nat) (Z0 : n0 ≤ h0.size) (Ff_end_0 : Fld Z h0 a0 "com/example/cluster_log/clusterlog/Lease" "end" "J" (.long en)) (Ff_length_1 : Fld Z h0 a0 "com/example/cluster_log/clusterlog/Lease" "length" "J" (.long ln)) :
    MetFree l (⟨"com/example/cluster_log/clusterlog/Lease", "answeredSince", "(J)Z"⟩ : MethodName) (head1 (Jvm.Cond.code (⟨"com/example/cluster_log/clusterlog/Lease", "answeredSince", "(J)Z"⟩ : MethodName) prog_8_method_6_code 3 (some .boolean) :: ws) ({ frames := 0, cells := 0, slots := 0, locals := 0 } : Room)) (fun a U => a = #[(.ref a0), (.long q1)] ∧ Z.Warmed39 U.vm ∧ U.heap = h0) (fun _ _ _ _ _ => True) (fun _ U o U' => ∃ v L, o = .returned v ∧ Q7 Z a0 q1 ln en h0 n0 v U'.heap L ∧ FrameEnd U o U' L ({ frames := 0, cells := 0, slots := 0, locals := 0 } : Room).cells ({ frames := 0, cells := 0, slots := 0, locals := 0 } : Room).slots) := by
  refine MetFree.of_bodySF (plainFor_of_name pn_1) hisR ?_
  intro p e s m args below meth c s₁ Bd hml0 hP hK
  obtain ⟨rfl, hZ, hh⟩ := hP
  have hx := Bd.exec
  have hby := Bd.bytes
  have hml : c.maxLocals = 3 := hml0
  have hown : s.vm.findClass "com/example/cluster_log/clusterlog/Lease" = some m.cls := findClass_of_methodNamed Bd.named
  have hnm := (name_of_methodNamed Bd.named Bd.method).1
  have X0 : Stand p l e ({ frames := 0, cells := 0, slots := 0, locals := 0 } : Room) s m #[(.ref a0), (.long q1)] below meth c s₁ [] 0 0 := Stand.of_body Bd
  have e0 : s₁.heap = h0 := by rw [← hh, Bd.state]; rfl
  have N0 := Fr.nil n0
  have pre0 : ∀ t, Steps p.tables e below (s₁.setTop (mkF m 0 #[.val (.ref a0), .val (.long q1), .second] [])) t → Steps p.tables e below (s₁.setTop (entryFrame m #[(.ref a0), (.long q1)] 3)) t := fun t k => castTop (ef_7 m a0 q1 ) k
  obtain ⟨T1, X1, e1, st1⟩ := getF X0 hx hZ hown (host := "") (Or.inl (hw _ (List.mem_of_getElem? (i := 30) rfl))) Via.refl e0 Ff_end_0 (g := (mkF m 1 #[.val (.ref a0), .val (.long q1), .second] [(.ref a0)])) rfl rfl (hb hby d7_1)
  obtain ⟨T2, X2, e2, st2⟩ := getF X1 hx hZ hown (host := "") (Or.inl (hw _ (List.mem_of_getElem? (i := 22) rfl))) Via.refl e1 Ff_length_1 (g := (mkF m 5 #[.val (.ref a0), .val (.long q1), .second] [(.ref a0), (.long en)])) rfl rfl (hb hby d7_5)
  have pre3 : ∀ t, Steps p.tables e below (T2.setTop (mkF m 13 #[.val (.ref a0), .val (.long q1), .second] [(.int (lcmpW ((en - ln) - q1) (0 : Int64)))])) t → Steps p.tables e below (s₁.setTop (entryFrame m #[(.ref a0), (.long q1)] 3)) t := fun t kt => pre0 t (by
      show Steps p.tables e below (s₁.setTop (mkF m 0 #[.val (.ref a0), .val (.long q1), .second] [])) _
      refine XS.aloadN X0.here hx rfl (hb hby d7_0) rfl rfl ?_
      show Steps p.tables e below (s₁.setTop (mkF m 1 #[.val (.ref a0), .val (.long q1), .second] [(.ref a0)])) _
      refine st1 _ ?_
      show Steps p.tables e below (T1.setTop (mkF m 4 #[.val (.ref a0), .val (.long q1), .second] [(.long en)])) _
      refine XS.aloadN X1.here hx rfl (hb hby d7_4) rfl rfl ?_
      show Steps p.tables e below (T1.setTop (mkF m 5 #[.val (.ref a0), .val (.long q1), .second] [(.ref a0), (.long en)])) _
      refine st2 _ ?_
      show Steps p.tables e below (T2.setTop (mkF m 8 #[.val (.ref a0), .val (.long q1), .second] [(.long ln), (.long en)])) _
      refine XS.lsub X2.here hx rfl (hb hby d7_8) rfl ?_
      show Steps p.tables e below (T2.setTop (mkF m 9 #[.val (.ref a0), .val (.long q1), .second] [(.long (en - ln))])) _
      refine XS.lloadN X2.here hx rfl (hb hby d7_9) rfl ?_
      show Steps p.tables e below (T2.setTop (mkF m 10 #[.val (.ref a0), .val (.long q1), .second] [(.long q1), (.long (en - ln))])) _
      refine XS.lsub X2.here hx rfl (hb hby d7_10) rfl ?_
      show Steps p.tables e below (T2.setTop (mkF m 11 #[.val (.ref a0), .val (.long q1), .second] [(.long ((en - ln) - q1))])) _
      refine XS.lconst X2.here hx rfl (hb hby d7_11) ?_
      show Steps p.tables e below (T2.setTop (mkF m 12 #[.val (.ref a0), .val (.long q1), .second] [(.long (0 : Int64)), (.long ((en - ln) - q1))])) _
      refine XS.lcmp X2.here hx rfl (hb hby d7_12) rfl ?_
      exact kt)
  by_cases hc4 : (0 : Int32) < (lcmpW ((en - ln) - q1) (0 : Int64))
  · skip
    have pre5 : ∀ t, Steps p.tables e below (T2.setTop (mkF m 21 #[.val (.ref a0), .val (.long q1), .second] [(.int (1 : Int32))])) t → Steps p.tables e below (s₁.setTop (entryFrame m #[(.ref a0), (.long q1)] 3)) t := fun t kt => pre3 t (by
        show Steps p.tables e below (T2.setTop (mkF m 13 #[.val (.ref a0), .val (.long q1), .second] [(.int (lcmpW ((en - ln) - q1) (0 : Int64)))])) _
        refine XS.ifNo X2.here hx rfl (hb hby d7_13) rfl ((if0 _ _).trans (tlt hc4).2.2.2) ?_
        show Steps p.tables e below (T2.setTop (mkF m 16 #[.val (.ref a0), .val (.long q1), .second] [])) _
        refine XS.iconst X2.here hx rfl (hb hby d7_16) ?_
        show Steps p.tables e below (T2.setTop (mkF m 17 #[.val (.ref a0), .val (.long q1), .second] [(.int (1 : Int32))])) _
        refine XS.goto X2.here hx rfl (pc0 := 17) (pc' := 21) rfl (hb hby d7_17) (by decide) (by decide) ?_
        exact kt)
    obtain ⟨fs, hr, hrun, hended, hW, hsame⟩ := X2.leave (v := some (.int (1 : Int32))) (fun h => by rw [Bd.returns] at h; cases h)
    refine ⟨_, _, pre5 _ ?_, hrun, hended, _, _, rfl, ?_, ⟨_, rfl⟩, hW, hsame.mono (by decide) (by decide)⟩
    · show Steps p.tables e below (T2.setTop (mkF m 21 #[.val (.ref a0), .val (.long q1), .second] [(.int (1 : Int32))])) _
      exact retN X2 hx (t := .boolean) Bd.returns (by simp) (hb hby d7_21) hr
    · show Q7 Z _ _ _ _ h0 n0 _ T2.heap _
      rw [e2]
      exact ⟨⟨_, rfl, ⟨fun _ => rfl, fun z => absurd ((lw_gt _ _).mp hc4) z⟩⟩, N0, rfl⟩
  · skip
    have pre6 : ∀ t, Steps p.tables e below (T2.setTop (mkF m 21 #[.val (.ref a0), .val (.long q1), .second] [(.int (0 : Int32))])) t → Steps p.tables e below (s₁.setTop (entryFrame m #[(.ref a0), (.long q1)] 3)) t := fun t kt => pre3 t (by
        show Steps p.tables e below (T2.setTop (mkF m 13 #[.val (.ref a0), .val (.long q1), .second] [(.int (lcmpW ((en - ln) - q1) (0 : Int64)))])) _
        refine XS.ifYes X2.here hx rfl (pc0 := 13) (pc' := 20) rfl (hb hby d7_13) rfl ((if0 _ _).trans (flt hc4).2.2.2) (by decide) (by decide) ?_
        show Steps p.tables e below (T2.setTop (mkF m 20 #[.val (.ref a0), .val (.long q1), .second] [])) _
        refine XS.iconst X2.here hx rfl (hb hby d7_20) ?_
        exact kt)
    obtain ⟨fs, hr, hrun, hended, hW, hsame⟩ := X2.leave (v := some (.int (0 : Int32))) (fun h => by rw [Bd.returns] at h; cases h)
    refine ⟨_, _, pre6 _ ?_, hrun, hended, _, _, rfl, ?_, ⟨_, rfl⟩, hW, hsame.mono (by decide) (by decide)⟩
    · show Steps p.tables e below (T2.setTop (mkF m 21 #[.val (.ref a0), .val (.long q1), .second] [(.int (0 : Int32))])) _
      exact retN X2 hx (t := .boolean) Bd.returns (by simp) (hb hby d7_21) hr
    · show Q7 Z _ _ _ _ h0 n0 _ T2.heap _
      rw [e2]
      exact ⟨⟨_, rfl, ⟨fun z => absurd ((lw_gt _ _).mpr z) hc4, fun _ => rfl⟩⟩, N0, rfl⟩
theorem pd_2 : parseMethodDescriptor "(IJ)V" = some ⟨[.int, .long], none⟩ := by decide +kernel
theorem pd_3 : parseMethodDescriptor "()J" = some ⟨[], some .long⟩ := by decide +kernel
theorem pd_4 : parseMethodDescriptor "(J)Z" = some ⟨[.long], some .boolean⟩ := by decide +kernel
theorem pn_2 : plainName "com/example/cluster_log/clusterlog/LeaseAnsweredSincePinLaw" = true := by first | (simp [plainName, overriddenIn]; done) | decide +kernel
theorem ef_0 (m : MethodId) (x0 : Int32) (x1 : Int64) (x2 : Int64) (x3 : Int64) (x4 : Int64)  : entryFrame m #[(.int x0), (.long x1), (.long x2), (.long x3), (.long x4)] maxLocals = mkF m 0 #[.val (.int x0), .val (.long x1), .second, .val (.long x2), .second, .val (.long x3), .second, .val (.long x4), .second, .unset, .unset, .unset, .unset, .unset, .unset, .unset, .unset, .unset] [] := by first | (simp [entryFrame, mkF, argsToLocals, Value.category, maxLocals]; done) | rfl
def Q0 (Z : State) (p0 : Int32) (q1 : Int64) (q2 : Int64) (q3 : Int64) (q4 : Int64) (w_MILLISECONDS_1 : Addr) (w_name_3 : Addr) (h0 : Heap) (n0 : Nat) (v : Option Value) (h : Heap) (L : List Loc) : Prop := v = some (.int (1 : Int32)) ∧ Fr n0 L ∧ (True)
set_option maxRecDepth 65536 in
set_option maxHeartbeats 40000000 in
theorem rm0 (l : Launch) (Z : State) (aw : Array Value) (hw : ∀ d ∈ tables_1, d.before aw Z = true) (ws : List Jvm.Cond) (p0 : Int32) (q1 : Int64) (q2 : Int64) (q3 : Int64) (q4 : Int64) (w_MILLISECONDS_1 : Addr) (w_name_3 : Addr) (h0 : Heap) (n0 : Nat) (Z0 : n0 ≤ h0.size) (S_MILLISECONDS_0 : Sta Z h0 "java/util/concurrent/TimeUnit" "MILLISECONDS" "Ljava/util/concurrent/TimeUnit;" (.ref w_MILLISECONDS_1)) (E_1 : Exa Z h0 w_MILLISECONDS_1 "java/util/concurrent/TimeUnit") (F_name_2 : Fld Z h0 w_MILLISECONDS_1 "java/lang/Enum" "name" "Ljava/lang/String;" (.ref w_name_3)) (E_3 : Exa Z h0 w_name_3 "java/lang/String") (F_ordinal_4 : Fld Z h0 w_MILLISECONDS_1 "java/lang/Enum" "ordinal" "I" (.int (2 : Int32))) (F_scale_5 : Fld Z h0 w_MILLISECONDS_1 "java/util/concurrent/TimeUnit" "scale" "J" (.long (1000000 : Int64))) (F_maxNanos_6 : Fld Z h0 w_MILLISECONDS_1 "java/util/concurrent/TimeUnit" "maxNanos" "J" (.long (9223372036854 : Int64))) (F_microRatio_7 : Fld Z h0 w_MILLISECONDS_1 "java/util/concurrent/TimeUnit" "microRatio" "J" (.long (1000 : Int64))) (F_maxMicros_8 : Fld Z h0 w_MILLISECONDS_1 "java/util/concurrent/TimeUnit" "maxMicros" "J" (.long (9223372036854775 : Int64))) (F_milliRatio_9 : Fld Z h0 w_MILLISECONDS_1 "java/util/concurrent/TimeUnit" "milliRatio" "I" (.int (1 : Int32))) (F_maxMillis_10 : Fld Z h0 w_MILLISECONDS_1 "java/util/concurrent/TimeUnit" "maxMillis" "J" (.long (9223372036854775807 : Int64))) (F_secRatio_11 : Fld Z h0 w_MILLISECONDS_1 "java/util/concurrent/TimeUnit" "secRatio" "I" (.int (1000 : Int32))) (F_maxSecs_12 : Fld Z h0 w_MILLISECONDS_1 "java/util/concurrent/TimeUnit" "maxSecs" "J" (.long (9223372036854775 : Int64))) :
    MetFree l x (head1 (Jvm.Cond.code x code maxLocals ret :: ws) room_1) (fun a U => a = #[(.int p0), (.long q1), (.long q2), (.long q3), (.long q4)] ∧ Z.Warmed39 U.vm ∧ U.heap = h0) (fun _ _ _ _ _ => True) (fun _ U o U' => ∃ v L, o = .returned v ∧ Q0 Z p0 q1 q2 q3 q4 w_MILLISECONDS_1 w_name_3 h0 n0 v U'.heap L ∧ FrameEnd U o U' L room_1.cells room_1.slots) := by
  refine MetFree.of_bodySF (plainFor_of_name pn_2) hisR ?_
  intro p e s m args below meth c s₁ Bd hml0 hP hK
  obtain ⟨rfl, hZ, hh⟩ := hP
  have hx := Bd.exec
  have hby := Bd.bytes
  have hml : c.maxLocals = 18 := hml0
  have hown : s.vm.findClass "com/example/cluster_log/clusterlog/LeaseAnsweredSincePinLaw" = some m.cls := findClass_of_methodNamed Bd.named
  have hnm := (name_of_methodNamed Bd.named Bd.method).1
  have X0 : Stand p l e room_1 s m #[(.int p0), (.long q1), (.long q2), (.long q3), (.long q4)] below meth c s₁ [] 0 0 := Stand.of_body Bd
  have e0 : s₁.heap = h0 := by rw [← hh, Bd.state]; rfl
  have N0 := Fr.nil n0
  have pre0 : ∀ t, Steps p.tables e below (s₁.setTop (mkF m 0 #[.val (.int p0), .val (.long q1), .second, .val (.long q2), .second, .val (.long q3), .second, .val (.long q4), .second, .unset, .unset, .unset, .unset, .unset, .unset, .unset, .unset, .unset] [])) t → Steps p.tables e below (s₁.setTop (entryFrame m #[(.int p0), (.long q1), (.long q2), (.long q3), (.long q4)] maxLocals)) t := fun t k => castTop (ef_0 m p0 q1 q2 q3 q4 ) k
  obtain ⟨T1, h1, X1, e1, E1, A1, D1, -, st1⟩ := newO X0 hx hZ hown (hw _ (List.mem_of_getElem? (i := 0) rfl)) (hw _ (List.mem_of_getElem? (i := 1) rfl)) (hw _ (List.mem_of_getElem? (i := 2) rfl)) e0 (g := (mkF m 0 #[.val (.int p0), .val (.long q1), .second, .val (.long q2), .second, .val (.long q3), .second, .val (.long q4), .second, .unset, .unset, .unset, .unset, .unset, .unset, .unset, .unset, .unset] [])) rfl (hb hby at_0) (by decide) (by decide)
  obtain ⟨b1, g1⟩ : ∃ z, z = h0.size := ⟨_, rfl⟩
  rw [← g1] at A1 D1 st1
  have f2 := (S_MILLISECONDS_0.ext E1)
  have f3 := (E_1.ext E1)
  have f4 := (F_name_2.ext E1)
  have f5 := (E_3.ext E1)
  have f6 := (F_ordinal_4.ext E1)
  have f7 := (F_scale_5.ext E1)
  have f8 := (F_maxNanos_6.ext E1)
  have f9 := (F_microRatio_7.ext E1)
  have f10 := (F_maxMicros_8.ext E1)
  have f11 := (F_milliRatio_9.ext E1)
  have f12 := (F_maxMillis_10.ext E1)
  have f13 := (F_secRatio_11.ext E1)
  have f14 := (F_maxSecs_12.ext E1)
  have ne15 : w_MILLISECONDS_1 ≠ b1 := Nat.ne_of_lt (Nat.lt_of_lt_of_le E_1.lt (Nat.le_of_eq g1.symm))
  have ne16 : w_name_3 ≠ b1 := Nat.ne_of_lt (Nat.lt_of_lt_of_le E_3.lt (Nat.le_of_eq g1.symm))
  have ge_b1 : n0 ≤ b1 := Nat.le_trans Z0 (Nat.le_of_eq g1.symm)
  have sz_b1 : h0.size ≤ b1 := Nat.le_trans (Keep.refl h0 []).1 (Nat.le_of_eq g1.symm)
  have K1 : Keep h0 h1 [] := Keep.ext (Keep.refl h0 []) E1
  have F1_length : Fld Z h1 b1 "com/example/cluster_log/clusterlog/Lease" "length" "J" (.long (0 : Int64)) := D1 (Or.inr (hw _ (List.mem_of_getElem? (i := 23) rfl))) (ty := .long) (by decide)
  have F1_heartbeatMs : Fld Z h1 b1 "com/example/cluster_log/clusterlog/Lease" "heartbeatMs" "J" (.long (0 : Int64)) := D1 (Or.inr (hw _ (List.mem_of_getElem? (i := 29) rfl))) (ty := .long) (by decide)
  have F1_end : Fld Z h1 b1 "com/example/cluster_log/clusterlog/Lease" "end" "J" (.long (0 : Int64)) := D1 (Or.inl (hw _ (List.mem_of_getElem? (i := 31) rfl))) (ty := .long) (by decide)
  obtain ⟨_, _, ⟨T17, L17, k17, n17⟩, -, X17, ⟨Lc17, hQ17, l17, y17, z17⟩, st17⟩ := X1.specialBack hx (y := (⟨"com/example/cluster_log/clusterlog/Lease", "<init>", "(IJ)V"⟩ : MethodName)) rfl hown (mvT hZ (hw _ (List.mem_of_getElem? (i := 3) rfl))) (mvT hZ (hw _ (List.mem_of_getElem? (i := 4) rfl))) (mvT hZ (hw _ (List.mem_of_getElem? (i := 5) rfl))) (by decide) (backOf (W := 1) (rm1 l Z aw hw [] b1 p0 q1 w_MILLISECONDS_1 (.long (0 : Int64)) (.long (0 : Int64)) (.long (0 : Int64)) h1 n0 (Nat.le_trans Z0 E1.1) f2 f7 f8 f3 A1 F1_length ge_b1 F1_heartbeatMs F1_end) hZ (hw _ (List.mem_of_getElem? (i := 5) rfl)) (hw _ (List.mem_of_getElem? (i := 2) rfl)) (by decide) (by decide)) (g := (mkF m 6 #[.val (.int p0), .val (.long q1), .second, .val (.long q2), .second, .val (.long q3), .second, .val (.long q4), .second, .unset, .unset, .unset, .unset, .unset, .unset, .unset, .unset, .unset] [(.long q1), (.int p0), (.ref b1), (.ref b1)])) rfl (by rw [hml]; rfl) (Steps.refl _) (a := b1) (argsL := [(.int p0), (.long q1)]) (rest := [(.ref b1)]) (lenOf pd_2 rfl) rfl (by show 2 * 0 + _ ≤ _; exact Nat.le_of_eq rfl) (hb hby at_6) (fun _ _ => ⟨rfl, e1, (by decide : 1 + 0 ≤ _), (by decide : 3 + 0 ≤ _)⟩)
  dsimp only [Pt.U, Pt.locs, Pt.cells, Pt.slots] at X17 l17 y17 z17 st17 hQ17
  subst l17 y17 z17
  obtain ⟨rfl, Nq17, c17_0, c17_1, c17_2, c17_3⟩ := hQ17
  have N17 := Fr.app N0 Nq17
  have f18 := (own_sta_keep f2 c17_0 (allS (own_exa_ns A1) all0))
  have f19 := (f3.keep c17_0)
  have f20 := (f4.keep c17_0 (ninS ne15 nin0))
  have f21 := (f5.keep c17_0)
  have f22 := (f6.keep c17_0 (ninS ne15 nin0))
  have f23 := (f7.keep c17_0 (ninS ne15 nin0))
  have f24 := (f8.keep c17_0 (ninS ne15 nin0))
  have f25 := (f9.keep c17_0 (ninS ne15 nin0))
  have f26 := (f10.keep c17_0 (ninS ne15 nin0))
  have f27 := (f11.keep c17_0 (ninS ne15 nin0))
  have f28 := (f12.keep c17_0 (ninS ne15 nin0))
  have f29 := (f13.keep c17_0 (ninS ne15 nin0))
  have f30 := (f14.keep c17_0 (ninS ne15 nin0))
  have f31 := (A1.keep c17_0)
  have K32 : Keep h0 T17.heap [] := Keep.trans K1 c17_0 (allS (Or.inr sz_b1) all0)
  obtain ⟨cq33, kq33, q33a, q33b, q33c⟩ := isOf hZ rfl c17_1
  obtain ⟨_, _, ⟨T33, L33, k33, n33⟩, -, X33, ⟨Lc33, hQ33, l33, y33, z33⟩, st33⟩ := X17.virtualBack hx (y := (⟨"com/example/cluster_log/clusterlog/Lease", "length", "()J"⟩ : MethodName)) (z := (⟨"com/example/cluster_log/clusterlog/Lease", "length", "()J"⟩ : MethodName)) hown (mvT hZ (hw _ (List.mem_of_getElem? (i := 32) rfl))) (mvT hZ (hw _ (List.mem_of_getElem? (i := 33) rfl))) (notFace_of_selects (args := #[]) (mvT hZ (hw _ (List.mem_of_getElem? (i := 35) rfl)))) (mvT hZ (hw _ (List.mem_of_getElem? (i := 35) rfl))) (mvT hZ (hw _ (List.mem_of_getElem? (i := 34) rfl))) (by decide) (backOf (W := 0) (rm5 l Z aw hw [] b1 ((((p0.toInt64) * (1000000 : Int64)) * (9 : Int64)) / (10 : Int64)) T17.heap n0 (Nat.le_trans (Nat.le_trans Z0 E1.1) c17_0.1) c17_2) hZ (hw _ (List.mem_of_getElem? (i := 36) rfl)) (hw _ (List.mem_of_getElem? (i := 2) rfl)) (by decide) (by decide)) q33a q33c (g := (mkF m 13 #[.val (.int p0), .val (.long q1), .second, .val (.long q2), .second, .val (.long q3), .second, .val (.long q4), .second, .val (.ref b1), .unset, .unset, .unset, .unset, .unset, .unset, .unset, .unset] [(.ref b1)])) rfl (by rw [hml]; rfl) (Steps.refl _) (argsL := []) (rest := []) (lenOf pd_3 rfl) rfl (by show 2 * 0 + _ ≤ _; exact Nat.le_of_eq rfl) (hb hby at_13) (fun _ _ => ⟨rfl, rfl, (by decide : 1 + 0 ≤ _), (by decide : 3 + 0 ≤ _)⟩)
  dsimp only [Pt.U, Pt.locs, Pt.cells, Pt.slots] at X33 l33 y33 z33 st33 hQ33
  subst l33 y33 z33
  obtain ⟨rfl, Nq33, e33⟩ := hQ33
  have N33 := Fr.app N17 Nq33
  have pre34 : ∀ t, Steps p.tables e below (T33.setTop (mkF m 18 #[.val (.int p0), .val (.long q1), .second, .val (.long q2), .second, .val (.long q3), .second, .val (.long q4), .second, .val (.ref b1), .val (.long ((((p0.toInt64) * (1000000 : Int64)) * (9 : Int64)) / (10 : Int64))), .second, .unset, .unset, .unset, .unset, .unset, .unset] [])) t → Steps p.tables e below (s₁.setTop (entryFrame m #[(.int p0), (.long q1), (.long q2), (.long q3), (.long q4)] maxLocals)) t := fun t kt => pre0 t (by
      show Steps p.tables e below (s₁.setTop (mkF m 0 #[.val (.int p0), .val (.long q1), .second, .val (.long q2), .second, .val (.long q3), .second, .val (.long q4), .second, .unset, .unset, .unset, .unset, .unset, .unset, .unset, .unset, .unset] [])) _
      refine st1 _ ?_
      show Steps p.tables e below (T1.setTop (mkF m 3 #[.val (.int p0), .val (.long q1), .second, .val (.long q2), .second, .val (.long q3), .second, .val (.long q4), .second, .unset, .unset, .unset, .unset, .unset, .unset, .unset, .unset, .unset] [(.ref b1)])) _
      refine XS.dup X1.here hx rfl (hb hby at_3) rfl rfl ?_
      show Steps p.tables e below (T1.setTop (mkF m 4 #[.val (.int p0), .val (.long q1), .second, .val (.long q2), .second, .val (.long q3), .second, .val (.long q4), .second, .unset, .unset, .unset, .unset, .unset, .unset, .unset, .unset, .unset] [(.ref b1), (.ref b1)])) _
      refine XS.iloadN X1.here hx rfl (hb hby at_4) rfl ?_
      show Steps p.tables e below (T1.setTop (mkF m 5 #[.val (.int p0), .val (.long q1), .second, .val (.long q2), .second, .val (.long q3), .second, .val (.long q4), .second, .unset, .unset, .unset, .unset, .unset, .unset, .unset, .unset, .unset] [(.int p0), (.ref b1), (.ref b1)])) _
      refine XS.lloadN X1.here hx rfl (hb hby at_5) rfl ?_
      show Steps p.tables e below (T1.setTop (mkF m 6 #[.val (.int p0), .val (.long q1), .second, .val (.long q2), .second, .val (.long q3), .second, .val (.long q4), .second, .unset, .unset, .unset, .unset, .unset, .unset, .unset, .unset, .unset] [(.long q1), (.int p0), (.ref b1), (.ref b1)])) _
      refine st17.trans ?_
      show Steps p.tables e below (T17.setTop (mkF m 9 #[.val (.int p0), .val (.long q1), .second, .val (.long q2), .second, .val (.long q3), .second, .val (.long q4), .second, .unset, .unset, .unset, .unset, .unset, .unset, .unset, .unset, .unset] [(.ref b1)])) _
      refine XS.astore X17.here hx rfl (hb hby at_9) rfl rfl (l' := #[.val (.int p0), .val (.long q1), .second, .val (.long q2), .second, .val (.long q3), .second, .val (.long q4), .second, .val (.ref b1), .unset, .unset, .unset, .unset, .unset, .unset, .unset, .unset]) rfl ?_
      show Steps p.tables e below (T17.setTop (mkF m 11 #[.val (.int p0), .val (.long q1), .second, .val (.long q2), .second, .val (.long q3), .second, .val (.long q4), .second, .val (.ref b1), .unset, .unset, .unset, .unset, .unset, .unset, .unset, .unset] [])) _
      refine XS.aload X17.here hx rfl (hb hby at_11) rfl rfl ?_
      show Steps p.tables e below (T17.setTop (mkF m 13 #[.val (.int p0), .val (.long q1), .second, .val (.long q2), .second, .val (.long q3), .second, .val (.long q4), .second, .val (.ref b1), .unset, .unset, .unset, .unset, .unset, .unset, .unset, .unset] [(.ref b1)])) _
      refine st33.trans ?_
      show Steps p.tables e below (T33.setTop (mkF m 16 #[.val (.int p0), .val (.long q1), .second, .val (.long q2), .second, .val (.long q3), .second, .val (.long q4), .second, .val (.ref b1), .unset, .unset, .unset, .unset, .unset, .unset, .unset, .unset] [(.long ((((p0.toInt64) * (1000000 : Int64)) * (9 : Int64)) / (10 : Int64)))])) _
      refine XS.lstore X33.here hx rfl (hb hby at_16) rfl (l' := #[.val (.int p0), .val (.long q1), .second, .val (.long q2), .second, .val (.long q3), .second, .val (.long q4), .second, .val (.ref b1), .val (.long ((((p0.toInt64) * (1000000 : Int64)) * (9 : Int64)) / (10 : Int64))), .second, .unset, .unset, .unset, .unset, .unset, .unset]) rfl ?_
      exact kt)
  obtain ⟨ln, hln⟩ : ∃ z, z = ((((p0.toInt64) * (1000000 : Int64)) * (9 : Int64)) / (10 : Int64)) := ⟨_, rfl⟩
  rw [← hln] at pre34 c17_2
  have pre35 : ∀ t, Steps p.tables e below (T33.setTop (mkF m 21 #[.val (.int p0), .val (.long q1), .second, .val (.long q2), .second, .val (.long q3), .second, .val (.long q4), .second, .val (.ref b1), .val (.long ln), .second, .unset, .unset, .unset, .unset, .unset, .unset] [(.long q2), (.ref b1)])) t → Steps p.tables e below (s₁.setTop (entryFrame m #[(.int p0), (.long q1), (.long q2), (.long q3), (.long q4)] maxLocals)) t := fun t kt => pre34 t (by
      show Steps p.tables e below (T33.setTop (mkF m 18 #[.val (.int p0), .val (.long q1), .second, .val (.long q2), .second, .val (.long q3), .second, .val (.long q4), .second, .val (.ref b1), .val (.long ln), .second, .unset, .unset, .unset, .unset, .unset, .unset] [])) _
      refine XS.aload X33.here hx rfl (hb hby at_18) rfl rfl ?_
      show Steps p.tables e below (T33.setTop (mkF m 20 #[.val (.int p0), .val (.long q1), .second, .val (.long q2), .second, .val (.long q3), .second, .val (.long q4), .second, .val (.ref b1), .val (.long ln), .second, .unset, .unset, .unset, .unset, .unset, .unset] [(.ref b1)])) _
      refine XS.lloadN X33.here hx rfl (hb hby at_20) rfl ?_
      exact kt)
  by_cases hs36 : (0 : Int64) < ((q2 + ln) - q1)
  · skip
    obtain ⟨cq37, kq37, q37a, q37b, q37c⟩ := isOf hZ e33 c17_1
    obtain ⟨_, _, ⟨T37, L37, k37, n37⟩, -, X37, ⟨Lc37, hQ37, l37, y37, z37⟩, st37⟩ := X33.virtualBack hx (y := (⟨"com/example/cluster_log/clusterlog/Lease", "renew", "(J)Z"⟩ : MethodName)) (z := (⟨"com/example/cluster_log/clusterlog/Lease", "renew", "(J)Z"⟩ : MethodName)) hown (mvT hZ (hw _ (List.mem_of_getElem? (i := 37) rfl))) (mvT hZ (hw _ (List.mem_of_getElem? (i := 38) rfl))) (notFace_of_selects (args := #[]) (mvT hZ (hw _ (List.mem_of_getElem? (i := 40) rfl)))) (mvT hZ (hw _ (List.mem_of_getElem? (i := 40) rfl))) (mvT hZ (hw _ (List.mem_of_getElem? (i := 39) rfl))) (by decide) (backOf (W := 0) (rmY l Z aw hw [] b1 q2 ln q1 T17.heap n0 (Nat.le_trans (Nat.le_trans Z0 E1.1) c17_0.1) hs36 c17_2 c17_3 c17_1 ge_b1) hZ (hw _ (List.mem_of_getElem? (i := 41) rfl)) (hw _ (List.mem_of_getElem? (i := 2) rfl)) (by decide) (by decide)) q37a q37c (g := (mkF m 21 #[.val (.int p0), .val (.long q1), .second, .val (.long q2), .second, .val (.long q3), .second, .val (.long q4), .second, .val (.ref b1), .val (.long ln), .second, .unset, .unset, .unset, .unset, .unset, .unset] [(.long q2), (.ref b1)])) rfl (by rw [hml]; rfl) (Steps.refl _) (argsL := [(.long q2)]) (rest := []) (lenOf pd_4 rfl) rfl (by show 2 * 0 + _ ≤ _; exact Nat.le_of_eq rfl) (hb hby at_21) (fun _ _ => ⟨rfl, e33, (by decide : 1 + 0 ≤ _), (by decide : 3 + 0 ≤ _)⟩)
    dsimp only [Pt.U, Pt.locs, Pt.cells, Pt.slots] at X37 l37 y37 z37 st37 hQ37
    subst l37 y37 z37
    obtain ⟨rfl, Nq37, c37_0, c37_1, c37_2, c37_3⟩ := hQ37
    have N37 := Fr.app N33 Nq37
    have f38 := (own_sta_keep f18 c37_0 (allS (own_exa_ns c17_1) all0))
    have f39 := (f19.keep c37_0)
    have f40 := (f20.keep c37_0 (ninS ne15 nin0))
    have f41 := (f21.keep c37_0)
    have f42 := (f22.keep c37_0 (ninS ne15 nin0))
    have f43 := (f23.keep c37_0 (ninS ne15 nin0))
    have f44 := (f24.keep c37_0 (ninS ne15 nin0))
    have f45 := (f25.keep c37_0 (ninS ne15 nin0))
    have f46 := (f26.keep c37_0 (ninS ne15 nin0))
    have f47 := (f27.keep c37_0 (ninS ne15 nin0))
    have f48 := (f28.keep c37_0 (ninS ne15 nin0))
    have f49 := (f29.keep c37_0 (ninS ne15 nin0))
    have f50 := (f30.keep c37_0 (ninS ne15 nin0))
    have f51 := (c17_1.keep c37_0)
    have K52 : Keep h0 T37.heap [] := Keep.trans K32 c37_0 (allS (Or.inr sz_b1) all0)
    have pre53 : ∀ t, Steps p.tables e below (T37.setTop (mkF m 30 #[.val (.int p0), .val (.long q1), .second, .val (.long q2), .second, .val (.long q3), .second, .val (.long q4), .second, .val (.ref b1), .val (.long ln), .second, .val (.int (1 : Int32)), .unset, .unset, .unset, .unset, .unset] [(.long q3), (.ref b1)])) t → Steps p.tables e below (s₁.setTop (entryFrame m #[(.int p0), (.long q1), (.long q2), (.long q3), (.long q4)] maxLocals)) t := fun t kt => pre35 t (by
        show Steps p.tables e below (T33.setTop (mkF m 21 #[.val (.int p0), .val (.long q1), .second, .val (.long q2), .second, .val (.long q3), .second, .val (.long q4), .second, .val (.ref b1), .val (.long ln), .second, .unset, .unset, .unset, .unset, .unset, .unset] [(.long q2), (.ref b1)])) _
        refine st37.trans ?_
        show Steps p.tables e below (T37.setTop (mkF m 24 #[.val (.int p0), .val (.long q1), .second, .val (.long q2), .second, .val (.long q3), .second, .val (.long q4), .second, .val (.ref b1), .val (.long ln), .second, .unset, .unset, .unset, .unset, .unset, .unset] [(.int (1 : Int32))])) _
        refine XS.istore X37.here hx rfl (hb hby at_24) rfl (l' := #[.val (.int p0), .val (.long q1), .second, .val (.long q2), .second, .val (.long q3), .second, .val (.long q4), .second, .val (.ref b1), .val (.long ln), .second, .val (.int (1 : Int32)), .unset, .unset, .unset, .unset, .unset]) rfl ?_
        show Steps p.tables e below (T37.setTop (mkF m 26 #[.val (.int p0), .val (.long q1), .second, .val (.long q2), .second, .val (.long q3), .second, .val (.long q4), .second, .val (.ref b1), .val (.long ln), .second, .val (.int (1 : Int32)), .unset, .unset, .unset, .unset, .unset] [])) _
        refine XS.aload X37.here hx rfl (hb hby at_26) rfl rfl ?_
        show Steps p.tables e below (T37.setTop (mkF m 28 #[.val (.int p0), .val (.long q1), .second, .val (.long q2), .second, .val (.long q3), .second, .val (.long q4), .second, .val (.ref b1), .val (.long ln), .second, .val (.int (1 : Int32)), .unset, .unset, .unset, .unset, .unset] [(.ref b1)])) _
        refine XS.lload X37.here hx rfl (hb hby at_28) rfl ?_
        exact kt)
    by_cases hs54 : (0 : Int64) < ((q3 + ln) - (q2 + ln))
    · skip
      obtain ⟨cq55, kq55, q55a, q55b, q55c⟩ := isOf hZ rfl c37_1
      obtain ⟨_, _, ⟨T55, L55, k55, n55⟩, -, X55, ⟨Lc55, hQ55, l55, y55, z55⟩, st55⟩ := X37.virtualBack hx (y := (⟨"com/example/cluster_log/clusterlog/Lease", "renew", "(J)Z"⟩ : MethodName)) (z := (⟨"com/example/cluster_log/clusterlog/Lease", "renew", "(J)Z"⟩ : MethodName)) hown (mvT hZ (hw _ (List.mem_of_getElem? (i := 37) rfl))) (mvT hZ (hw _ (List.mem_of_getElem? (i := 38) rfl))) (notFace_of_selects (args := #[]) (mvT hZ (hw _ (List.mem_of_getElem? (i := 40) rfl)))) (mvT hZ (hw _ (List.mem_of_getElem? (i := 40) rfl))) (mvT hZ (hw _ (List.mem_of_getElem? (i := 39) rfl))) (by decide) (backOf (W := 0) (rmY l Z aw hw [] b1 q3 ln (q2 + ln) T37.heap n0 (Nat.le_trans (Nat.le_trans (Nat.le_trans Z0 E1.1) c17_0.1) c37_0.1) hs54 c37_2 c37_3 c37_1 ge_b1) hZ (hw _ (List.mem_of_getElem? (i := 41) rfl)) (hw _ (List.mem_of_getElem? (i := 2) rfl)) (by decide) (by decide)) q55a q55c (g := (mkF m 30 #[.val (.int p0), .val (.long q1), .second, .val (.long q2), .second, .val (.long q3), .second, .val (.long q4), .second, .val (.ref b1), .val (.long ln), .second, .val (.int (1 : Int32)), .unset, .unset, .unset, .unset, .unset] [(.long q3), (.ref b1)])) rfl (by rw [hml]; rfl) (Steps.refl _) (argsL := [(.long q3)]) (rest := []) (lenOf pd_4 rfl) rfl (by show 2 * 0 + _ ≤ _; exact Nat.le_of_eq rfl) (hb hby at_30) (fun _ _ => ⟨rfl, rfl, (by decide : 1 + 0 ≤ _), (by decide : 3 + 0 ≤ _)⟩)
      dsimp only [Pt.U, Pt.locs, Pt.cells, Pt.slots] at X55 l55 y55 z55 st55 hQ55
      subst l55 y55 z55
      obtain ⟨rfl, Nq55, c55_0, c55_1, c55_2, c55_3⟩ := hQ55
      have N55 := Fr.app N37 Nq55
      have f56 := (own_sta_keep f38 c55_0 (allS (own_exa_ns c37_1) all0))
      have f57 := (f39.keep c55_0)
      have f58 := (f40.keep c55_0 (ninS ne15 nin0))
      have f59 := (f41.keep c55_0)
      have f60 := (f42.keep c55_0 (ninS ne15 nin0))
      have f61 := (f43.keep c55_0 (ninS ne15 nin0))
      have f62 := (f44.keep c55_0 (ninS ne15 nin0))
      have f63 := (f45.keep c55_0 (ninS ne15 nin0))
      have f64 := (f46.keep c55_0 (ninS ne15 nin0))
      have f65 := (f47.keep c55_0 (ninS ne15 nin0))
      have f66 := (f48.keep c55_0 (ninS ne15 nin0))
      have f67 := (f49.keep c55_0 (ninS ne15 nin0))
      have f68 := (f50.keep c55_0 (ninS ne15 nin0))
      have f69 := (c37_1.keep c55_0)
      have K70 : Keep h0 T55.heap [] := Keep.trans K52 c55_0 (allS (Or.inr sz_b1) all0)
      have pre71 : ∀ t, Steps p.tables e below (T55.setTop (mkF m 39 #[.val (.int p0), .val (.long q1), .second, .val (.long q2), .second, .val (.long q3), .second, .val (.long q4), .second, .val (.ref b1), .val (.long ln), .second, .val (.int (1 : Int32)), .val (.int (1 : Int32)), .unset, .unset, .unset, .unset] [(.long q4), (.ref b1)])) t → Steps p.tables e below (s₁.setTop (entryFrame m #[(.int p0), (.long q1), (.long q2), (.long q3), (.long q4)] maxLocals)) t := fun t kt => pre53 t (by
          show Steps p.tables e below (T37.setTop (mkF m 30 #[.val (.int p0), .val (.long q1), .second, .val (.long q2), .second, .val (.long q3), .second, .val (.long q4), .second, .val (.ref b1), .val (.long ln), .second, .val (.int (1 : Int32)), .unset, .unset, .unset, .unset, .unset] [(.long q3), (.ref b1)])) _
          refine st55.trans ?_
          show Steps p.tables e below (T55.setTop (mkF m 33 #[.val (.int p0), .val (.long q1), .second, .val (.long q2), .second, .val (.long q3), .second, .val (.long q4), .second, .val (.ref b1), .val (.long ln), .second, .val (.int (1 : Int32)), .unset, .unset, .unset, .unset, .unset] [(.int (1 : Int32))])) _
          refine XS.istore X55.here hx rfl (hb hby at_33) rfl (l' := #[.val (.int p0), .val (.long q1), .second, .val (.long q2), .second, .val (.long q3), .second, .val (.long q4), .second, .val (.ref b1), .val (.long ln), .second, .val (.int (1 : Int32)), .val (.int (1 : Int32)), .unset, .unset, .unset, .unset]) rfl ?_
          show Steps p.tables e below (T55.setTop (mkF m 35 #[.val (.int p0), .val (.long q1), .second, .val (.long q2), .second, .val (.long q3), .second, .val (.long q4), .second, .val (.ref b1), .val (.long ln), .second, .val (.int (1 : Int32)), .val (.int (1 : Int32)), .unset, .unset, .unset, .unset] [])) _
          refine XS.aload X55.here hx rfl (hb hby at_35) rfl rfl ?_
          show Steps p.tables e below (T55.setTop (mkF m 37 #[.val (.int p0), .val (.long q1), .second, .val (.long q2), .second, .val (.long q3), .second, .val (.long q4), .second, .val (.ref b1), .val (.long ln), .second, .val (.int (1 : Int32)), .val (.int (1 : Int32)), .unset, .unset, .unset, .unset] [(.ref b1)])) _
          refine XS.lload X55.here hx rfl (hb hby at_37) rfl ?_
          exact kt)
      by_cases hs72 : (0 : Int64) < (((q3 + ln) - ln) - q4)
      · skip
        obtain ⟨cq73, kq73, q73a, q73b, q73c⟩ := isOf hZ rfl c55_1
        obtain ⟨_, _, ⟨T73, L73, k73, n73⟩, -, X73, ⟨Lc73, hQ73, l73, y73, z73⟩, st73⟩ := X55.virtualBack hx (y := (⟨"com/example/cluster_log/clusterlog/Lease", "answeredSince", "(J)Z"⟩ : MethodName)) (z := (⟨"com/example/cluster_log/clusterlog/Lease", "answeredSince", "(J)Z"⟩ : MethodName)) hown (mvT hZ (hw _ (List.mem_of_getElem? (i := 42) rfl))) (mvT hZ (hw _ (List.mem_of_getElem? (i := 43) rfl))) (notFace_of_selects (args := #[]) (mvT hZ (hw _ (List.mem_of_getElem? (i := 45) rfl)))) (mvT hZ (hw _ (List.mem_of_getElem? (i := 45) rfl))) (mvT hZ (hw _ (List.mem_of_getElem? (i := 44) rfl))) (by decide) (backOf (W := 0) (rm7 l Z aw hw [] b1 q4 ln (q3 + ln) T55.heap n0 (Nat.le_trans (Nat.le_trans (Nat.le_trans (Nat.le_trans Z0 E1.1) c17_0.1) c37_0.1) c55_0.1) c55_3 c55_2) hZ (hw _ (List.mem_of_getElem? (i := 46) rfl)) (hw _ (List.mem_of_getElem? (i := 2) rfl)) (by decide) (by decide)) q73a q73c (g := (mkF m 39 #[.val (.int p0), .val (.long q1), .second, .val (.long q2), .second, .val (.long q3), .second, .val (.long q4), .second, .val (.ref b1), .val (.long ln), .second, .val (.int (1 : Int32)), .val (.int (1 : Int32)), .unset, .unset, .unset, .unset] [(.long q4), (.ref b1)])) rfl (by rw [hml]; rfl) (Steps.refl _) (argsL := [(.long q4)]) (rest := []) (lenOf pd_4 rfl) rfl (by show 2 * 0 + _ ≤ _; exact Nat.le_of_eq rfl) (hb hby at_39) (fun _ _ => ⟨rfl, rfl, (by decide : 1 + 0 ≤ _), (by decide : 3 + 0 ≤ _)⟩)
        dsimp only [Pt.U, Pt.locs, Pt.cells, Pt.slots] at X73 l73 y73 z73 st73 hQ73
        subst l73 y73 z73
        obtain ⟨⟨r74, rfl, Pr74⟩, Nq73, e73⟩ := hQ73
        have N73 := Fr.app N55 Nq73
        have pre75 : ∀ t, Steps p.tables e below (T73.setTop (mkF m 42 #[.val (.int p0), .val (.long q1), .second, .val (.long q2), .second, .val (.long q3), .second, .val (.long q4), .second, .val (.ref b1), .val (.long ln), .second, .val (.int (1 : Int32)), .val (.int (1 : Int32)), .unset, .unset, .unset, .unset] [(.int r74)])) t → Steps p.tables e below (s₁.setTop (entryFrame m #[(.int p0), (.long q1), (.long q2), (.long q3), (.long q4)] maxLocals)) t := fun t kt => pre71 t (by
            show Steps p.tables e below (T55.setTop (mkF m 39 #[.val (.int p0), .val (.long q1), .second, .val (.long q2), .second, .val (.long q3), .second, .val (.long q4), .second, .val (.ref b1), .val (.long ln), .second, .val (.int (1 : Int32)), .val (.int (1 : Int32)), .unset, .unset, .unset, .unset] [(.long q4), (.ref b1)])) _
            refine st73.trans ?_
            exact kt)
        obtain rfl : (1 : Int32) = r74 := Pr74.1 hs72
        obtain ⟨cq76, kq76, q76a, q76b, q76c⟩ := isOf hZ e73 c55_1
        obtain ⟨_, _, ⟨T76, L76, k76, n76⟩, -, X76, ⟨Lc76, hQ76, l76, y76, z76⟩, st76⟩ := X73.virtualBack hx (y := (⟨"com/example/cluster_log/clusterlog/Lease", "left", "(J)J"⟩ : MethodName)) (z := (⟨"com/example/cluster_log/clusterlog/Lease", "left", "(J)J"⟩ : MethodName)) hown (mvT hZ (hw _ (List.mem_of_getElem? (i := 47) rfl))) (mvT hZ (hw _ (List.mem_of_getElem? (i := 48) rfl))) (notFace_of_selects (args := #[]) (mvT hZ (hw _ (List.mem_of_getElem? (i := 50) rfl)))) (mvT hZ (hw _ (List.mem_of_getElem? (i := 50) rfl))) (mvT hZ (hw _ (List.mem_of_getElem? (i := 49) rfl))) (by decide) (backOf (W := 0) (rm8 l Z aw hw [] b1 q4 (q3 + ln) T55.heap n0 (Nat.le_trans (Nat.le_trans (Nat.le_trans (Nat.le_trans Z0 E1.1) c17_0.1) c37_0.1) c55_0.1) c55_3) hZ (hw _ (List.mem_of_getElem? (i := 51) rfl)) (hw _ (List.mem_of_getElem? (i := 2) rfl)) (by decide) (by decide)) q76a q76c (g := (mkF m 48 #[.val (.int p0), .val (.long q1), .second, .val (.long q2), .second, .val (.long q3), .second, .val (.long q4), .second, .val (.ref b1), .val (.long ln), .second, .val (.int (1 : Int32)), .val (.int (1 : Int32)), .val (.int (1 : Int32)), .unset, .unset, .unset] [(.long q4), (.ref b1)])) rfl (by rw [hml]; rfl) (Steps.refl _) (argsL := [(.long q4)]) (rest := []) (lenOf pd_0 rfl) rfl (by show 2 * 0 + _ ≤ _; exact Nat.le_of_eq rfl) (hb hby at_48) (fun _ _ => ⟨rfl, e73, (by decide : 1 + 0 ≤ _), (by decide : 3 + 0 ≤ _)⟩)
        dsimp only [Pt.U, Pt.locs, Pt.cells, Pt.slots] at X76 l76 y76 z76 st76 hQ76
        subst l76 y76 z76
        obtain ⟨rfl, Nq76, e76⟩ := hQ76
        have N76 := Fr.app N73 Nq76
        obtain ⟨cq77, kq77, q77a, q77b, q77c⟩ := isOf hZ e76 c55_1
        obtain ⟨_, _, ⟨T77, L77, k77, n77⟩, -, X77, ⟨Lc77, hQ77, l77, y77, z77⟩, st77⟩ := X76.virtualBack hx (y := (⟨"com/example/cluster_log/clusterlog/Lease", "answeredSince", "(J)Z"⟩ : MethodName)) (z := (⟨"com/example/cluster_log/clusterlog/Lease", "answeredSince", "(J)Z"⟩ : MethodName)) hown (mvT hZ (hw _ (List.mem_of_getElem? (i := 42) rfl))) (mvT hZ (hw _ (List.mem_of_getElem? (i := 43) rfl))) (notFace_of_selects (args := #[]) (mvT hZ (hw _ (List.mem_of_getElem? (i := 45) rfl)))) (mvT hZ (hw _ (List.mem_of_getElem? (i := 45) rfl))) (mvT hZ (hw _ (List.mem_of_getElem? (i := 44) rfl))) (by decide) (backOf (W := 0) (rm7 l Z aw hw [] b1 q3 ln (q3 + ln) T55.heap n0 (Nat.le_trans (Nat.le_trans (Nat.le_trans (Nat.le_trans Z0 E1.1) c17_0.1) c37_0.1) c55_0.1) c55_3 c55_2) hZ (hw _ (List.mem_of_getElem? (i := 46) rfl)) (hw _ (List.mem_of_getElem? (i := 2) rfl)) (by decide) (by decide)) q77a q77c (g := (mkF m 126 #[.val (.int p0), .val (.long q1), .second, .val (.long q2), .second, .val (.long q3), .second, .val (.long q4), .second, .val (.ref b1), .val (.long ln), .second, .val (.int (1 : Int32)), .val (.int (1 : Int32)), .val (.int (1 : Int32)), .val (.int (1 : Int32)), .val (.long q3), .second] [(.long q3), (.ref b1)])) rfl (by rw [hml]; rfl) (Steps.refl _) (argsL := [(.long q3)]) (rest := []) (lenOf pd_4 rfl) rfl (by show 2 * 0 + _ ≤ _; exact Nat.le_of_eq rfl) (hb hby at_126) (fun _ _ => ⟨rfl, e76, (by decide : 1 + 0 ≤ _), (by decide : 3 + 0 ≤ _)⟩)
        dsimp only [Pt.U, Pt.locs, Pt.cells, Pt.slots] at X77 l77 y77 z77 st77 hQ77
        subst l77 y77 z77
        obtain ⟨⟨r78, rfl, Pr78⟩, Nq77, e77⟩ := hQ77
        have N77 := Fr.app N76 Nq77
        have pre79 : ∀ t, Steps p.tables e below (T77.setTop (mkF m 129 #[.val (.int p0), .val (.long q1), .second, .val (.long q2), .second, .val (.long q3), .second, .val (.long q4), .second, .val (.ref b1), .val (.long ln), .second, .val (.int (1 : Int32)), .val (.int (1 : Int32)), .val (.int (1 : Int32)), .val (.int (1 : Int32)), .val (.long q3), .second] [(.int r78)])) t → Steps p.tables e below (s₁.setTop (entryFrame m #[(.int p0), (.long q1), (.long q2), (.long q3), (.long q4)] maxLocals)) t := fun t kt => pre75 t (by
            show Steps p.tables e below (T73.setTop (mkF m 42 #[.val (.int p0), .val (.long q1), .second, .val (.long q2), .second, .val (.long q3), .second, .val (.long q4), .second, .val (.ref b1), .val (.long ln), .second, .val (.int (1 : Int32)), .val (.int (1 : Int32)), .unset, .unset, .unset, .unset] [(.int (1 : Int32))])) _
            refine XS.istore X73.here hx rfl (hb hby at_42) rfl (l' := #[.val (.int p0), .val (.long q1), .second, .val (.long q2), .second, .val (.long q3), .second, .val (.long q4), .second, .val (.ref b1), .val (.long ln), .second, .val (.int (1 : Int32)), .val (.int (1 : Int32)), .val (.int (1 : Int32)), .unset, .unset, .unset]) rfl ?_
            show Steps p.tables e below (T73.setTop (mkF m 44 #[.val (.int p0), .val (.long q1), .second, .val (.long q2), .second, .val (.long q3), .second, .val (.long q4), .second, .val (.ref b1), .val (.long ln), .second, .val (.int (1 : Int32)), .val (.int (1 : Int32)), .val (.int (1 : Int32)), .unset, .unset, .unset] [])) _
            refine XS.aload X73.here hx rfl (hb hby at_44) rfl rfl ?_
            show Steps p.tables e below (T73.setTop (mkF m 46 #[.val (.int p0), .val (.long q1), .second, .val (.long q2), .second, .val (.long q3), .second, .val (.long q4), .second, .val (.ref b1), .val (.long ln), .second, .val (.int (1 : Int32)), .val (.int (1 : Int32)), .val (.int (1 : Int32)), .unset, .unset, .unset] [(.ref b1)])) _
            refine XS.lload X73.here hx rfl (hb hby at_46) rfl ?_
            show Steps p.tables e below (T73.setTop (mkF m 48 #[.val (.int p0), .val (.long q1), .second, .val (.long q2), .second, .val (.long q3), .second, .val (.long q4), .second, .val (.ref b1), .val (.long ln), .second, .val (.int (1 : Int32)), .val (.int (1 : Int32)), .val (.int (1 : Int32)), .unset, .unset, .unset] [(.long q4), (.ref b1)])) _
            refine st76.trans ?_
            show Steps p.tables e below (T76.setTop (mkF m 51 #[.val (.int p0), .val (.long q1), .second, .val (.long q2), .second, .val (.long q3), .second, .val (.long q4), .second, .val (.ref b1), .val (.long ln), .second, .val (.int (1 : Int32)), .val (.int (1 : Int32)), .val (.int (1 : Int32)), .unset, .unset, .unset] [(.long ((q3 + ln) - q4))])) _
            refine XS.lload X76.here hx rfl (hb hby at_51) rfl ?_
            show Steps p.tables e below (T76.setTop (mkF m 53 #[.val (.int p0), .val (.long q1), .second, .val (.long q2), .second, .val (.long q3), .second, .val (.long q4), .second, .val (.ref b1), .val (.long ln), .second, .val (.int (1 : Int32)), .val (.int (1 : Int32)), .val (.int (1 : Int32)), .unset, .unset, .unset] [(.long ln), (.long ((q3 + ln) - q4))])) _
            refine XS.lsub X76.here hx rfl (hb hby at_53) rfl ?_
            show Steps p.tables e below (T76.setTop (mkF m 54 #[.val (.int p0), .val (.long q1), .second, .val (.long q2), .second, .val (.long q3), .second, .val (.long q4), .second, .val (.ref b1), .val (.long ln), .second, .val (.int (1 : Int32)), .val (.int (1 : Int32)), .val (.int (1 : Int32)), .unset, .unset, .unset] [(.long (((q3 + ln) - q4) - ln))])) _
            refine XS.lconst X76.here hx rfl (hb hby at_54) ?_
            show Steps p.tables e below (T76.setTop (mkF m 55 #[.val (.int p0), .val (.long q1), .second, .val (.long q2), .second, .val (.long q3), .second, .val (.long q4), .second, .val (.ref b1), .val (.long ln), .second, .val (.int (1 : Int32)), .val (.int (1 : Int32)), .val (.int (1 : Int32)), .unset, .unset, .unset] [(.long (0 : Int64)), (.long (((q3 + ln) - q4) - ln))])) _
            refine XS.lcmp X76.here hx rfl (hb hby at_55) rfl ?_
            show Steps p.tables e below (T76.setTop (mkF m 56 #[.val (.int p0), .val (.long q1), .second, .val (.long q2), .second, .val (.long q3), .second, .val (.long q4), .second, .val (.ref b1), .val (.long ln), .second, .val (.int (1 : Int32)), .val (.int (1 : Int32)), .val (.int (1 : Int32)), .unset, .unset, .unset] [(.int (lcmpW (((q3 + ln) - q4) - ln) (0 : Int64)))])) _
            refine XS.ifNo X76.here hx rfl (hb hby at_56) rfl ((if0 _ _).trans (tlt ((lw_gt _ _).mpr (own_s1 _ _ _ ▸ hs72))).2.2.2) ?_
            show Steps p.tables e below (T76.setTop (mkF m 59 #[.val (.int p0), .val (.long q1), .second, .val (.long q2), .second, .val (.long q3), .second, .val (.long q4), .second, .val (.ref b1), .val (.long ln), .second, .val (.int (1 : Int32)), .val (.int (1 : Int32)), .val (.int (1 : Int32)), .unset, .unset, .unset] [])) _
            refine XS.iconst X76.here hx rfl (hb hby at_59) ?_
            show Steps p.tables e below (T76.setTop (mkF m 60 #[.val (.int p0), .val (.long q1), .second, .val (.long q2), .second, .val (.long q3), .second, .val (.long q4), .second, .val (.ref b1), .val (.long ln), .second, .val (.int (1 : Int32)), .val (.int (1 : Int32)), .val (.int (1 : Int32)), .unset, .unset, .unset] [(.int (1 : Int32))])) _
            refine XS.goto X76.here hx rfl (pc0 := 60) (pc' := 64) rfl (hb hby at_60) (by decide) (by decide) ?_
            show Steps p.tables e below (T76.setTop (mkF m 64 #[.val (.int p0), .val (.long q1), .second, .val (.long q2), .second, .val (.long q3), .second, .val (.long q4), .second, .val (.ref b1), .val (.long ln), .second, .val (.int (1 : Int32)), .val (.int (1 : Int32)), .val (.int (1 : Int32)), .unset, .unset, .unset] [(.int (1 : Int32))])) _
            refine XS.istore X76.here hx rfl (hb hby at_64) rfl (l' := #[.val (.int p0), .val (.long q1), .second, .val (.long q2), .second, .val (.long q3), .second, .val (.long q4), .second, .val (.ref b1), .val (.long ln), .second, .val (.int (1 : Int32)), .val (.int (1 : Int32)), .val (.int (1 : Int32)), .val (.int (1 : Int32)), .unset, .unset]) rfl ?_
            show Steps p.tables e below (T76.setTop (mkF m 66 #[.val (.int p0), .val (.long q1), .second, .val (.long q2), .second, .val (.long q3), .second, .val (.long q4), .second, .val (.ref b1), .val (.long ln), .second, .val (.int (1 : Int32)), .val (.int (1 : Int32)), .val (.int (1 : Int32)), .val (.int (1 : Int32)), .unset, .unset] [])) _
            refine XS.iload X76.here hx rfl (hb hby at_66) rfl ?_
            show Steps p.tables e below (T76.setTop (mkF m 68 #[.val (.int p0), .val (.long q1), .second, .val (.long q2), .second, .val (.long q3), .second, .val (.long q4), .second, .val (.ref b1), .val (.long ln), .second, .val (.int (1 : Int32)), .val (.int (1 : Int32)), .val (.int (1 : Int32)), .val (.int (1 : Int32)), .unset, .unset] [(.int (1 : Int32))])) _
            refine XS.iload X76.here hx rfl (hb hby at_68) rfl ?_
            show Steps p.tables e below (T76.setTop (mkF m 70 #[.val (.int p0), .val (.long q1), .second, .val (.long q2), .second, .val (.long q3), .second, .val (.long q4), .second, .val (.ref b1), .val (.long ln), .second, .val (.int (1 : Int32)), .val (.int (1 : Int32)), .val (.int (1 : Int32)), .val (.int (1 : Int32)), .unset, .unset] [(.int (1 : Int32)), (.int (1 : Int32))])) _
            refine XS.icmpYes X76.here hx rfl (pc0 := 70) (pc' := 75) rfl (hb hby at_70) rfl (teq (rfl : (1 : Int32) = (1 : Int32))).1 (by decide) (by decide) ?_
            show Steps p.tables e below (T76.setTop (mkF m 75 #[.val (.int p0), .val (.long q1), .second, .val (.long q2), .second, .val (.long q3), .second, .val (.long q4), .second, .val (.ref b1), .val (.long ln), .second, .val (.int (1 : Int32)), .val (.int (1 : Int32)), .val (.int (1 : Int32)), .val (.int (1 : Int32)), .unset, .unset] [])) _
            refine XS.iload X76.here hx rfl (hb hby at_75) rfl ?_
            show Steps p.tables e below (T76.setTop (mkF m 77 #[.val (.int p0), .val (.long q1), .second, .val (.long q2), .second, .val (.long q3), .second, .val (.long q4), .second, .val (.ref b1), .val (.long ln), .second, .val (.int (1 : Int32)), .val (.int (1 : Int32)), .val (.int (1 : Int32)), .val (.int (1 : Int32)), .unset, .unset] [(.int (1 : Int32))])) _
            refine XS.ifYes X76.here hx rfl (pc0 := 77) (pc' := 87) rfl (hb hby at_77) rfl ((if0 _ _).trans (feq (by decide : ¬ ((1 : Int32) = (0 : Int32)))).2) (by decide) (by decide) ?_
            show Steps p.tables e below (T76.setTop (mkF m 87 #[.val (.int p0), .val (.long q1), .second, .val (.long q2), .second, .val (.long q3), .second, .val (.long q4), .second, .val (.ref b1), .val (.long ln), .second, .val (.int (1 : Int32)), .val (.int (1 : Int32)), .val (.int (1 : Int32)), .val (.int (1 : Int32)), .unset, .unset] [])) _
            refine XS.iload X76.here hx rfl (hb hby at_87) rfl ?_
            show Steps p.tables e below (T76.setTop (mkF m 89 #[.val (.int p0), .val (.long q1), .second, .val (.long q2), .second, .val (.long q3), .second, .val (.long q4), .second, .val (.ref b1), .val (.long ln), .second, .val (.int (1 : Int32)), .val (.int (1 : Int32)), .val (.int (1 : Int32)), .val (.int (1 : Int32)), .unset, .unset] [(.int (1 : Int32))])) _
            refine XS.ifNo X76.here hx rfl (hb hby at_89) rfl ((if0 _ _).trans (feq (by decide : ¬ ((1 : Int32) = (0 : Int32)))).1) ?_
            show Steps p.tables e below (T76.setTop (mkF m 92 #[.val (.int p0), .val (.long q1), .second, .val (.long q2), .second, .val (.long q3), .second, .val (.long q4), .second, .val (.ref b1), .val (.long ln), .second, .val (.int (1 : Int32)), .val (.int (1 : Int32)), .val (.int (1 : Int32)), .val (.int (1 : Int32)), .unset, .unset] [])) _
            refine XS.lload X76.here hx rfl (hb hby at_92) rfl ?_
            show Steps p.tables e below (T76.setTop (mkF m 94 #[.val (.int p0), .val (.long q1), .second, .val (.long q2), .second, .val (.long q3), .second, .val (.long q4), .second, .val (.ref b1), .val (.long ln), .second, .val (.int (1 : Int32)), .val (.int (1 : Int32)), .val (.int (1 : Int32)), .val (.int (1 : Int32)), .unset, .unset] [(.long q3)])) _
            refine XS.goto X76.here hx rfl (pc0 := 94) (pc' := 98) rfl (hb hby at_94) (by decide) (by decide) ?_
            show Steps p.tables e below (T76.setTop (mkF m 98 #[.val (.int p0), .val (.long q1), .second, .val (.long q2), .second, .val (.long q3), .second, .val (.long q4), .second, .val (.ref b1), .val (.long ln), .second, .val (.int (1 : Int32)), .val (.int (1 : Int32)), .val (.int (1 : Int32)), .val (.int (1 : Int32)), .unset, .unset] [(.long q3)])) _
            refine XS.lstore X76.here hx rfl (hb hby at_98) rfl (l' := #[.val (.int p0), .val (.long q1), .second, .val (.long q2), .second, .val (.long q3), .second, .val (.long q4), .second, .val (.ref b1), .val (.long ln), .second, .val (.int (1 : Int32)), .val (.int (1 : Int32)), .val (.int (1 : Int32)), .val (.int (1 : Int32)), .val (.long q3), .second]) rfl ?_
            show Steps p.tables e below (T76.setTop (mkF m 100 #[.val (.int p0), .val (.long q1), .second, .val (.long q2), .second, .val (.long q3), .second, .val (.long q4), .second, .val (.ref b1), .val (.long ln), .second, .val (.int (1 : Int32)), .val (.int (1 : Int32)), .val (.int (1 : Int32)), .val (.int (1 : Int32)), .val (.long q3), .second] [])) _
            refine XS.iload X76.here hx rfl (hb hby at_100) rfl ?_
            show Steps p.tables e below (T76.setTop (mkF m 102 #[.val (.int p0), .val (.long q1), .second, .val (.long q2), .second, .val (.long q3), .second, .val (.long q4), .second, .val (.ref b1), .val (.long ln), .second, .val (.int (1 : Int32)), .val (.int (1 : Int32)), .val (.int (1 : Int32)), .val (.int (1 : Int32)), .val (.long q3), .second] [(.int (1 : Int32))])) _
            refine XS.lload X76.here hx rfl (hb hby at_102) rfl ?_
            show Steps p.tables e below (T76.setTop (mkF m 104 #[.val (.int p0), .val (.long q1), .second, .val (.long q2), .second, .val (.long q3), .second, .val (.long q4), .second, .val (.ref b1), .val (.long ln), .second, .val (.int (1 : Int32)), .val (.int (1 : Int32)), .val (.int (1 : Int32)), .val (.int (1 : Int32)), .val (.long q3), .second] [(.long q3), (.int (1 : Int32))])) _
            refine XS.lload X76.here hx rfl (hb hby at_104) rfl ?_
            show Steps p.tables e below (T76.setTop (mkF m 106 #[.val (.int p0), .val (.long q1), .second, .val (.long q2), .second, .val (.long q3), .second, .val (.long q4), .second, .val (.ref b1), .val (.long ln), .second, .val (.int (1 : Int32)), .val (.int (1 : Int32)), .val (.int (1 : Int32)), .val (.int (1 : Int32)), .val (.long q3), .second] [(.long q4), (.long q3), (.int (1 : Int32))])) _
            refine XS.lsub X76.here hx rfl (hb hby at_106) rfl ?_
            show Steps p.tables e below (T76.setTop (mkF m 107 #[.val (.int p0), .val (.long q1), .second, .val (.long q2), .second, .val (.long q3), .second, .val (.long q4), .second, .val (.ref b1), .val (.long ln), .second, .val (.int (1 : Int32)), .val (.int (1 : Int32)), .val (.int (1 : Int32)), .val (.int (1 : Int32)), .val (.long q3), .second] [(.long (q3 - q4)), (.int (1 : Int32))])) _
            refine XS.lconst X76.here hx rfl (hb hby at_107) ?_
            show Steps p.tables e below (T76.setTop (mkF m 108 #[.val (.int p0), .val (.long q1), .second, .val (.long q2), .second, .val (.long q3), .second, .val (.long q4), .second, .val (.ref b1), .val (.long ln), .second, .val (.int (1 : Int32)), .val (.int (1 : Int32)), .val (.int (1 : Int32)), .val (.int (1 : Int32)), .val (.long q3), .second] [(.long (0 : Int64)), (.long (q3 - q4)), (.int (1 : Int32))])) _
            refine XS.lcmp X76.here hx rfl (hb hby at_108) rfl ?_
            show Steps p.tables e below (T76.setTop (mkF m 109 #[.val (.int p0), .val (.long q1), .second, .val (.long q2), .second, .val (.long q3), .second, .val (.long q4), .second, .val (.ref b1), .val (.long ln), .second, .val (.int (1 : Int32)), .val (.int (1 : Int32)), .val (.int (1 : Int32)), .val (.int (1 : Int32)), .val (.long q3), .second] [(.int (lcmpW (q3 - q4) (0 : Int64))), (.int (1 : Int32))])) _
            refine XS.ifNo X76.here hx rfl (hb hby at_109) rfl ((if0 _ _).trans (tlt ((lw_gt _ _).mpr (own_s2 _ _ _ ▸ hs72))).2.2.2) ?_
            show Steps p.tables e below (T76.setTop (mkF m 112 #[.val (.int p0), .val (.long q1), .second, .val (.long q2), .second, .val (.long q3), .second, .val (.long q4), .second, .val (.ref b1), .val (.long ln), .second, .val (.int (1 : Int32)), .val (.int (1 : Int32)), .val (.int (1 : Int32)), .val (.int (1 : Int32)), .val (.long q3), .second] [(.int (1 : Int32))])) _
            refine XS.iconst X76.here hx rfl (hb hby at_112) ?_
            show Steps p.tables e below (T76.setTop (mkF m 113 #[.val (.int p0), .val (.long q1), .second, .val (.long q2), .second, .val (.long q3), .second, .val (.long q4), .second, .val (.ref b1), .val (.long ln), .second, .val (.int (1 : Int32)), .val (.int (1 : Int32)), .val (.int (1 : Int32)), .val (.int (1 : Int32)), .val (.long q3), .second] [(.int (1 : Int32)), (.int (1 : Int32))])) _
            refine XS.goto X76.here hx rfl (pc0 := 113) (pc' := 117) rfl (hb hby at_113) (by decide) (by decide) ?_
            show Steps p.tables e below (T76.setTop (mkF m 117 #[.val (.int p0), .val (.long q1), .second, .val (.long q2), .second, .val (.long q3), .second, .val (.long q4), .second, .val (.ref b1), .val (.long ln), .second, .val (.int (1 : Int32)), .val (.int (1 : Int32)), .val (.int (1 : Int32)), .val (.int (1 : Int32)), .val (.long q3), .second] [(.int (1 : Int32)), (.int (1 : Int32))])) _
            refine XS.icmpYes X76.here hx rfl (pc0 := 117) (pc' := 122) rfl (hb hby at_117) rfl (teq (rfl : (1 : Int32) = (1 : Int32))).1 (by decide) (by decide) ?_
            show Steps p.tables e below (T76.setTop (mkF m 122 #[.val (.int p0), .val (.long q1), .second, .val (.long q2), .second, .val (.long q3), .second, .val (.long q4), .second, .val (.ref b1), .val (.long ln), .second, .val (.int (1 : Int32)), .val (.int (1 : Int32)), .val (.int (1 : Int32)), .val (.int (1 : Int32)), .val (.long q3), .second] [])) _
            refine XS.aload X76.here hx rfl (hb hby at_122) rfl rfl ?_
            show Steps p.tables e below (T76.setTop (mkF m 124 #[.val (.int p0), .val (.long q1), .second, .val (.long q2), .second, .val (.long q3), .second, .val (.long q4), .second, .val (.ref b1), .val (.long ln), .second, .val (.int (1 : Int32)), .val (.int (1 : Int32)), .val (.int (1 : Int32)), .val (.int (1 : Int32)), .val (.long q3), .second] [(.ref b1)])) _
            refine XS.lload X76.here hx rfl (hb hby at_124) rfl ?_
            show Steps p.tables e below (T76.setTop (mkF m 126 #[.val (.int p0), .val (.long q1), .second, .val (.long q2), .second, .val (.long q3), .second, .val (.long q4), .second, .val (.ref b1), .val (.long ln), .second, .val (.int (1 : Int32)), .val (.int (1 : Int32)), .val (.int (1 : Int32)), .val (.int (1 : Int32)), .val (.long q3), .second] [(.long q3), (.ref b1)])) _
            refine st77.trans ?_
            exact kt)
        obtain rfl : (0 : Int32) = r78 := Pr78.2 (own_s3 _ _)
        obtain ⟨cq80, kq80, q80a, q80b, q80c⟩ := isOf hZ e77 c55_1
        obtain ⟨_, _, ⟨T80, L80, k80, n80⟩, -, X80, ⟨Lc80, hQ80, l80, y80, z80⟩, st80⟩ := X77.virtualBack hx (y := (⟨"com/example/cluster_log/clusterlog/Lease", "answeredSince", "(J)Z"⟩ : MethodName)) (z := (⟨"com/example/cluster_log/clusterlog/Lease", "answeredSince", "(J)Z"⟩ : MethodName)) hown (mvT hZ (hw _ (List.mem_of_getElem? (i := 42) rfl))) (mvT hZ (hw _ (List.mem_of_getElem? (i := 43) rfl))) (notFace_of_selects (args := #[]) (mvT hZ (hw _ (List.mem_of_getElem? (i := 45) rfl)))) (mvT hZ (hw _ (List.mem_of_getElem? (i := 45) rfl))) (mvT hZ (hw _ (List.mem_of_getElem? (i := 44) rfl))) (by decide) (backOf (W := 0) (rm7 l Z aw hw [] b1 (q3 - (1 : Int64)) ln (q3 + ln) T55.heap n0 (Nat.le_trans (Nat.le_trans (Nat.le_trans (Nat.le_trans Z0 E1.1) c17_0.1) c37_0.1) c55_0.1) c55_3 c55_2) hZ (hw _ (List.mem_of_getElem? (i := 46) rfl)) (hw _ (List.mem_of_getElem? (i := 2) rfl)) (by decide) (by decide)) q80a q80c (g := (mkF m 140 #[.val (.int p0), .val (.long q1), .second, .val (.long q2), .second, .val (.long q3), .second, .val (.long q4), .second, .val (.ref b1), .val (.long ln), .second, .val (.int (1 : Int32)), .val (.int (1 : Int32)), .val (.int (1 : Int32)), .val (.int (1 : Int32)), .val (.long q3), .second] [(.long (q3 - (1 : Int64))), (.ref b1)])) rfl (by rw [hml]; rfl) (Steps.refl _) (argsL := [(.long (q3 - (1 : Int64)))]) (rest := []) (lenOf pd_4 rfl) rfl (by show 2 * 0 + _ ≤ _; exact Nat.le_of_eq rfl) (hb hby at_140) (fun _ _ => ⟨rfl, e77, (by decide : 1 + 0 ≤ _), (by decide : 3 + 0 ≤ _)⟩)
        dsimp only [Pt.U, Pt.locs, Pt.cells, Pt.slots] at X80 l80 y80 z80 st80 hQ80
        subst l80 y80 z80
        obtain ⟨⟨r81, rfl, Pr81⟩, Nq80, e80⟩ := hQ80
        have N80 := Fr.app N77 Nq80
        have pre82 : ∀ t, Steps p.tables e below (T80.setTop (mkF m 143 #[.val (.int p0), .val (.long q1), .second, .val (.long q2), .second, .val (.long q3), .second, .val (.long q4), .second, .val (.ref b1), .val (.long ln), .second, .val (.int (1 : Int32)), .val (.int (1 : Int32)), .val (.int (1 : Int32)), .val (.int (1 : Int32)), .val (.long q3), .second] [(.int r81)])) t → Steps p.tables e below (s₁.setTop (entryFrame m #[(.int p0), (.long q1), (.long q2), (.long q3), (.long q4)] maxLocals)) t := fun t kt => pre79 t (by
            show Steps p.tables e below (T77.setTop (mkF m 129 #[.val (.int p0), .val (.long q1), .second, .val (.long q2), .second, .val (.long q3), .second, .val (.long q4), .second, .val (.ref b1), .val (.long ln), .second, .val (.int (1 : Int32)), .val (.int (1 : Int32)), .val (.int (1 : Int32)), .val (.int (1 : Int32)), .val (.long q3), .second] [(.int (0 : Int32))])) _
            refine XS.ifYes X77.here hx rfl (pc0 := 129) (pc' := 134) rfl (hb hby at_129) rfl ((if0 _ _).trans (teq (rfl : (0 : Int32) = (0 : Int32))).1) (by decide) (by decide) ?_
            show Steps p.tables e below (T77.setTop (mkF m 134 #[.val (.int p0), .val (.long q1), .second, .val (.long q2), .second, .val (.long q3), .second, .val (.long q4), .second, .val (.ref b1), .val (.long ln), .second, .val (.int (1 : Int32)), .val (.int (1 : Int32)), .val (.int (1 : Int32)), .val (.int (1 : Int32)), .val (.long q3), .second] [])) _
            refine XS.aload X77.here hx rfl (hb hby at_134) rfl rfl ?_
            show Steps p.tables e below (T77.setTop (mkF m 136 #[.val (.int p0), .val (.long q1), .second, .val (.long q2), .second, .val (.long q3), .second, .val (.long q4), .second, .val (.ref b1), .val (.long ln), .second, .val (.int (1 : Int32)), .val (.int (1 : Int32)), .val (.int (1 : Int32)), .val (.int (1 : Int32)), .val (.long q3), .second] [(.ref b1)])) _
            refine XS.lload X77.here hx rfl (hb hby at_136) rfl ?_
            show Steps p.tables e below (T77.setTop (mkF m 138 #[.val (.int p0), .val (.long q1), .second, .val (.long q2), .second, .val (.long q3), .second, .val (.long q4), .second, .val (.ref b1), .val (.long ln), .second, .val (.int (1 : Int32)), .val (.int (1 : Int32)), .val (.int (1 : Int32)), .val (.int (1 : Int32)), .val (.long q3), .second] [(.long q3), (.ref b1)])) _
            refine XS.lconst X77.here hx rfl (hb hby at_138) ?_
            show Steps p.tables e below (T77.setTop (mkF m 139 #[.val (.int p0), .val (.long q1), .second, .val (.long q2), .second, .val (.long q3), .second, .val (.long q4), .second, .val (.ref b1), .val (.long ln), .second, .val (.int (1 : Int32)), .val (.int (1 : Int32)), .val (.int (1 : Int32)), .val (.int (1 : Int32)), .val (.long q3), .second] [(.long (1 : Int64)), (.long q3), (.ref b1)])) _
            refine XS.lsub X77.here hx rfl (hb hby at_139) rfl ?_
            show Steps p.tables e below (T77.setTop (mkF m 140 #[.val (.int p0), .val (.long q1), .second, .val (.long q2), .second, .val (.long q3), .second, .val (.long q4), .second, .val (.ref b1), .val (.long ln), .second, .val (.int (1 : Int32)), .val (.int (1 : Int32)), .val (.int (1 : Int32)), .val (.int (1 : Int32)), .val (.long q3), .second] [(.long (q3 - (1 : Int64))), (.ref b1)])) _
            refine st80.trans ?_
            exact kt)
        obtain rfl : (1 : Int32) = r81 := Pr81.1 (own_s4 _ _)
        obtain ⟨fs, hr, hrun, hended, hW, hsame⟩ := X80.leave (v := some (.int (1 : Int32))) (fun h => by rw [Bd.returns] at h; cases h)
        refine ⟨_, _, pre82 _ ?_, hrun, hended, _, _, rfl, ?_, ⟨_, rfl⟩, hW, hsame.mono (by decide) (by decide)⟩
        · show Steps p.tables e below (T80.setTop (mkF m 143 #[.val (.int p0), .val (.long q1), .second, .val (.long q2), .second, .val (.long q3), .second, .val (.long q4), .second, .val (.ref b1), .val (.long ln), .second, .val (.int (1 : Int32)), .val (.int (1 : Int32)), .val (.int (1 : Int32)), .val (.int (1 : Int32)), .val (.long q3), .second] [(.int (1 : Int32))])) _
          exact retN X80 hx (t := .boolean) Bd.returns (by simp) (hb hby at_143) hr
        · show Q0 Z _ _ _ _ _ _ _ h0 n0 _ T80.heap _
          rw [e80]
          exact ⟨rfl, N80, trivial⟩
      · skip
        obtain ⟨cq83, kq83, q83a, q83b, q83c⟩ := isOf hZ rfl c55_1
        obtain ⟨_, _, ⟨T83, L83, k83, n83⟩, -, X83, ⟨Lc83, hQ83, l83, y83, z83⟩, st83⟩ := X55.virtualBack hx (y := (⟨"com/example/cluster_log/clusterlog/Lease", "answeredSince", "(J)Z"⟩ : MethodName)) (z := (⟨"com/example/cluster_log/clusterlog/Lease", "answeredSince", "(J)Z"⟩ : MethodName)) hown (mvT hZ (hw _ (List.mem_of_getElem? (i := 42) rfl))) (mvT hZ (hw _ (List.mem_of_getElem? (i := 43) rfl))) (notFace_of_selects (args := #[]) (mvT hZ (hw _ (List.mem_of_getElem? (i := 45) rfl)))) (mvT hZ (hw _ (List.mem_of_getElem? (i := 45) rfl))) (mvT hZ (hw _ (List.mem_of_getElem? (i := 44) rfl))) (by decide) (backOf (W := 0) (rm7 l Z aw hw [] b1 q4 ln (q3 + ln) T55.heap n0 (Nat.le_trans (Nat.le_trans (Nat.le_trans (Nat.le_trans Z0 E1.1) c17_0.1) c37_0.1) c55_0.1) c55_3 c55_2) hZ (hw _ (List.mem_of_getElem? (i := 46) rfl)) (hw _ (List.mem_of_getElem? (i := 2) rfl)) (by decide) (by decide)) q83a q83c (g := (mkF m 39 #[.val (.int p0), .val (.long q1), .second, .val (.long q2), .second, .val (.long q3), .second, .val (.long q4), .second, .val (.ref b1), .val (.long ln), .second, .val (.int (1 : Int32)), .val (.int (1 : Int32)), .unset, .unset, .unset, .unset] [(.long q4), (.ref b1)])) rfl (by rw [hml]; rfl) (Steps.refl _) (argsL := [(.long q4)]) (rest := []) (lenOf pd_4 rfl) rfl (by show 2 * 0 + _ ≤ _; exact Nat.le_of_eq rfl) (hb hby at_39) (fun _ _ => ⟨rfl, rfl, (by decide : 1 + 0 ≤ _), (by decide : 3 + 0 ≤ _)⟩)
        dsimp only [Pt.U, Pt.locs, Pt.cells, Pt.slots] at X83 l83 y83 z83 st83 hQ83
        subst l83 y83 z83
        obtain ⟨⟨r84, rfl, Pr84⟩, Nq83, e83⟩ := hQ83
        have N83 := Fr.app N55 Nq83
        have pre85 : ∀ t, Steps p.tables e below (T83.setTop (mkF m 42 #[.val (.int p0), .val (.long q1), .second, .val (.long q2), .second, .val (.long q3), .second, .val (.long q4), .second, .val (.ref b1), .val (.long ln), .second, .val (.int (1 : Int32)), .val (.int (1 : Int32)), .unset, .unset, .unset, .unset] [(.int r84)])) t → Steps p.tables e below (s₁.setTop (entryFrame m #[(.int p0), (.long q1), (.long q2), (.long q3), (.long q4)] maxLocals)) t := fun t kt => pre71 t (by
            show Steps p.tables e below (T55.setTop (mkF m 39 #[.val (.int p0), .val (.long q1), .second, .val (.long q2), .second, .val (.long q3), .second, .val (.long q4), .second, .val (.ref b1), .val (.long ln), .second, .val (.int (1 : Int32)), .val (.int (1 : Int32)), .unset, .unset, .unset, .unset] [(.long q4), (.ref b1)])) _
            refine st83.trans ?_
            exact kt)
        obtain rfl : (0 : Int32) = r84 := Pr84.2 hs72
        obtain ⟨cq86, kq86, q86a, q86b, q86c⟩ := isOf hZ e83 c55_1
        obtain ⟨_, _, ⟨T86, L86, k86, n86⟩, -, X86, ⟨Lc86, hQ86, l86, y86, z86⟩, st86⟩ := X83.virtualBack hx (y := (⟨"com/example/cluster_log/clusterlog/Lease", "left", "(J)J"⟩ : MethodName)) (z := (⟨"com/example/cluster_log/clusterlog/Lease", "left", "(J)J"⟩ : MethodName)) hown (mvT hZ (hw _ (List.mem_of_getElem? (i := 47) rfl))) (mvT hZ (hw _ (List.mem_of_getElem? (i := 48) rfl))) (notFace_of_selects (args := #[]) (mvT hZ (hw _ (List.mem_of_getElem? (i := 50) rfl)))) (mvT hZ (hw _ (List.mem_of_getElem? (i := 50) rfl))) (mvT hZ (hw _ (List.mem_of_getElem? (i := 49) rfl))) (by decide) (backOf (W := 0) (rm8 l Z aw hw [] b1 q4 (q3 + ln) T55.heap n0 (Nat.le_trans (Nat.le_trans (Nat.le_trans (Nat.le_trans Z0 E1.1) c17_0.1) c37_0.1) c55_0.1) c55_3) hZ (hw _ (List.mem_of_getElem? (i := 51) rfl)) (hw _ (List.mem_of_getElem? (i := 2) rfl)) (by decide) (by decide)) q86a q86c (g := (mkF m 48 #[.val (.int p0), .val (.long q1), .second, .val (.long q2), .second, .val (.long q3), .second, .val (.long q4), .second, .val (.ref b1), .val (.long ln), .second, .val (.int (1 : Int32)), .val (.int (1 : Int32)), .val (.int (0 : Int32)), .unset, .unset, .unset] [(.long q4), (.ref b1)])) rfl (by rw [hml]; rfl) (Steps.refl _) (argsL := [(.long q4)]) (rest := []) (lenOf pd_0 rfl) rfl (by show 2 * 0 + _ ≤ _; exact Nat.le_of_eq rfl) (hb hby at_48) (fun _ _ => ⟨rfl, e83, (by decide : 1 + 0 ≤ _), (by decide : 3 + 0 ≤ _)⟩)
        dsimp only [Pt.U, Pt.locs, Pt.cells, Pt.slots] at X86 l86 y86 z86 st86 hQ86
        subst l86 y86 z86
        obtain ⟨rfl, Nq86, e86⟩ := hQ86
        have N86 := Fr.app N83 Nq86
        obtain ⟨cq87, kq87, q87a, q87b, q87c⟩ := isOf hZ e86 c55_1
        obtain ⟨_, _, ⟨T87, L87, k87, n87⟩, -, X87, ⟨Lc87, hQ87, l87, y87, z87⟩, st87⟩ := X86.virtualBack hx (y := (⟨"com/example/cluster_log/clusterlog/Lease", "answeredSince", "(J)Z"⟩ : MethodName)) (z := (⟨"com/example/cluster_log/clusterlog/Lease", "answeredSince", "(J)Z"⟩ : MethodName)) hown (mvT hZ (hw _ (List.mem_of_getElem? (i := 42) rfl))) (mvT hZ (hw _ (List.mem_of_getElem? (i := 43) rfl))) (notFace_of_selects (args := #[]) (mvT hZ (hw _ (List.mem_of_getElem? (i := 45) rfl)))) (mvT hZ (hw _ (List.mem_of_getElem? (i := 45) rfl))) (mvT hZ (hw _ (List.mem_of_getElem? (i := 44) rfl))) (by decide) (backOf (W := 0) (rm7 l Z aw hw [] b1 q3 ln (q3 + ln) T55.heap n0 (Nat.le_trans (Nat.le_trans (Nat.le_trans (Nat.le_trans Z0 E1.1) c17_0.1) c37_0.1) c55_0.1) c55_3 c55_2) hZ (hw _ (List.mem_of_getElem? (i := 46) rfl)) (hw _ (List.mem_of_getElem? (i := 2) rfl)) (by decide) (by decide)) q87a q87c (g := (mkF m 126 #[.val (.int p0), .val (.long q1), .second, .val (.long q2), .second, .val (.long q3), .second, .val (.long q4), .second, .val (.ref b1), .val (.long ln), .second, .val (.int (1 : Int32)), .val (.int (1 : Int32)), .val (.int (0 : Int32)), .val (.int (0 : Int32)), .val (.long q3), .second] [(.long q3), (.ref b1)])) rfl (by rw [hml]; rfl) (Steps.refl _) (argsL := [(.long q3)]) (rest := []) (lenOf pd_4 rfl) rfl (by show 2 * 0 + _ ≤ _; exact Nat.le_of_eq rfl) (hb hby at_126) (fun _ _ => ⟨rfl, e86, (by decide : 1 + 0 ≤ _), (by decide : 3 + 0 ≤ _)⟩)
        dsimp only [Pt.U, Pt.locs, Pt.cells, Pt.slots] at X87 l87 y87 z87 st87 hQ87
        subst l87 y87 z87
        obtain ⟨⟨r88, rfl, Pr88⟩, Nq87, e87⟩ := hQ87
        have N87 := Fr.app N86 Nq87
        have pre89 : ∀ t, Steps p.tables e below (T87.setTop (mkF m 129 #[.val (.int p0), .val (.long q1), .second, .val (.long q2), .second, .val (.long q3), .second, .val (.long q4), .second, .val (.ref b1), .val (.long ln), .second, .val (.int (1 : Int32)), .val (.int (1 : Int32)), .val (.int (0 : Int32)), .val (.int (0 : Int32)), .val (.long q3), .second] [(.int r88)])) t → Steps p.tables e below (s₁.setTop (entryFrame m #[(.int p0), (.long q1), (.long q2), (.long q3), (.long q4)] maxLocals)) t := fun t kt => pre85 t (by
            show Steps p.tables e below (T83.setTop (mkF m 42 #[.val (.int p0), .val (.long q1), .second, .val (.long q2), .second, .val (.long q3), .second, .val (.long q4), .second, .val (.ref b1), .val (.long ln), .second, .val (.int (1 : Int32)), .val (.int (1 : Int32)), .unset, .unset, .unset, .unset] [(.int (0 : Int32))])) _
            refine XS.istore X83.here hx rfl (hb hby at_42) rfl (l' := #[.val (.int p0), .val (.long q1), .second, .val (.long q2), .second, .val (.long q3), .second, .val (.long q4), .second, .val (.ref b1), .val (.long ln), .second, .val (.int (1 : Int32)), .val (.int (1 : Int32)), .val (.int (0 : Int32)), .unset, .unset, .unset]) rfl ?_
            show Steps p.tables e below (T83.setTop (mkF m 44 #[.val (.int p0), .val (.long q1), .second, .val (.long q2), .second, .val (.long q3), .second, .val (.long q4), .second, .val (.ref b1), .val (.long ln), .second, .val (.int (1 : Int32)), .val (.int (1 : Int32)), .val (.int (0 : Int32)), .unset, .unset, .unset] [])) _
            refine XS.aload X83.here hx rfl (hb hby at_44) rfl rfl ?_
            show Steps p.tables e below (T83.setTop (mkF m 46 #[.val (.int p0), .val (.long q1), .second, .val (.long q2), .second, .val (.long q3), .second, .val (.long q4), .second, .val (.ref b1), .val (.long ln), .second, .val (.int (1 : Int32)), .val (.int (1 : Int32)), .val (.int (0 : Int32)), .unset, .unset, .unset] [(.ref b1)])) _
            refine XS.lload X83.here hx rfl (hb hby at_46) rfl ?_
            show Steps p.tables e below (T83.setTop (mkF m 48 #[.val (.int p0), .val (.long q1), .second, .val (.long q2), .second, .val (.long q3), .second, .val (.long q4), .second, .val (.ref b1), .val (.long ln), .second, .val (.int (1 : Int32)), .val (.int (1 : Int32)), .val (.int (0 : Int32)), .unset, .unset, .unset] [(.long q4), (.ref b1)])) _
            refine st86.trans ?_
            show Steps p.tables e below (T86.setTop (mkF m 51 #[.val (.int p0), .val (.long q1), .second, .val (.long q2), .second, .val (.long q3), .second, .val (.long q4), .second, .val (.ref b1), .val (.long ln), .second, .val (.int (1 : Int32)), .val (.int (1 : Int32)), .val (.int (0 : Int32)), .unset, .unset, .unset] [(.long ((q3 + ln) - q4))])) _
            refine XS.lload X86.here hx rfl (hb hby at_51) rfl ?_
            show Steps p.tables e below (T86.setTop (mkF m 53 #[.val (.int p0), .val (.long q1), .second, .val (.long q2), .second, .val (.long q3), .second, .val (.long q4), .second, .val (.ref b1), .val (.long ln), .second, .val (.int (1 : Int32)), .val (.int (1 : Int32)), .val (.int (0 : Int32)), .unset, .unset, .unset] [(.long ln), (.long ((q3 + ln) - q4))])) _
            refine XS.lsub X86.here hx rfl (hb hby at_53) rfl ?_
            show Steps p.tables e below (T86.setTop (mkF m 54 #[.val (.int p0), .val (.long q1), .second, .val (.long q2), .second, .val (.long q3), .second, .val (.long q4), .second, .val (.ref b1), .val (.long ln), .second, .val (.int (1 : Int32)), .val (.int (1 : Int32)), .val (.int (0 : Int32)), .unset, .unset, .unset] [(.long (((q3 + ln) - q4) - ln))])) _
            refine XS.lconst X86.here hx rfl (hb hby at_54) ?_
            show Steps p.tables e below (T86.setTop (mkF m 55 #[.val (.int p0), .val (.long q1), .second, .val (.long q2), .second, .val (.long q3), .second, .val (.long q4), .second, .val (.ref b1), .val (.long ln), .second, .val (.int (1 : Int32)), .val (.int (1 : Int32)), .val (.int (0 : Int32)), .unset, .unset, .unset] [(.long (0 : Int64)), (.long (((q3 + ln) - q4) - ln))])) _
            refine XS.lcmp X86.here hx rfl (hb hby at_55) rfl ?_
            show Steps p.tables e below (T86.setTop (mkF m 56 #[.val (.int p0), .val (.long q1), .second, .val (.long q2), .second, .val (.long q3), .second, .val (.long q4), .second, .val (.ref b1), .val (.long ln), .second, .val (.int (1 : Int32)), .val (.int (1 : Int32)), .val (.int (0 : Int32)), .unset, .unset, .unset] [(.int (lcmpW (((q3 + ln) - q4) - ln) (0 : Int64)))])) _
            refine XS.ifYes X86.here hx rfl (pc0 := 56) (pc' := 63) rfl (hb hby at_56) rfl ((if0 _ _).trans (flt (fun z => hs72 (own_s1 _ _ _ ▸ (lw_gt _ _).mp z))).2.2.2) (by decide) (by decide) ?_
            show Steps p.tables e below (T86.setTop (mkF m 63 #[.val (.int p0), .val (.long q1), .second, .val (.long q2), .second, .val (.long q3), .second, .val (.long q4), .second, .val (.ref b1), .val (.long ln), .second, .val (.int (1 : Int32)), .val (.int (1 : Int32)), .val (.int (0 : Int32)), .unset, .unset, .unset] [])) _
            refine XS.iconst X86.here hx rfl (hb hby at_63) ?_
            show Steps p.tables e below (T86.setTop (mkF m 64 #[.val (.int p0), .val (.long q1), .second, .val (.long q2), .second, .val (.long q3), .second, .val (.long q4), .second, .val (.ref b1), .val (.long ln), .second, .val (.int (1 : Int32)), .val (.int (1 : Int32)), .val (.int (0 : Int32)), .unset, .unset, .unset] [(.int (0 : Int32))])) _
            refine XS.istore X86.here hx rfl (hb hby at_64) rfl (l' := #[.val (.int p0), .val (.long q1), .second, .val (.long q2), .second, .val (.long q3), .second, .val (.long q4), .second, .val (.ref b1), .val (.long ln), .second, .val (.int (1 : Int32)), .val (.int (1 : Int32)), .val (.int (0 : Int32)), .val (.int (0 : Int32)), .unset, .unset]) rfl ?_
            show Steps p.tables e below (T86.setTop (mkF m 66 #[.val (.int p0), .val (.long q1), .second, .val (.long q2), .second, .val (.long q3), .second, .val (.long q4), .second, .val (.ref b1), .val (.long ln), .second, .val (.int (1 : Int32)), .val (.int (1 : Int32)), .val (.int (0 : Int32)), .val (.int (0 : Int32)), .unset, .unset] [])) _
            refine XS.iload X86.here hx rfl (hb hby at_66) rfl ?_
            show Steps p.tables e below (T86.setTop (mkF m 68 #[.val (.int p0), .val (.long q1), .second, .val (.long q2), .second, .val (.long q3), .second, .val (.long q4), .second, .val (.ref b1), .val (.long ln), .second, .val (.int (1 : Int32)), .val (.int (1 : Int32)), .val (.int (0 : Int32)), .val (.int (0 : Int32)), .unset, .unset] [(.int (0 : Int32))])) _
            refine XS.iload X86.here hx rfl (hb hby at_68) rfl ?_
            show Steps p.tables e below (T86.setTop (mkF m 70 #[.val (.int p0), .val (.long q1), .second, .val (.long q2), .second, .val (.long q3), .second, .val (.long q4), .second, .val (.ref b1), .val (.long ln), .second, .val (.int (1 : Int32)), .val (.int (1 : Int32)), .val (.int (0 : Int32)), .val (.int (0 : Int32)), .unset, .unset] [(.int (0 : Int32)), (.int (0 : Int32))])) _
            refine XS.icmpYes X86.here hx rfl (pc0 := 70) (pc' := 75) rfl (hb hby at_70) rfl (teq (rfl : (0 : Int32) = (0 : Int32))).1 (by decide) (by decide) ?_
            show Steps p.tables e below (T86.setTop (mkF m 75 #[.val (.int p0), .val (.long q1), .second, .val (.long q2), .second, .val (.long q3), .second, .val (.long q4), .second, .val (.ref b1), .val (.long ln), .second, .val (.int (1 : Int32)), .val (.int (1 : Int32)), .val (.int (0 : Int32)), .val (.int (0 : Int32)), .unset, .unset] [])) _
            refine XS.iload X86.here hx rfl (hb hby at_75) rfl ?_
            show Steps p.tables e below (T86.setTop (mkF m 77 #[.val (.int p0), .val (.long q1), .second, .val (.long q2), .second, .val (.long q3), .second, .val (.long q4), .second, .val (.ref b1), .val (.long ln), .second, .val (.int (1 : Int32)), .val (.int (1 : Int32)), .val (.int (0 : Int32)), .val (.int (0 : Int32)), .unset, .unset] [(.int (1 : Int32))])) _
            refine XS.ifYes X86.here hx rfl (pc0 := 77) (pc' := 87) rfl (hb hby at_77) rfl ((if0 _ _).trans (feq (by decide : ¬ ((1 : Int32) = (0 : Int32)))).2) (by decide) (by decide) ?_
            show Steps p.tables e below (T86.setTop (mkF m 87 #[.val (.int p0), .val (.long q1), .second, .val (.long q2), .second, .val (.long q3), .second, .val (.long q4), .second, .val (.ref b1), .val (.long ln), .second, .val (.int (1 : Int32)), .val (.int (1 : Int32)), .val (.int (0 : Int32)), .val (.int (0 : Int32)), .unset, .unset] [])) _
            refine XS.iload X86.here hx rfl (hb hby at_87) rfl ?_
            show Steps p.tables e below (T86.setTop (mkF m 89 #[.val (.int p0), .val (.long q1), .second, .val (.long q2), .second, .val (.long q3), .second, .val (.long q4), .second, .val (.ref b1), .val (.long ln), .second, .val (.int (1 : Int32)), .val (.int (1 : Int32)), .val (.int (0 : Int32)), .val (.int (0 : Int32)), .unset, .unset] [(.int (1 : Int32))])) _
            refine XS.ifNo X86.here hx rfl (hb hby at_89) rfl ((if0 _ _).trans (feq (by decide : ¬ ((1 : Int32) = (0 : Int32)))).1) ?_
            show Steps p.tables e below (T86.setTop (mkF m 92 #[.val (.int p0), .val (.long q1), .second, .val (.long q2), .second, .val (.long q3), .second, .val (.long q4), .second, .val (.ref b1), .val (.long ln), .second, .val (.int (1 : Int32)), .val (.int (1 : Int32)), .val (.int (0 : Int32)), .val (.int (0 : Int32)), .unset, .unset] [])) _
            refine XS.lload X86.here hx rfl (hb hby at_92) rfl ?_
            show Steps p.tables e below (T86.setTop (mkF m 94 #[.val (.int p0), .val (.long q1), .second, .val (.long q2), .second, .val (.long q3), .second, .val (.long q4), .second, .val (.ref b1), .val (.long ln), .second, .val (.int (1 : Int32)), .val (.int (1 : Int32)), .val (.int (0 : Int32)), .val (.int (0 : Int32)), .unset, .unset] [(.long q3)])) _
            refine XS.goto X86.here hx rfl (pc0 := 94) (pc' := 98) rfl (hb hby at_94) (by decide) (by decide) ?_
            show Steps p.tables e below (T86.setTop (mkF m 98 #[.val (.int p0), .val (.long q1), .second, .val (.long q2), .second, .val (.long q3), .second, .val (.long q4), .second, .val (.ref b1), .val (.long ln), .second, .val (.int (1 : Int32)), .val (.int (1 : Int32)), .val (.int (0 : Int32)), .val (.int (0 : Int32)), .unset, .unset] [(.long q3)])) _
            refine XS.lstore X86.here hx rfl (hb hby at_98) rfl (l' := #[.val (.int p0), .val (.long q1), .second, .val (.long q2), .second, .val (.long q3), .second, .val (.long q4), .second, .val (.ref b1), .val (.long ln), .second, .val (.int (1 : Int32)), .val (.int (1 : Int32)), .val (.int (0 : Int32)), .val (.int (0 : Int32)), .val (.long q3), .second]) rfl ?_
            show Steps p.tables e below (T86.setTop (mkF m 100 #[.val (.int p0), .val (.long q1), .second, .val (.long q2), .second, .val (.long q3), .second, .val (.long q4), .second, .val (.ref b1), .val (.long ln), .second, .val (.int (1 : Int32)), .val (.int (1 : Int32)), .val (.int (0 : Int32)), .val (.int (0 : Int32)), .val (.long q3), .second] [])) _
            refine XS.iload X86.here hx rfl (hb hby at_100) rfl ?_
            show Steps p.tables e below (T86.setTop (mkF m 102 #[.val (.int p0), .val (.long q1), .second, .val (.long q2), .second, .val (.long q3), .second, .val (.long q4), .second, .val (.ref b1), .val (.long ln), .second, .val (.int (1 : Int32)), .val (.int (1 : Int32)), .val (.int (0 : Int32)), .val (.int (0 : Int32)), .val (.long q3), .second] [(.int (0 : Int32))])) _
            refine XS.lload X86.here hx rfl (hb hby at_102) rfl ?_
            show Steps p.tables e below (T86.setTop (mkF m 104 #[.val (.int p0), .val (.long q1), .second, .val (.long q2), .second, .val (.long q3), .second, .val (.long q4), .second, .val (.ref b1), .val (.long ln), .second, .val (.int (1 : Int32)), .val (.int (1 : Int32)), .val (.int (0 : Int32)), .val (.int (0 : Int32)), .val (.long q3), .second] [(.long q3), (.int (0 : Int32))])) _
            refine XS.lload X86.here hx rfl (hb hby at_104) rfl ?_
            show Steps p.tables e below (T86.setTop (mkF m 106 #[.val (.int p0), .val (.long q1), .second, .val (.long q2), .second, .val (.long q3), .second, .val (.long q4), .second, .val (.ref b1), .val (.long ln), .second, .val (.int (1 : Int32)), .val (.int (1 : Int32)), .val (.int (0 : Int32)), .val (.int (0 : Int32)), .val (.long q3), .second] [(.long q4), (.long q3), (.int (0 : Int32))])) _
            refine XS.lsub X86.here hx rfl (hb hby at_106) rfl ?_
            show Steps p.tables e below (T86.setTop (mkF m 107 #[.val (.int p0), .val (.long q1), .second, .val (.long q2), .second, .val (.long q3), .second, .val (.long q4), .second, .val (.ref b1), .val (.long ln), .second, .val (.int (1 : Int32)), .val (.int (1 : Int32)), .val (.int (0 : Int32)), .val (.int (0 : Int32)), .val (.long q3), .second] [(.long (q3 - q4)), (.int (0 : Int32))])) _
            refine XS.lconst X86.here hx rfl (hb hby at_107) ?_
            show Steps p.tables e below (T86.setTop (mkF m 108 #[.val (.int p0), .val (.long q1), .second, .val (.long q2), .second, .val (.long q3), .second, .val (.long q4), .second, .val (.ref b1), .val (.long ln), .second, .val (.int (1 : Int32)), .val (.int (1 : Int32)), .val (.int (0 : Int32)), .val (.int (0 : Int32)), .val (.long q3), .second] [(.long (0 : Int64)), (.long (q3 - q4)), (.int (0 : Int32))])) _
            refine XS.lcmp X86.here hx rfl (hb hby at_108) rfl ?_
            show Steps p.tables e below (T86.setTop (mkF m 109 #[.val (.int p0), .val (.long q1), .second, .val (.long q2), .second, .val (.long q3), .second, .val (.long q4), .second, .val (.ref b1), .val (.long ln), .second, .val (.int (1 : Int32)), .val (.int (1 : Int32)), .val (.int (0 : Int32)), .val (.int (0 : Int32)), .val (.long q3), .second] [(.int (lcmpW (q3 - q4) (0 : Int64))), (.int (0 : Int32))])) _
            refine XS.ifYes X86.here hx rfl (pc0 := 109) (pc' := 116) rfl (hb hby at_109) rfl ((if0 _ _).trans (flt (fun z => hs72 ((own_s2 _ _ _).symm ▸ (lw_gt _ _).mp z))).2.2.2) (by decide) (by decide) ?_
            show Steps p.tables e below (T86.setTop (mkF m 116 #[.val (.int p0), .val (.long q1), .second, .val (.long q2), .second, .val (.long q3), .second, .val (.long q4), .second, .val (.ref b1), .val (.long ln), .second, .val (.int (1 : Int32)), .val (.int (1 : Int32)), .val (.int (0 : Int32)), .val (.int (0 : Int32)), .val (.long q3), .second] [(.int (0 : Int32))])) _
            refine XS.iconst X86.here hx rfl (hb hby at_116) ?_
            show Steps p.tables e below (T86.setTop (mkF m 117 #[.val (.int p0), .val (.long q1), .second, .val (.long q2), .second, .val (.long q3), .second, .val (.long q4), .second, .val (.ref b1), .val (.long ln), .second, .val (.int (1 : Int32)), .val (.int (1 : Int32)), .val (.int (0 : Int32)), .val (.int (0 : Int32)), .val (.long q3), .second] [(.int (0 : Int32)), (.int (0 : Int32))])) _
            refine XS.icmpYes X86.here hx rfl (pc0 := 117) (pc' := 122) rfl (hb hby at_117) rfl (teq (rfl : (0 : Int32) = (0 : Int32))).1 (by decide) (by decide) ?_
            show Steps p.tables e below (T86.setTop (mkF m 122 #[.val (.int p0), .val (.long q1), .second, .val (.long q2), .second, .val (.long q3), .second, .val (.long q4), .second, .val (.ref b1), .val (.long ln), .second, .val (.int (1 : Int32)), .val (.int (1 : Int32)), .val (.int (0 : Int32)), .val (.int (0 : Int32)), .val (.long q3), .second] [])) _
            refine XS.aload X86.here hx rfl (hb hby at_122) rfl rfl ?_
            show Steps p.tables e below (T86.setTop (mkF m 124 #[.val (.int p0), .val (.long q1), .second, .val (.long q2), .second, .val (.long q3), .second, .val (.long q4), .second, .val (.ref b1), .val (.long ln), .second, .val (.int (1 : Int32)), .val (.int (1 : Int32)), .val (.int (0 : Int32)), .val (.int (0 : Int32)), .val (.long q3), .second] [(.ref b1)])) _
            refine XS.lload X86.here hx rfl (hb hby at_124) rfl ?_
            show Steps p.tables e below (T86.setTop (mkF m 126 #[.val (.int p0), .val (.long q1), .second, .val (.long q2), .second, .val (.long q3), .second, .val (.long q4), .second, .val (.ref b1), .val (.long ln), .second, .val (.int (1 : Int32)), .val (.int (1 : Int32)), .val (.int (0 : Int32)), .val (.int (0 : Int32)), .val (.long q3), .second] [(.long q3), (.ref b1)])) _
            refine st87.trans ?_
            exact kt)
        obtain rfl : (0 : Int32) = r88 := Pr88.2 (own_s3 _ _)
        obtain ⟨cq90, kq90, q90a, q90b, q90c⟩ := isOf hZ e87 c55_1
        obtain ⟨_, _, ⟨T90, L90, k90, n90⟩, -, X90, ⟨Lc90, hQ90, l90, y90, z90⟩, st90⟩ := X87.virtualBack hx (y := (⟨"com/example/cluster_log/clusterlog/Lease", "answeredSince", "(J)Z"⟩ : MethodName)) (z := (⟨"com/example/cluster_log/clusterlog/Lease", "answeredSince", "(J)Z"⟩ : MethodName)) hown (mvT hZ (hw _ (List.mem_of_getElem? (i := 42) rfl))) (mvT hZ (hw _ (List.mem_of_getElem? (i := 43) rfl))) (notFace_of_selects (args := #[]) (mvT hZ (hw _ (List.mem_of_getElem? (i := 45) rfl)))) (mvT hZ (hw _ (List.mem_of_getElem? (i := 45) rfl))) (mvT hZ (hw _ (List.mem_of_getElem? (i := 44) rfl))) (by decide) (backOf (W := 0) (rm7 l Z aw hw [] b1 (q3 - (1 : Int64)) ln (q3 + ln) T55.heap n0 (Nat.le_trans (Nat.le_trans (Nat.le_trans (Nat.le_trans Z0 E1.1) c17_0.1) c37_0.1) c55_0.1) c55_3 c55_2) hZ (hw _ (List.mem_of_getElem? (i := 46) rfl)) (hw _ (List.mem_of_getElem? (i := 2) rfl)) (by decide) (by decide)) q90a q90c (g := (mkF m 140 #[.val (.int p0), .val (.long q1), .second, .val (.long q2), .second, .val (.long q3), .second, .val (.long q4), .second, .val (.ref b1), .val (.long ln), .second, .val (.int (1 : Int32)), .val (.int (1 : Int32)), .val (.int (0 : Int32)), .val (.int (0 : Int32)), .val (.long q3), .second] [(.long (q3 - (1 : Int64))), (.ref b1)])) rfl (by rw [hml]; rfl) (Steps.refl _) (argsL := [(.long (q3 - (1 : Int64)))]) (rest := []) (lenOf pd_4 rfl) rfl (by show 2 * 0 + _ ≤ _; exact Nat.le_of_eq rfl) (hb hby at_140) (fun _ _ => ⟨rfl, e87, (by decide : 1 + 0 ≤ _), (by decide : 3 + 0 ≤ _)⟩)
        dsimp only [Pt.U, Pt.locs, Pt.cells, Pt.slots] at X90 l90 y90 z90 st90 hQ90
        subst l90 y90 z90
        obtain ⟨⟨r91, rfl, Pr91⟩, Nq90, e90⟩ := hQ90
        have N90 := Fr.app N87 Nq90
        have pre92 : ∀ t, Steps p.tables e below (T90.setTop (mkF m 143 #[.val (.int p0), .val (.long q1), .second, .val (.long q2), .second, .val (.long q3), .second, .val (.long q4), .second, .val (.ref b1), .val (.long ln), .second, .val (.int (1 : Int32)), .val (.int (1 : Int32)), .val (.int (0 : Int32)), .val (.int (0 : Int32)), .val (.long q3), .second] [(.int r91)])) t → Steps p.tables e below (s₁.setTop (entryFrame m #[(.int p0), (.long q1), (.long q2), (.long q3), (.long q4)] maxLocals)) t := fun t kt => pre89 t (by
            show Steps p.tables e below (T87.setTop (mkF m 129 #[.val (.int p0), .val (.long q1), .second, .val (.long q2), .second, .val (.long q3), .second, .val (.long q4), .second, .val (.ref b1), .val (.long ln), .second, .val (.int (1 : Int32)), .val (.int (1 : Int32)), .val (.int (0 : Int32)), .val (.int (0 : Int32)), .val (.long q3), .second] [(.int (0 : Int32))])) _
            refine XS.ifYes X87.here hx rfl (pc0 := 129) (pc' := 134) rfl (hb hby at_129) rfl ((if0 _ _).trans (teq (rfl : (0 : Int32) = (0 : Int32))).1) (by decide) (by decide) ?_
            show Steps p.tables e below (T87.setTop (mkF m 134 #[.val (.int p0), .val (.long q1), .second, .val (.long q2), .second, .val (.long q3), .second, .val (.long q4), .second, .val (.ref b1), .val (.long ln), .second, .val (.int (1 : Int32)), .val (.int (1 : Int32)), .val (.int (0 : Int32)), .val (.int (0 : Int32)), .val (.long q3), .second] [])) _
            refine XS.aload X87.here hx rfl (hb hby at_134) rfl rfl ?_
            show Steps p.tables e below (T87.setTop (mkF m 136 #[.val (.int p0), .val (.long q1), .second, .val (.long q2), .second, .val (.long q3), .second, .val (.long q4), .second, .val (.ref b1), .val (.long ln), .second, .val (.int (1 : Int32)), .val (.int (1 : Int32)), .val (.int (0 : Int32)), .val (.int (0 : Int32)), .val (.long q3), .second] [(.ref b1)])) _
            refine XS.lload X87.here hx rfl (hb hby at_136) rfl ?_
            show Steps p.tables e below (T87.setTop (mkF m 138 #[.val (.int p0), .val (.long q1), .second, .val (.long q2), .second, .val (.long q3), .second, .val (.long q4), .second, .val (.ref b1), .val (.long ln), .second, .val (.int (1 : Int32)), .val (.int (1 : Int32)), .val (.int (0 : Int32)), .val (.int (0 : Int32)), .val (.long q3), .second] [(.long q3), (.ref b1)])) _
            refine XS.lconst X87.here hx rfl (hb hby at_138) ?_
            show Steps p.tables e below (T87.setTop (mkF m 139 #[.val (.int p0), .val (.long q1), .second, .val (.long q2), .second, .val (.long q3), .second, .val (.long q4), .second, .val (.ref b1), .val (.long ln), .second, .val (.int (1 : Int32)), .val (.int (1 : Int32)), .val (.int (0 : Int32)), .val (.int (0 : Int32)), .val (.long q3), .second] [(.long (1 : Int64)), (.long q3), (.ref b1)])) _
            refine XS.lsub X87.here hx rfl (hb hby at_139) rfl ?_
            show Steps p.tables e below (T87.setTop (mkF m 140 #[.val (.int p0), .val (.long q1), .second, .val (.long q2), .second, .val (.long q3), .second, .val (.long q4), .second, .val (.ref b1), .val (.long ln), .second, .val (.int (1 : Int32)), .val (.int (1 : Int32)), .val (.int (0 : Int32)), .val (.int (0 : Int32)), .val (.long q3), .second] [(.long (q3 - (1 : Int64))), (.ref b1)])) _
            refine st90.trans ?_
            exact kt)
        obtain rfl : (1 : Int32) = r91 := Pr91.1 (own_s4 _ _)
        obtain ⟨fs, hr, hrun, hended, hW, hsame⟩ := X90.leave (v := some (.int (1 : Int32))) (fun h => by rw [Bd.returns] at h; cases h)
        refine ⟨_, _, pre92 _ ?_, hrun, hended, _, _, rfl, ?_, ⟨_, rfl⟩, hW, hsame.mono (by decide) (by decide)⟩
        · show Steps p.tables e below (T90.setTop (mkF m 143 #[.val (.int p0), .val (.long q1), .second, .val (.long q2), .second, .val (.long q3), .second, .val (.long q4), .second, .val (.ref b1), .val (.long ln), .second, .val (.int (1 : Int32)), .val (.int (1 : Int32)), .val (.int (0 : Int32)), .val (.int (0 : Int32)), .val (.long q3), .second] [(.int (1 : Int32))])) _
          exact retN X90 hx (t := .boolean) Bd.returns (by simp) (hb hby at_143) hr
        · show Q0 Z _ _ _ _ _ _ _ h0 n0 _ T90.heap _
          rw [e90]
          exact ⟨rfl, N90, trivial⟩
    · skip
      obtain ⟨cq93, kq93, q93a, q93b, q93c⟩ := isOf hZ rfl c37_1
      obtain ⟨_, _, ⟨T93, L93, k93, n93⟩, -, X93, ⟨Lc93, hQ93, l93, y93, z93⟩, st93⟩ := X37.virtualBack hx (y := (⟨"com/example/cluster_log/clusterlog/Lease", "renew", "(J)Z"⟩ : MethodName)) (z := (⟨"com/example/cluster_log/clusterlog/Lease", "renew", "(J)Z"⟩ : MethodName)) hown (mvT hZ (hw _ (List.mem_of_getElem? (i := 37) rfl))) (mvT hZ (hw _ (List.mem_of_getElem? (i := 38) rfl))) (notFace_of_selects (args := #[]) (mvT hZ (hw _ (List.mem_of_getElem? (i := 40) rfl)))) (mvT hZ (hw _ (List.mem_of_getElem? (i := 40) rfl))) (mvT hZ (hw _ (List.mem_of_getElem? (i := 39) rfl))) (by decide) (backOf (W := 0) (rmN l Z aw hw [] b1 q3 ln (q2 + ln) T37.heap n0 (Nat.le_trans (Nat.le_trans (Nat.le_trans Z0 E1.1) c17_0.1) c37_0.1) hs54 c37_2 c37_3) hZ (hw _ (List.mem_of_getElem? (i := 41) rfl)) (hw _ (List.mem_of_getElem? (i := 2) rfl)) (by decide) (by decide)) q93a q93c (g := (mkF m 30 #[.val (.int p0), .val (.long q1), .second, .val (.long q2), .second, .val (.long q3), .second, .val (.long q4), .second, .val (.ref b1), .val (.long ln), .second, .val (.int (1 : Int32)), .unset, .unset, .unset, .unset, .unset] [(.long q3), (.ref b1)])) rfl (by rw [hml]; rfl) (Steps.refl _) (argsL := [(.long q3)]) (rest := []) (lenOf pd_4 rfl) rfl (by show 2 * 0 + _ ≤ _; exact Nat.le_of_eq rfl) (hb hby at_30) (fun _ _ => ⟨rfl, rfl, (by decide : 1 + 0 ≤ _), (by decide : 3 + 0 ≤ _)⟩)
      dsimp only [Pt.U, Pt.locs, Pt.cells, Pt.slots] at X93 l93 y93 z93 st93 hQ93
      subst l93 y93 z93
      obtain ⟨rfl, Nq93, e93⟩ := hQ93
      have N93 := Fr.app N37 Nq93
      have pre94 : ∀ t, Steps p.tables e below (T93.setTop (mkF m 39 #[.val (.int p0), .val (.long q1), .second, .val (.long q2), .second, .val (.long q3), .second, .val (.long q4), .second, .val (.ref b1), .val (.long ln), .second, .val (.int (1 : Int32)), .val (.int (0 : Int32)), .unset, .unset, .unset, .unset] [(.long q4), (.ref b1)])) t → Steps p.tables e below (s₁.setTop (entryFrame m #[(.int p0), (.long q1), (.long q2), (.long q3), (.long q4)] maxLocals)) t := fun t kt => pre53 t (by
          show Steps p.tables e below (T37.setTop (mkF m 30 #[.val (.int p0), .val (.long q1), .second, .val (.long q2), .second, .val (.long q3), .second, .val (.long q4), .second, .val (.ref b1), .val (.long ln), .second, .val (.int (1 : Int32)), .unset, .unset, .unset, .unset, .unset] [(.long q3), (.ref b1)])) _
          refine st93.trans ?_
          show Steps p.tables e below (T93.setTop (mkF m 33 #[.val (.int p0), .val (.long q1), .second, .val (.long q2), .second, .val (.long q3), .second, .val (.long q4), .second, .val (.ref b1), .val (.long ln), .second, .val (.int (1 : Int32)), .unset, .unset, .unset, .unset, .unset] [(.int (0 : Int32))])) _
          refine XS.istore X93.here hx rfl (hb hby at_33) rfl (l' := #[.val (.int p0), .val (.long q1), .second, .val (.long q2), .second, .val (.long q3), .second, .val (.long q4), .second, .val (.ref b1), .val (.long ln), .second, .val (.int (1 : Int32)), .val (.int (0 : Int32)), .unset, .unset, .unset, .unset]) rfl ?_
          show Steps p.tables e below (T93.setTop (mkF m 35 #[.val (.int p0), .val (.long q1), .second, .val (.long q2), .second, .val (.long q3), .second, .val (.long q4), .second, .val (.ref b1), .val (.long ln), .second, .val (.int (1 : Int32)), .val (.int (0 : Int32)), .unset, .unset, .unset, .unset] [])) _
          refine XS.aload X93.here hx rfl (hb hby at_35) rfl rfl ?_
          show Steps p.tables e below (T93.setTop (mkF m 37 #[.val (.int p0), .val (.long q1), .second, .val (.long q2), .second, .val (.long q3), .second, .val (.long q4), .second, .val (.ref b1), .val (.long ln), .second, .val (.int (1 : Int32)), .val (.int (0 : Int32)), .unset, .unset, .unset, .unset] [(.ref b1)])) _
          refine XS.lload X93.here hx rfl (hb hby at_37) rfl ?_
          exact kt)
      by_cases hs95 : (0 : Int64) < (((q2 + ln) - ln) - q4)
      · skip
        obtain ⟨cq96, kq96, q96a, q96b, q96c⟩ := isOf hZ e93 c37_1
        obtain ⟨_, _, ⟨T96, L96, k96, n96⟩, -, X96, ⟨Lc96, hQ96, l96, y96, z96⟩, st96⟩ := X93.virtualBack hx (y := (⟨"com/example/cluster_log/clusterlog/Lease", "answeredSince", "(J)Z"⟩ : MethodName)) (z := (⟨"com/example/cluster_log/clusterlog/Lease", "answeredSince", "(J)Z"⟩ : MethodName)) hown (mvT hZ (hw _ (List.mem_of_getElem? (i := 42) rfl))) (mvT hZ (hw _ (List.mem_of_getElem? (i := 43) rfl))) (notFace_of_selects (args := #[]) (mvT hZ (hw _ (List.mem_of_getElem? (i := 45) rfl)))) (mvT hZ (hw _ (List.mem_of_getElem? (i := 45) rfl))) (mvT hZ (hw _ (List.mem_of_getElem? (i := 44) rfl))) (by decide) (backOf (W := 0) (rm7 l Z aw hw [] b1 q4 ln (q2 + ln) T37.heap n0 (Nat.le_trans (Nat.le_trans (Nat.le_trans Z0 E1.1) c17_0.1) c37_0.1) c37_3 c37_2) hZ (hw _ (List.mem_of_getElem? (i := 46) rfl)) (hw _ (List.mem_of_getElem? (i := 2) rfl)) (by decide) (by decide)) q96a q96c (g := (mkF m 39 #[.val (.int p0), .val (.long q1), .second, .val (.long q2), .second, .val (.long q3), .second, .val (.long q4), .second, .val (.ref b1), .val (.long ln), .second, .val (.int (1 : Int32)), .val (.int (0 : Int32)), .unset, .unset, .unset, .unset] [(.long q4), (.ref b1)])) rfl (by rw [hml]; rfl) (Steps.refl _) (argsL := [(.long q4)]) (rest := []) (lenOf pd_4 rfl) rfl (by show 2 * 0 + _ ≤ _; exact Nat.le_of_eq rfl) (hb hby at_39) (fun _ _ => ⟨rfl, e93, (by decide : 1 + 0 ≤ _), (by decide : 3 + 0 ≤ _)⟩)
        dsimp only [Pt.U, Pt.locs, Pt.cells, Pt.slots] at X96 l96 y96 z96 st96 hQ96
        subst l96 y96 z96
        obtain ⟨⟨r97, rfl, Pr97⟩, Nq96, e96⟩ := hQ96
        have N96 := Fr.app N93 Nq96
        have pre98 : ∀ t, Steps p.tables e below (T96.setTop (mkF m 42 #[.val (.int p0), .val (.long q1), .second, .val (.long q2), .second, .val (.long q3), .second, .val (.long q4), .second, .val (.ref b1), .val (.long ln), .second, .val (.int (1 : Int32)), .val (.int (0 : Int32)), .unset, .unset, .unset, .unset] [(.int r97)])) t → Steps p.tables e below (s₁.setTop (entryFrame m #[(.int p0), (.long q1), (.long q2), (.long q3), (.long q4)] maxLocals)) t := fun t kt => pre94 t (by
            show Steps p.tables e below (T93.setTop (mkF m 39 #[.val (.int p0), .val (.long q1), .second, .val (.long q2), .second, .val (.long q3), .second, .val (.long q4), .second, .val (.ref b1), .val (.long ln), .second, .val (.int (1 : Int32)), .val (.int (0 : Int32)), .unset, .unset, .unset, .unset] [(.long q4), (.ref b1)])) _
            refine st96.trans ?_
            exact kt)
        obtain rfl : (1 : Int32) = r97 := Pr97.1 hs95
        obtain ⟨cq99, kq99, q99a, q99b, q99c⟩ := isOf hZ e96 c37_1
        obtain ⟨_, _, ⟨T99, L99, k99, n99⟩, -, X99, ⟨Lc99, hQ99, l99, y99, z99⟩, st99⟩ := X96.virtualBack hx (y := (⟨"com/example/cluster_log/clusterlog/Lease", "left", "(J)J"⟩ : MethodName)) (z := (⟨"com/example/cluster_log/clusterlog/Lease", "left", "(J)J"⟩ : MethodName)) hown (mvT hZ (hw _ (List.mem_of_getElem? (i := 47) rfl))) (mvT hZ (hw _ (List.mem_of_getElem? (i := 48) rfl))) (notFace_of_selects (args := #[]) (mvT hZ (hw _ (List.mem_of_getElem? (i := 50) rfl)))) (mvT hZ (hw _ (List.mem_of_getElem? (i := 50) rfl))) (mvT hZ (hw _ (List.mem_of_getElem? (i := 49) rfl))) (by decide) (backOf (W := 0) (rm8 l Z aw hw [] b1 q4 (q2 + ln) T37.heap n0 (Nat.le_trans (Nat.le_trans (Nat.le_trans Z0 E1.1) c17_0.1) c37_0.1) c37_3) hZ (hw _ (List.mem_of_getElem? (i := 51) rfl)) (hw _ (List.mem_of_getElem? (i := 2) rfl)) (by decide) (by decide)) q99a q99c (g := (mkF m 48 #[.val (.int p0), .val (.long q1), .second, .val (.long q2), .second, .val (.long q3), .second, .val (.long q4), .second, .val (.ref b1), .val (.long ln), .second, .val (.int (1 : Int32)), .val (.int (0 : Int32)), .val (.int (1 : Int32)), .unset, .unset, .unset] [(.long q4), (.ref b1)])) rfl (by rw [hml]; rfl) (Steps.refl _) (argsL := [(.long q4)]) (rest := []) (lenOf pd_0 rfl) rfl (by show 2 * 0 + _ ≤ _; exact Nat.le_of_eq rfl) (hb hby at_48) (fun _ _ => ⟨rfl, e96, (by decide : 1 + 0 ≤ _), (by decide : 3 + 0 ≤ _)⟩)
        dsimp only [Pt.U, Pt.locs, Pt.cells, Pt.slots] at X99 l99 y99 z99 st99 hQ99
        subst l99 y99 z99
        obtain ⟨rfl, Nq99, e99⟩ := hQ99
        have N99 := Fr.app N96 Nq99
        obtain ⟨cq100, kq100, q100a, q100b, q100c⟩ := isOf hZ e99 c37_1
        obtain ⟨_, _, ⟨T100, L100, k100, n100⟩, -, X100, ⟨Lc100, hQ100, l100, y100, z100⟩, st100⟩ := X99.virtualBack hx (y := (⟨"com/example/cluster_log/clusterlog/Lease", "answeredSince", "(J)Z"⟩ : MethodName)) (z := (⟨"com/example/cluster_log/clusterlog/Lease", "answeredSince", "(J)Z"⟩ : MethodName)) hown (mvT hZ (hw _ (List.mem_of_getElem? (i := 42) rfl))) (mvT hZ (hw _ (List.mem_of_getElem? (i := 43) rfl))) (notFace_of_selects (args := #[]) (mvT hZ (hw _ (List.mem_of_getElem? (i := 45) rfl)))) (mvT hZ (hw _ (List.mem_of_getElem? (i := 45) rfl))) (mvT hZ (hw _ (List.mem_of_getElem? (i := 44) rfl))) (by decide) (backOf (W := 0) (rm7 l Z aw hw [] b1 q2 ln (q2 + ln) T37.heap n0 (Nat.le_trans (Nat.le_trans (Nat.le_trans Z0 E1.1) c17_0.1) c37_0.1) c37_3 c37_2) hZ (hw _ (List.mem_of_getElem? (i := 46) rfl)) (hw _ (List.mem_of_getElem? (i := 2) rfl)) (by decide) (by decide)) q100a q100c (g := (mkF m 126 #[.val (.int p0), .val (.long q1), .second, .val (.long q2), .second, .val (.long q3), .second, .val (.long q4), .second, .val (.ref b1), .val (.long ln), .second, .val (.int (1 : Int32)), .val (.int (0 : Int32)), .val (.int (1 : Int32)), .val (.int (1 : Int32)), .val (.long q2), .second] [(.long q2), (.ref b1)])) rfl (by rw [hml]; rfl) (Steps.refl _) (argsL := [(.long q2)]) (rest := []) (lenOf pd_4 rfl) rfl (by show 2 * 0 + _ ≤ _; exact Nat.le_of_eq rfl) (hb hby at_126) (fun _ _ => ⟨rfl, e99, (by decide : 1 + 0 ≤ _), (by decide : 3 + 0 ≤ _)⟩)
        dsimp only [Pt.U, Pt.locs, Pt.cells, Pt.slots] at X100 l100 y100 z100 st100 hQ100
        subst l100 y100 z100
        obtain ⟨⟨r101, rfl, Pr101⟩, Nq100, e100⟩ := hQ100
        have N100 := Fr.app N99 Nq100
        have pre102 : ∀ t, Steps p.tables e below (T100.setTop (mkF m 129 #[.val (.int p0), .val (.long q1), .second, .val (.long q2), .second, .val (.long q3), .second, .val (.long q4), .second, .val (.ref b1), .val (.long ln), .second, .val (.int (1 : Int32)), .val (.int (0 : Int32)), .val (.int (1 : Int32)), .val (.int (1 : Int32)), .val (.long q2), .second] [(.int r101)])) t → Steps p.tables e below (s₁.setTop (entryFrame m #[(.int p0), (.long q1), (.long q2), (.long q3), (.long q4)] maxLocals)) t := fun t kt => pre98 t (by
            show Steps p.tables e below (T96.setTop (mkF m 42 #[.val (.int p0), .val (.long q1), .second, .val (.long q2), .second, .val (.long q3), .second, .val (.long q4), .second, .val (.ref b1), .val (.long ln), .second, .val (.int (1 : Int32)), .val (.int (0 : Int32)), .unset, .unset, .unset, .unset] [(.int (1 : Int32))])) _
            refine XS.istore X96.here hx rfl (hb hby at_42) rfl (l' := #[.val (.int p0), .val (.long q1), .second, .val (.long q2), .second, .val (.long q3), .second, .val (.long q4), .second, .val (.ref b1), .val (.long ln), .second, .val (.int (1 : Int32)), .val (.int (0 : Int32)), .val (.int (1 : Int32)), .unset, .unset, .unset]) rfl ?_
            show Steps p.tables e below (T96.setTop (mkF m 44 #[.val (.int p0), .val (.long q1), .second, .val (.long q2), .second, .val (.long q3), .second, .val (.long q4), .second, .val (.ref b1), .val (.long ln), .second, .val (.int (1 : Int32)), .val (.int (0 : Int32)), .val (.int (1 : Int32)), .unset, .unset, .unset] [])) _
            refine XS.aload X96.here hx rfl (hb hby at_44) rfl rfl ?_
            show Steps p.tables e below (T96.setTop (mkF m 46 #[.val (.int p0), .val (.long q1), .second, .val (.long q2), .second, .val (.long q3), .second, .val (.long q4), .second, .val (.ref b1), .val (.long ln), .second, .val (.int (1 : Int32)), .val (.int (0 : Int32)), .val (.int (1 : Int32)), .unset, .unset, .unset] [(.ref b1)])) _
            refine XS.lload X96.here hx rfl (hb hby at_46) rfl ?_
            show Steps p.tables e below (T96.setTop (mkF m 48 #[.val (.int p0), .val (.long q1), .second, .val (.long q2), .second, .val (.long q3), .second, .val (.long q4), .second, .val (.ref b1), .val (.long ln), .second, .val (.int (1 : Int32)), .val (.int (0 : Int32)), .val (.int (1 : Int32)), .unset, .unset, .unset] [(.long q4), (.ref b1)])) _
            refine st99.trans ?_
            show Steps p.tables e below (T99.setTop (mkF m 51 #[.val (.int p0), .val (.long q1), .second, .val (.long q2), .second, .val (.long q3), .second, .val (.long q4), .second, .val (.ref b1), .val (.long ln), .second, .val (.int (1 : Int32)), .val (.int (0 : Int32)), .val (.int (1 : Int32)), .unset, .unset, .unset] [(.long ((q2 + ln) - q4))])) _
            refine XS.lload X99.here hx rfl (hb hby at_51) rfl ?_
            show Steps p.tables e below (T99.setTop (mkF m 53 #[.val (.int p0), .val (.long q1), .second, .val (.long q2), .second, .val (.long q3), .second, .val (.long q4), .second, .val (.ref b1), .val (.long ln), .second, .val (.int (1 : Int32)), .val (.int (0 : Int32)), .val (.int (1 : Int32)), .unset, .unset, .unset] [(.long ln), (.long ((q2 + ln) - q4))])) _
            refine XS.lsub X99.here hx rfl (hb hby at_53) rfl ?_
            show Steps p.tables e below (T99.setTop (mkF m 54 #[.val (.int p0), .val (.long q1), .second, .val (.long q2), .second, .val (.long q3), .second, .val (.long q4), .second, .val (.ref b1), .val (.long ln), .second, .val (.int (1 : Int32)), .val (.int (0 : Int32)), .val (.int (1 : Int32)), .unset, .unset, .unset] [(.long (((q2 + ln) - q4) - ln))])) _
            refine XS.lconst X99.here hx rfl (hb hby at_54) ?_
            show Steps p.tables e below (T99.setTop (mkF m 55 #[.val (.int p0), .val (.long q1), .second, .val (.long q2), .second, .val (.long q3), .second, .val (.long q4), .second, .val (.ref b1), .val (.long ln), .second, .val (.int (1 : Int32)), .val (.int (0 : Int32)), .val (.int (1 : Int32)), .unset, .unset, .unset] [(.long (0 : Int64)), (.long (((q2 + ln) - q4) - ln))])) _
            refine XS.lcmp X99.here hx rfl (hb hby at_55) rfl ?_
            show Steps p.tables e below (T99.setTop (mkF m 56 #[.val (.int p0), .val (.long q1), .second, .val (.long q2), .second, .val (.long q3), .second, .val (.long q4), .second, .val (.ref b1), .val (.long ln), .second, .val (.int (1 : Int32)), .val (.int (0 : Int32)), .val (.int (1 : Int32)), .unset, .unset, .unset] [(.int (lcmpW (((q2 + ln) - q4) - ln) (0 : Int64)))])) _
            refine XS.ifNo X99.here hx rfl (hb hby at_56) rfl ((if0 _ _).trans (tlt ((lw_gt _ _).mpr (own_s1 _ _ _ ▸ hs95))).2.2.2) ?_
            show Steps p.tables e below (T99.setTop (mkF m 59 #[.val (.int p0), .val (.long q1), .second, .val (.long q2), .second, .val (.long q3), .second, .val (.long q4), .second, .val (.ref b1), .val (.long ln), .second, .val (.int (1 : Int32)), .val (.int (0 : Int32)), .val (.int (1 : Int32)), .unset, .unset, .unset] [])) _
            refine XS.iconst X99.here hx rfl (hb hby at_59) ?_
            show Steps p.tables e below (T99.setTop (mkF m 60 #[.val (.int p0), .val (.long q1), .second, .val (.long q2), .second, .val (.long q3), .second, .val (.long q4), .second, .val (.ref b1), .val (.long ln), .second, .val (.int (1 : Int32)), .val (.int (0 : Int32)), .val (.int (1 : Int32)), .unset, .unset, .unset] [(.int (1 : Int32))])) _
            refine XS.goto X99.here hx rfl (pc0 := 60) (pc' := 64) rfl (hb hby at_60) (by decide) (by decide) ?_
            show Steps p.tables e below (T99.setTop (mkF m 64 #[.val (.int p0), .val (.long q1), .second, .val (.long q2), .second, .val (.long q3), .second, .val (.long q4), .second, .val (.ref b1), .val (.long ln), .second, .val (.int (1 : Int32)), .val (.int (0 : Int32)), .val (.int (1 : Int32)), .unset, .unset, .unset] [(.int (1 : Int32))])) _
            refine XS.istore X99.here hx rfl (hb hby at_64) rfl (l' := #[.val (.int p0), .val (.long q1), .second, .val (.long q2), .second, .val (.long q3), .second, .val (.long q4), .second, .val (.ref b1), .val (.long ln), .second, .val (.int (1 : Int32)), .val (.int (0 : Int32)), .val (.int (1 : Int32)), .val (.int (1 : Int32)), .unset, .unset]) rfl ?_
            show Steps p.tables e below (T99.setTop (mkF m 66 #[.val (.int p0), .val (.long q1), .second, .val (.long q2), .second, .val (.long q3), .second, .val (.long q4), .second, .val (.ref b1), .val (.long ln), .second, .val (.int (1 : Int32)), .val (.int (0 : Int32)), .val (.int (1 : Int32)), .val (.int (1 : Int32)), .unset, .unset] [])) _
            refine XS.iload X99.here hx rfl (hb hby at_66) rfl ?_
            show Steps p.tables e below (T99.setTop (mkF m 68 #[.val (.int p0), .val (.long q1), .second, .val (.long q2), .second, .val (.long q3), .second, .val (.long q4), .second, .val (.ref b1), .val (.long ln), .second, .val (.int (1 : Int32)), .val (.int (0 : Int32)), .val (.int (1 : Int32)), .val (.int (1 : Int32)), .unset, .unset] [(.int (1 : Int32))])) _
            refine XS.iload X99.here hx rfl (hb hby at_68) rfl ?_
            show Steps p.tables e below (T99.setTop (mkF m 70 #[.val (.int p0), .val (.long q1), .second, .val (.long q2), .second, .val (.long q3), .second, .val (.long q4), .second, .val (.ref b1), .val (.long ln), .second, .val (.int (1 : Int32)), .val (.int (0 : Int32)), .val (.int (1 : Int32)), .val (.int (1 : Int32)), .unset, .unset] [(.int (1 : Int32)), (.int (1 : Int32))])) _
            refine XS.icmpYes X99.here hx rfl (pc0 := 70) (pc' := 75) rfl (hb hby at_70) rfl (teq (rfl : (1 : Int32) = (1 : Int32))).1 (by decide) (by decide) ?_
            show Steps p.tables e below (T99.setTop (mkF m 75 #[.val (.int p0), .val (.long q1), .second, .val (.long q2), .second, .val (.long q3), .second, .val (.long q4), .second, .val (.ref b1), .val (.long ln), .second, .val (.int (1 : Int32)), .val (.int (0 : Int32)), .val (.int (1 : Int32)), .val (.int (1 : Int32)), .unset, .unset] [])) _
            refine XS.iload X99.here hx rfl (hb hby at_75) rfl ?_
            show Steps p.tables e below (T99.setTop (mkF m 77 #[.val (.int p0), .val (.long q1), .second, .val (.long q2), .second, .val (.long q3), .second, .val (.long q4), .second, .val (.ref b1), .val (.long ln), .second, .val (.int (1 : Int32)), .val (.int (0 : Int32)), .val (.int (1 : Int32)), .val (.int (1 : Int32)), .unset, .unset] [(.int (1 : Int32))])) _
            refine XS.ifYes X99.here hx rfl (pc0 := 77) (pc' := 87) rfl (hb hby at_77) rfl ((if0 _ _).trans (feq (by decide : ¬ ((1 : Int32) = (0 : Int32)))).2) (by decide) (by decide) ?_
            show Steps p.tables e below (T99.setTop (mkF m 87 #[.val (.int p0), .val (.long q1), .second, .val (.long q2), .second, .val (.long q3), .second, .val (.long q4), .second, .val (.ref b1), .val (.long ln), .second, .val (.int (1 : Int32)), .val (.int (0 : Int32)), .val (.int (1 : Int32)), .val (.int (1 : Int32)), .unset, .unset] [])) _
            refine XS.iload X99.here hx rfl (hb hby at_87) rfl ?_
            show Steps p.tables e below (T99.setTop (mkF m 89 #[.val (.int p0), .val (.long q1), .second, .val (.long q2), .second, .val (.long q3), .second, .val (.long q4), .second, .val (.ref b1), .val (.long ln), .second, .val (.int (1 : Int32)), .val (.int (0 : Int32)), .val (.int (1 : Int32)), .val (.int (1 : Int32)), .unset, .unset] [(.int (0 : Int32))])) _
            refine XS.ifYes X99.here hx rfl (pc0 := 89) (pc' := 97) rfl (hb hby at_89) rfl ((if0 _ _).trans (teq (rfl : (0 : Int32) = (0 : Int32))).1) (by decide) (by decide) ?_
            show Steps p.tables e below (T99.setTop (mkF m 97 #[.val (.int p0), .val (.long q1), .second, .val (.long q2), .second, .val (.long q3), .second, .val (.long q4), .second, .val (.ref b1), .val (.long ln), .second, .val (.int (1 : Int32)), .val (.int (0 : Int32)), .val (.int (1 : Int32)), .val (.int (1 : Int32)), .unset, .unset] [])) _
            refine XS.lloadN X99.here hx rfl (hb hby at_97) rfl ?_
            show Steps p.tables e below (T99.setTop (mkF m 98 #[.val (.int p0), .val (.long q1), .second, .val (.long q2), .second, .val (.long q3), .second, .val (.long q4), .second, .val (.ref b1), .val (.long ln), .second, .val (.int (1 : Int32)), .val (.int (0 : Int32)), .val (.int (1 : Int32)), .val (.int (1 : Int32)), .unset, .unset] [(.long q2)])) _
            refine XS.lstore X99.here hx rfl (hb hby at_98) rfl (l' := #[.val (.int p0), .val (.long q1), .second, .val (.long q2), .second, .val (.long q3), .second, .val (.long q4), .second, .val (.ref b1), .val (.long ln), .second, .val (.int (1 : Int32)), .val (.int (0 : Int32)), .val (.int (1 : Int32)), .val (.int (1 : Int32)), .val (.long q2), .second]) rfl ?_
            show Steps p.tables e below (T99.setTop (mkF m 100 #[.val (.int p0), .val (.long q1), .second, .val (.long q2), .second, .val (.long q3), .second, .val (.long q4), .second, .val (.ref b1), .val (.long ln), .second, .val (.int (1 : Int32)), .val (.int (0 : Int32)), .val (.int (1 : Int32)), .val (.int (1 : Int32)), .val (.long q2), .second] [])) _
            refine XS.iload X99.here hx rfl (hb hby at_100) rfl ?_
            show Steps p.tables e below (T99.setTop (mkF m 102 #[.val (.int p0), .val (.long q1), .second, .val (.long q2), .second, .val (.long q3), .second, .val (.long q4), .second, .val (.ref b1), .val (.long ln), .second, .val (.int (1 : Int32)), .val (.int (0 : Int32)), .val (.int (1 : Int32)), .val (.int (1 : Int32)), .val (.long q2), .second] [(.int (1 : Int32))])) _
            refine XS.lload X99.here hx rfl (hb hby at_102) rfl ?_
            show Steps p.tables e below (T99.setTop (mkF m 104 #[.val (.int p0), .val (.long q1), .second, .val (.long q2), .second, .val (.long q3), .second, .val (.long q4), .second, .val (.ref b1), .val (.long ln), .second, .val (.int (1 : Int32)), .val (.int (0 : Int32)), .val (.int (1 : Int32)), .val (.int (1 : Int32)), .val (.long q2), .second] [(.long q2), (.int (1 : Int32))])) _
            refine XS.lload X99.here hx rfl (hb hby at_104) rfl ?_
            show Steps p.tables e below (T99.setTop (mkF m 106 #[.val (.int p0), .val (.long q1), .second, .val (.long q2), .second, .val (.long q3), .second, .val (.long q4), .second, .val (.ref b1), .val (.long ln), .second, .val (.int (1 : Int32)), .val (.int (0 : Int32)), .val (.int (1 : Int32)), .val (.int (1 : Int32)), .val (.long q2), .second] [(.long q4), (.long q2), (.int (1 : Int32))])) _
            refine XS.lsub X99.here hx rfl (hb hby at_106) rfl ?_
            show Steps p.tables e below (T99.setTop (mkF m 107 #[.val (.int p0), .val (.long q1), .second, .val (.long q2), .second, .val (.long q3), .second, .val (.long q4), .second, .val (.ref b1), .val (.long ln), .second, .val (.int (1 : Int32)), .val (.int (0 : Int32)), .val (.int (1 : Int32)), .val (.int (1 : Int32)), .val (.long q2), .second] [(.long (q2 - q4)), (.int (1 : Int32))])) _
            refine XS.lconst X99.here hx rfl (hb hby at_107) ?_
            show Steps p.tables e below (T99.setTop (mkF m 108 #[.val (.int p0), .val (.long q1), .second, .val (.long q2), .second, .val (.long q3), .second, .val (.long q4), .second, .val (.ref b1), .val (.long ln), .second, .val (.int (1 : Int32)), .val (.int (0 : Int32)), .val (.int (1 : Int32)), .val (.int (1 : Int32)), .val (.long q2), .second] [(.long (0 : Int64)), (.long (q2 - q4)), (.int (1 : Int32))])) _
            refine XS.lcmp X99.here hx rfl (hb hby at_108) rfl ?_
            show Steps p.tables e below (T99.setTop (mkF m 109 #[.val (.int p0), .val (.long q1), .second, .val (.long q2), .second, .val (.long q3), .second, .val (.long q4), .second, .val (.ref b1), .val (.long ln), .second, .val (.int (1 : Int32)), .val (.int (0 : Int32)), .val (.int (1 : Int32)), .val (.int (1 : Int32)), .val (.long q2), .second] [(.int (lcmpW (q2 - q4) (0 : Int64))), (.int (1 : Int32))])) _
            refine XS.ifNo X99.here hx rfl (hb hby at_109) rfl ((if0 _ _).trans (tlt ((lw_gt _ _).mpr (own_s2 _ _ _ ▸ hs95))).2.2.2) ?_
            show Steps p.tables e below (T99.setTop (mkF m 112 #[.val (.int p0), .val (.long q1), .second, .val (.long q2), .second, .val (.long q3), .second, .val (.long q4), .second, .val (.ref b1), .val (.long ln), .second, .val (.int (1 : Int32)), .val (.int (0 : Int32)), .val (.int (1 : Int32)), .val (.int (1 : Int32)), .val (.long q2), .second] [(.int (1 : Int32))])) _
            refine XS.iconst X99.here hx rfl (hb hby at_112) ?_
            show Steps p.tables e below (T99.setTop (mkF m 113 #[.val (.int p0), .val (.long q1), .second, .val (.long q2), .second, .val (.long q3), .second, .val (.long q4), .second, .val (.ref b1), .val (.long ln), .second, .val (.int (1 : Int32)), .val (.int (0 : Int32)), .val (.int (1 : Int32)), .val (.int (1 : Int32)), .val (.long q2), .second] [(.int (1 : Int32)), (.int (1 : Int32))])) _
            refine XS.goto X99.here hx rfl (pc0 := 113) (pc' := 117) rfl (hb hby at_113) (by decide) (by decide) ?_
            show Steps p.tables e below (T99.setTop (mkF m 117 #[.val (.int p0), .val (.long q1), .second, .val (.long q2), .second, .val (.long q3), .second, .val (.long q4), .second, .val (.ref b1), .val (.long ln), .second, .val (.int (1 : Int32)), .val (.int (0 : Int32)), .val (.int (1 : Int32)), .val (.int (1 : Int32)), .val (.long q2), .second] [(.int (1 : Int32)), (.int (1 : Int32))])) _
            refine XS.icmpYes X99.here hx rfl (pc0 := 117) (pc' := 122) rfl (hb hby at_117) rfl (teq (rfl : (1 : Int32) = (1 : Int32))).1 (by decide) (by decide) ?_
            show Steps p.tables e below (T99.setTop (mkF m 122 #[.val (.int p0), .val (.long q1), .second, .val (.long q2), .second, .val (.long q3), .second, .val (.long q4), .second, .val (.ref b1), .val (.long ln), .second, .val (.int (1 : Int32)), .val (.int (0 : Int32)), .val (.int (1 : Int32)), .val (.int (1 : Int32)), .val (.long q2), .second] [])) _
            refine XS.aload X99.here hx rfl (hb hby at_122) rfl rfl ?_
            show Steps p.tables e below (T99.setTop (mkF m 124 #[.val (.int p0), .val (.long q1), .second, .val (.long q2), .second, .val (.long q3), .second, .val (.long q4), .second, .val (.ref b1), .val (.long ln), .second, .val (.int (1 : Int32)), .val (.int (0 : Int32)), .val (.int (1 : Int32)), .val (.int (1 : Int32)), .val (.long q2), .second] [(.ref b1)])) _
            refine XS.lload X99.here hx rfl (hb hby at_124) rfl ?_
            show Steps p.tables e below (T99.setTop (mkF m 126 #[.val (.int p0), .val (.long q1), .second, .val (.long q2), .second, .val (.long q3), .second, .val (.long q4), .second, .val (.ref b1), .val (.long ln), .second, .val (.int (1 : Int32)), .val (.int (0 : Int32)), .val (.int (1 : Int32)), .val (.int (1 : Int32)), .val (.long q2), .second] [(.long q2), (.ref b1)])) _
            refine st100.trans ?_
            exact kt)
        obtain rfl : (0 : Int32) = r101 := Pr101.2 (own_s3 _ _)
        obtain ⟨cq103, kq103, q103a, q103b, q103c⟩ := isOf hZ e100 c37_1
        obtain ⟨_, _, ⟨T103, L103, k103, n103⟩, -, X103, ⟨Lc103, hQ103, l103, y103, z103⟩, st103⟩ := X100.virtualBack hx (y := (⟨"com/example/cluster_log/clusterlog/Lease", "answeredSince", "(J)Z"⟩ : MethodName)) (z := (⟨"com/example/cluster_log/clusterlog/Lease", "answeredSince", "(J)Z"⟩ : MethodName)) hown (mvT hZ (hw _ (List.mem_of_getElem? (i := 42) rfl))) (mvT hZ (hw _ (List.mem_of_getElem? (i := 43) rfl))) (notFace_of_selects (args := #[]) (mvT hZ (hw _ (List.mem_of_getElem? (i := 45) rfl)))) (mvT hZ (hw _ (List.mem_of_getElem? (i := 45) rfl))) (mvT hZ (hw _ (List.mem_of_getElem? (i := 44) rfl))) (by decide) (backOf (W := 0) (rm7 l Z aw hw [] b1 (q2 - (1 : Int64)) ln (q2 + ln) T37.heap n0 (Nat.le_trans (Nat.le_trans (Nat.le_trans Z0 E1.1) c17_0.1) c37_0.1) c37_3 c37_2) hZ (hw _ (List.mem_of_getElem? (i := 46) rfl)) (hw _ (List.mem_of_getElem? (i := 2) rfl)) (by decide) (by decide)) q103a q103c (g := (mkF m 140 #[.val (.int p0), .val (.long q1), .second, .val (.long q2), .second, .val (.long q3), .second, .val (.long q4), .second, .val (.ref b1), .val (.long ln), .second, .val (.int (1 : Int32)), .val (.int (0 : Int32)), .val (.int (1 : Int32)), .val (.int (1 : Int32)), .val (.long q2), .second] [(.long (q2 - (1 : Int64))), (.ref b1)])) rfl (by rw [hml]; rfl) (Steps.refl _) (argsL := [(.long (q2 - (1 : Int64)))]) (rest := []) (lenOf pd_4 rfl) rfl (by show 2 * 0 + _ ≤ _; exact Nat.le_of_eq rfl) (hb hby at_140) (fun _ _ => ⟨rfl, e100, (by decide : 1 + 0 ≤ _), (by decide : 3 + 0 ≤ _)⟩)
        dsimp only [Pt.U, Pt.locs, Pt.cells, Pt.slots] at X103 l103 y103 z103 st103 hQ103
        subst l103 y103 z103
        obtain ⟨⟨r104, rfl, Pr104⟩, Nq103, e103⟩ := hQ103
        have N103 := Fr.app N100 Nq103
        have pre105 : ∀ t, Steps p.tables e below (T103.setTop (mkF m 143 #[.val (.int p0), .val (.long q1), .second, .val (.long q2), .second, .val (.long q3), .second, .val (.long q4), .second, .val (.ref b1), .val (.long ln), .second, .val (.int (1 : Int32)), .val (.int (0 : Int32)), .val (.int (1 : Int32)), .val (.int (1 : Int32)), .val (.long q2), .second] [(.int r104)])) t → Steps p.tables e below (s₁.setTop (entryFrame m #[(.int p0), (.long q1), (.long q2), (.long q3), (.long q4)] maxLocals)) t := fun t kt => pre102 t (by
            show Steps p.tables e below (T100.setTop (mkF m 129 #[.val (.int p0), .val (.long q1), .second, .val (.long q2), .second, .val (.long q3), .second, .val (.long q4), .second, .val (.ref b1), .val (.long ln), .second, .val (.int (1 : Int32)), .val (.int (0 : Int32)), .val (.int (1 : Int32)), .val (.int (1 : Int32)), .val (.long q2), .second] [(.int (0 : Int32))])) _
            refine XS.ifYes X100.here hx rfl (pc0 := 129) (pc' := 134) rfl (hb hby at_129) rfl ((if0 _ _).trans (teq (rfl : (0 : Int32) = (0 : Int32))).1) (by decide) (by decide) ?_
            show Steps p.tables e below (T100.setTop (mkF m 134 #[.val (.int p0), .val (.long q1), .second, .val (.long q2), .second, .val (.long q3), .second, .val (.long q4), .second, .val (.ref b1), .val (.long ln), .second, .val (.int (1 : Int32)), .val (.int (0 : Int32)), .val (.int (1 : Int32)), .val (.int (1 : Int32)), .val (.long q2), .second] [])) _
            refine XS.aload X100.here hx rfl (hb hby at_134) rfl rfl ?_
            show Steps p.tables e below (T100.setTop (mkF m 136 #[.val (.int p0), .val (.long q1), .second, .val (.long q2), .second, .val (.long q3), .second, .val (.long q4), .second, .val (.ref b1), .val (.long ln), .second, .val (.int (1 : Int32)), .val (.int (0 : Int32)), .val (.int (1 : Int32)), .val (.int (1 : Int32)), .val (.long q2), .second] [(.ref b1)])) _
            refine XS.lload X100.here hx rfl (hb hby at_136) rfl ?_
            show Steps p.tables e below (T100.setTop (mkF m 138 #[.val (.int p0), .val (.long q1), .second, .val (.long q2), .second, .val (.long q3), .second, .val (.long q4), .second, .val (.ref b1), .val (.long ln), .second, .val (.int (1 : Int32)), .val (.int (0 : Int32)), .val (.int (1 : Int32)), .val (.int (1 : Int32)), .val (.long q2), .second] [(.long q2), (.ref b1)])) _
            refine XS.lconst X100.here hx rfl (hb hby at_138) ?_
            show Steps p.tables e below (T100.setTop (mkF m 139 #[.val (.int p0), .val (.long q1), .second, .val (.long q2), .second, .val (.long q3), .second, .val (.long q4), .second, .val (.ref b1), .val (.long ln), .second, .val (.int (1 : Int32)), .val (.int (0 : Int32)), .val (.int (1 : Int32)), .val (.int (1 : Int32)), .val (.long q2), .second] [(.long (1 : Int64)), (.long q2), (.ref b1)])) _
            refine XS.lsub X100.here hx rfl (hb hby at_139) rfl ?_
            show Steps p.tables e below (T100.setTop (mkF m 140 #[.val (.int p0), .val (.long q1), .second, .val (.long q2), .second, .val (.long q3), .second, .val (.long q4), .second, .val (.ref b1), .val (.long ln), .second, .val (.int (1 : Int32)), .val (.int (0 : Int32)), .val (.int (1 : Int32)), .val (.int (1 : Int32)), .val (.long q2), .second] [(.long (q2 - (1 : Int64))), (.ref b1)])) _
            refine st103.trans ?_
            exact kt)
        obtain rfl : (1 : Int32) = r104 := Pr104.1 (own_s4 _ _)
        obtain ⟨fs, hr, hrun, hended, hW, hsame⟩ := X103.leave (v := some (.int (1 : Int32))) (fun h => by rw [Bd.returns] at h; cases h)
        refine ⟨_, _, pre105 _ ?_, hrun, hended, _, _, rfl, ?_, ⟨_, rfl⟩, hW, hsame.mono (by decide) (by decide)⟩
        · show Steps p.tables e below (T103.setTop (mkF m 143 #[.val (.int p0), .val (.long q1), .second, .val (.long q2), .second, .val (.long q3), .second, .val (.long q4), .second, .val (.ref b1), .val (.long ln), .second, .val (.int (1 : Int32)), .val (.int (0 : Int32)), .val (.int (1 : Int32)), .val (.int (1 : Int32)), .val (.long q2), .second] [(.int (1 : Int32))])) _
          exact retN X103 hx (t := .boolean) Bd.returns (by simp) (hb hby at_143) hr
        · show Q0 Z _ _ _ _ _ _ _ h0 n0 _ T103.heap _
          rw [e103]
          exact ⟨rfl, N103, trivial⟩
      · skip
        obtain ⟨cq106, kq106, q106a, q106b, q106c⟩ := isOf hZ e93 c37_1
        obtain ⟨_, _, ⟨T106, L106, k106, n106⟩, -, X106, ⟨Lc106, hQ106, l106, y106, z106⟩, st106⟩ := X93.virtualBack hx (y := (⟨"com/example/cluster_log/clusterlog/Lease", "answeredSince", "(J)Z"⟩ : MethodName)) (z := (⟨"com/example/cluster_log/clusterlog/Lease", "answeredSince", "(J)Z"⟩ : MethodName)) hown (mvT hZ (hw _ (List.mem_of_getElem? (i := 42) rfl))) (mvT hZ (hw _ (List.mem_of_getElem? (i := 43) rfl))) (notFace_of_selects (args := #[]) (mvT hZ (hw _ (List.mem_of_getElem? (i := 45) rfl)))) (mvT hZ (hw _ (List.mem_of_getElem? (i := 45) rfl))) (mvT hZ (hw _ (List.mem_of_getElem? (i := 44) rfl))) (by decide) (backOf (W := 0) (rm7 l Z aw hw [] b1 q4 ln (q2 + ln) T37.heap n0 (Nat.le_trans (Nat.le_trans (Nat.le_trans Z0 E1.1) c17_0.1) c37_0.1) c37_3 c37_2) hZ (hw _ (List.mem_of_getElem? (i := 46) rfl)) (hw _ (List.mem_of_getElem? (i := 2) rfl)) (by decide) (by decide)) q106a q106c (g := (mkF m 39 #[.val (.int p0), .val (.long q1), .second, .val (.long q2), .second, .val (.long q3), .second, .val (.long q4), .second, .val (.ref b1), .val (.long ln), .second, .val (.int (1 : Int32)), .val (.int (0 : Int32)), .unset, .unset, .unset, .unset] [(.long q4), (.ref b1)])) rfl (by rw [hml]; rfl) (Steps.refl _) (argsL := [(.long q4)]) (rest := []) (lenOf pd_4 rfl) rfl (by show 2 * 0 + _ ≤ _; exact Nat.le_of_eq rfl) (hb hby at_39) (fun _ _ => ⟨rfl, e93, (by decide : 1 + 0 ≤ _), (by decide : 3 + 0 ≤ _)⟩)
        dsimp only [Pt.U, Pt.locs, Pt.cells, Pt.slots] at X106 l106 y106 z106 st106 hQ106
        subst l106 y106 z106
        obtain ⟨⟨r107, rfl, Pr107⟩, Nq106, e106⟩ := hQ106
        have N106 := Fr.app N93 Nq106
        have pre108 : ∀ t, Steps p.tables e below (T106.setTop (mkF m 42 #[.val (.int p0), .val (.long q1), .second, .val (.long q2), .second, .val (.long q3), .second, .val (.long q4), .second, .val (.ref b1), .val (.long ln), .second, .val (.int (1 : Int32)), .val (.int (0 : Int32)), .unset, .unset, .unset, .unset] [(.int r107)])) t → Steps p.tables e below (s₁.setTop (entryFrame m #[(.int p0), (.long q1), (.long q2), (.long q3), (.long q4)] maxLocals)) t := fun t kt => pre94 t (by
            show Steps p.tables e below (T93.setTop (mkF m 39 #[.val (.int p0), .val (.long q1), .second, .val (.long q2), .second, .val (.long q3), .second, .val (.long q4), .second, .val (.ref b1), .val (.long ln), .second, .val (.int (1 : Int32)), .val (.int (0 : Int32)), .unset, .unset, .unset, .unset] [(.long q4), (.ref b1)])) _
            refine st106.trans ?_
            exact kt)
        obtain rfl : (0 : Int32) = r107 := Pr107.2 hs95
        obtain ⟨cq109, kq109, q109a, q109b, q109c⟩ := isOf hZ e106 c37_1
        obtain ⟨_, _, ⟨T109, L109, k109, n109⟩, -, X109, ⟨Lc109, hQ109, l109, y109, z109⟩, st109⟩ := X106.virtualBack hx (y := (⟨"com/example/cluster_log/clusterlog/Lease", "left", "(J)J"⟩ : MethodName)) (z := (⟨"com/example/cluster_log/clusterlog/Lease", "left", "(J)J"⟩ : MethodName)) hown (mvT hZ (hw _ (List.mem_of_getElem? (i := 47) rfl))) (mvT hZ (hw _ (List.mem_of_getElem? (i := 48) rfl))) (notFace_of_selects (args := #[]) (mvT hZ (hw _ (List.mem_of_getElem? (i := 50) rfl)))) (mvT hZ (hw _ (List.mem_of_getElem? (i := 50) rfl))) (mvT hZ (hw _ (List.mem_of_getElem? (i := 49) rfl))) (by decide) (backOf (W := 0) (rm8 l Z aw hw [] b1 q4 (q2 + ln) T37.heap n0 (Nat.le_trans (Nat.le_trans (Nat.le_trans Z0 E1.1) c17_0.1) c37_0.1) c37_3) hZ (hw _ (List.mem_of_getElem? (i := 51) rfl)) (hw _ (List.mem_of_getElem? (i := 2) rfl)) (by decide) (by decide)) q109a q109c (g := (mkF m 48 #[.val (.int p0), .val (.long q1), .second, .val (.long q2), .second, .val (.long q3), .second, .val (.long q4), .second, .val (.ref b1), .val (.long ln), .second, .val (.int (1 : Int32)), .val (.int (0 : Int32)), .val (.int (0 : Int32)), .unset, .unset, .unset] [(.long q4), (.ref b1)])) rfl (by rw [hml]; rfl) (Steps.refl _) (argsL := [(.long q4)]) (rest := []) (lenOf pd_0 rfl) rfl (by show 2 * 0 + _ ≤ _; exact Nat.le_of_eq rfl) (hb hby at_48) (fun _ _ => ⟨rfl, e106, (by decide : 1 + 0 ≤ _), (by decide : 3 + 0 ≤ _)⟩)
        dsimp only [Pt.U, Pt.locs, Pt.cells, Pt.slots] at X109 l109 y109 z109 st109 hQ109
        subst l109 y109 z109
        obtain ⟨rfl, Nq109, e109⟩ := hQ109
        have N109 := Fr.app N106 Nq109
        obtain ⟨cq110, kq110, q110a, q110b, q110c⟩ := isOf hZ e109 c37_1
        obtain ⟨_, _, ⟨T110, L110, k110, n110⟩, -, X110, ⟨Lc110, hQ110, l110, y110, z110⟩, st110⟩ := X109.virtualBack hx (y := (⟨"com/example/cluster_log/clusterlog/Lease", "answeredSince", "(J)Z"⟩ : MethodName)) (z := (⟨"com/example/cluster_log/clusterlog/Lease", "answeredSince", "(J)Z"⟩ : MethodName)) hown (mvT hZ (hw _ (List.mem_of_getElem? (i := 42) rfl))) (mvT hZ (hw _ (List.mem_of_getElem? (i := 43) rfl))) (notFace_of_selects (args := #[]) (mvT hZ (hw _ (List.mem_of_getElem? (i := 45) rfl)))) (mvT hZ (hw _ (List.mem_of_getElem? (i := 45) rfl))) (mvT hZ (hw _ (List.mem_of_getElem? (i := 44) rfl))) (by decide) (backOf (W := 0) (rm7 l Z aw hw [] b1 q2 ln (q2 + ln) T37.heap n0 (Nat.le_trans (Nat.le_trans (Nat.le_trans Z0 E1.1) c17_0.1) c37_0.1) c37_3 c37_2) hZ (hw _ (List.mem_of_getElem? (i := 46) rfl)) (hw _ (List.mem_of_getElem? (i := 2) rfl)) (by decide) (by decide)) q110a q110c (g := (mkF m 126 #[.val (.int p0), .val (.long q1), .second, .val (.long q2), .second, .val (.long q3), .second, .val (.long q4), .second, .val (.ref b1), .val (.long ln), .second, .val (.int (1 : Int32)), .val (.int (0 : Int32)), .val (.int (0 : Int32)), .val (.int (0 : Int32)), .val (.long q2), .second] [(.long q2), (.ref b1)])) rfl (by rw [hml]; rfl) (Steps.refl _) (argsL := [(.long q2)]) (rest := []) (lenOf pd_4 rfl) rfl (by show 2 * 0 + _ ≤ _; exact Nat.le_of_eq rfl) (hb hby at_126) (fun _ _ => ⟨rfl, e109, (by decide : 1 + 0 ≤ _), (by decide : 3 + 0 ≤ _)⟩)
        dsimp only [Pt.U, Pt.locs, Pt.cells, Pt.slots] at X110 l110 y110 z110 st110 hQ110
        subst l110 y110 z110
        obtain ⟨⟨r111, rfl, Pr111⟩, Nq110, e110⟩ := hQ110
        have N110 := Fr.app N109 Nq110
        have pre112 : ∀ t, Steps p.tables e below (T110.setTop (mkF m 129 #[.val (.int p0), .val (.long q1), .second, .val (.long q2), .second, .val (.long q3), .second, .val (.long q4), .second, .val (.ref b1), .val (.long ln), .second, .val (.int (1 : Int32)), .val (.int (0 : Int32)), .val (.int (0 : Int32)), .val (.int (0 : Int32)), .val (.long q2), .second] [(.int r111)])) t → Steps p.tables e below (s₁.setTop (entryFrame m #[(.int p0), (.long q1), (.long q2), (.long q3), (.long q4)] maxLocals)) t := fun t kt => pre108 t (by
            show Steps p.tables e below (T106.setTop (mkF m 42 #[.val (.int p0), .val (.long q1), .second, .val (.long q2), .second, .val (.long q3), .second, .val (.long q4), .second, .val (.ref b1), .val (.long ln), .second, .val (.int (1 : Int32)), .val (.int (0 : Int32)), .unset, .unset, .unset, .unset] [(.int (0 : Int32))])) _
            refine XS.istore X106.here hx rfl (hb hby at_42) rfl (l' := #[.val (.int p0), .val (.long q1), .second, .val (.long q2), .second, .val (.long q3), .second, .val (.long q4), .second, .val (.ref b1), .val (.long ln), .second, .val (.int (1 : Int32)), .val (.int (0 : Int32)), .val (.int (0 : Int32)), .unset, .unset, .unset]) rfl ?_
            show Steps p.tables e below (T106.setTop (mkF m 44 #[.val (.int p0), .val (.long q1), .second, .val (.long q2), .second, .val (.long q3), .second, .val (.long q4), .second, .val (.ref b1), .val (.long ln), .second, .val (.int (1 : Int32)), .val (.int (0 : Int32)), .val (.int (0 : Int32)), .unset, .unset, .unset] [])) _
            refine XS.aload X106.here hx rfl (hb hby at_44) rfl rfl ?_
            show Steps p.tables e below (T106.setTop (mkF m 46 #[.val (.int p0), .val (.long q1), .second, .val (.long q2), .second, .val (.long q3), .second, .val (.long q4), .second, .val (.ref b1), .val (.long ln), .second, .val (.int (1 : Int32)), .val (.int (0 : Int32)), .val (.int (0 : Int32)), .unset, .unset, .unset] [(.ref b1)])) _
            refine XS.lload X106.here hx rfl (hb hby at_46) rfl ?_
            show Steps p.tables e below (T106.setTop (mkF m 48 #[.val (.int p0), .val (.long q1), .second, .val (.long q2), .second, .val (.long q3), .second, .val (.long q4), .second, .val (.ref b1), .val (.long ln), .second, .val (.int (1 : Int32)), .val (.int (0 : Int32)), .val (.int (0 : Int32)), .unset, .unset, .unset] [(.long q4), (.ref b1)])) _
            refine st109.trans ?_
            show Steps p.tables e below (T109.setTop (mkF m 51 #[.val (.int p0), .val (.long q1), .second, .val (.long q2), .second, .val (.long q3), .second, .val (.long q4), .second, .val (.ref b1), .val (.long ln), .second, .val (.int (1 : Int32)), .val (.int (0 : Int32)), .val (.int (0 : Int32)), .unset, .unset, .unset] [(.long ((q2 + ln) - q4))])) _
            refine XS.lload X109.here hx rfl (hb hby at_51) rfl ?_
            show Steps p.tables e below (T109.setTop (mkF m 53 #[.val (.int p0), .val (.long q1), .second, .val (.long q2), .second, .val (.long q3), .second, .val (.long q4), .second, .val (.ref b1), .val (.long ln), .second, .val (.int (1 : Int32)), .val (.int (0 : Int32)), .val (.int (0 : Int32)), .unset, .unset, .unset] [(.long ln), (.long ((q2 + ln) - q4))])) _
            refine XS.lsub X109.here hx rfl (hb hby at_53) rfl ?_
            show Steps p.tables e below (T109.setTop (mkF m 54 #[.val (.int p0), .val (.long q1), .second, .val (.long q2), .second, .val (.long q3), .second, .val (.long q4), .second, .val (.ref b1), .val (.long ln), .second, .val (.int (1 : Int32)), .val (.int (0 : Int32)), .val (.int (0 : Int32)), .unset, .unset, .unset] [(.long (((q2 + ln) - q4) - ln))])) _
            refine XS.lconst X109.here hx rfl (hb hby at_54) ?_
            show Steps p.tables e below (T109.setTop (mkF m 55 #[.val (.int p0), .val (.long q1), .second, .val (.long q2), .second, .val (.long q3), .second, .val (.long q4), .second, .val (.ref b1), .val (.long ln), .second, .val (.int (1 : Int32)), .val (.int (0 : Int32)), .val (.int (0 : Int32)), .unset, .unset, .unset] [(.long (0 : Int64)), (.long (((q2 + ln) - q4) - ln))])) _
            refine XS.lcmp X109.here hx rfl (hb hby at_55) rfl ?_
            show Steps p.tables e below (T109.setTop (mkF m 56 #[.val (.int p0), .val (.long q1), .second, .val (.long q2), .second, .val (.long q3), .second, .val (.long q4), .second, .val (.ref b1), .val (.long ln), .second, .val (.int (1 : Int32)), .val (.int (0 : Int32)), .val (.int (0 : Int32)), .unset, .unset, .unset] [(.int (lcmpW (((q2 + ln) - q4) - ln) (0 : Int64)))])) _
            refine XS.ifYes X109.here hx rfl (pc0 := 56) (pc' := 63) rfl (hb hby at_56) rfl ((if0 _ _).trans (flt (fun z => hs95 (own_s1 _ _ _ ▸ (lw_gt _ _).mp z))).2.2.2) (by decide) (by decide) ?_
            show Steps p.tables e below (T109.setTop (mkF m 63 #[.val (.int p0), .val (.long q1), .second, .val (.long q2), .second, .val (.long q3), .second, .val (.long q4), .second, .val (.ref b1), .val (.long ln), .second, .val (.int (1 : Int32)), .val (.int (0 : Int32)), .val (.int (0 : Int32)), .unset, .unset, .unset] [])) _
            refine XS.iconst X109.here hx rfl (hb hby at_63) ?_
            show Steps p.tables e below (T109.setTop (mkF m 64 #[.val (.int p0), .val (.long q1), .second, .val (.long q2), .second, .val (.long q3), .second, .val (.long q4), .second, .val (.ref b1), .val (.long ln), .second, .val (.int (1 : Int32)), .val (.int (0 : Int32)), .val (.int (0 : Int32)), .unset, .unset, .unset] [(.int (0 : Int32))])) _
            refine XS.istore X109.here hx rfl (hb hby at_64) rfl (l' := #[.val (.int p0), .val (.long q1), .second, .val (.long q2), .second, .val (.long q3), .second, .val (.long q4), .second, .val (.ref b1), .val (.long ln), .second, .val (.int (1 : Int32)), .val (.int (0 : Int32)), .val (.int (0 : Int32)), .val (.int (0 : Int32)), .unset, .unset]) rfl ?_
            show Steps p.tables e below (T109.setTop (mkF m 66 #[.val (.int p0), .val (.long q1), .second, .val (.long q2), .second, .val (.long q3), .second, .val (.long q4), .second, .val (.ref b1), .val (.long ln), .second, .val (.int (1 : Int32)), .val (.int (0 : Int32)), .val (.int (0 : Int32)), .val (.int (0 : Int32)), .unset, .unset] [])) _
            refine XS.iload X109.here hx rfl (hb hby at_66) rfl ?_
            show Steps p.tables e below (T109.setTop (mkF m 68 #[.val (.int p0), .val (.long q1), .second, .val (.long q2), .second, .val (.long q3), .second, .val (.long q4), .second, .val (.ref b1), .val (.long ln), .second, .val (.int (1 : Int32)), .val (.int (0 : Int32)), .val (.int (0 : Int32)), .val (.int (0 : Int32)), .unset, .unset] [(.int (0 : Int32))])) _
            refine XS.iload X109.here hx rfl (hb hby at_68) rfl ?_
            show Steps p.tables e below (T109.setTop (mkF m 70 #[.val (.int p0), .val (.long q1), .second, .val (.long q2), .second, .val (.long q3), .second, .val (.long q4), .second, .val (.ref b1), .val (.long ln), .second, .val (.int (1 : Int32)), .val (.int (0 : Int32)), .val (.int (0 : Int32)), .val (.int (0 : Int32)), .unset, .unset] [(.int (0 : Int32)), (.int (0 : Int32))])) _
            refine XS.icmpYes X109.here hx rfl (pc0 := 70) (pc' := 75) rfl (hb hby at_70) rfl (teq (rfl : (0 : Int32) = (0 : Int32))).1 (by decide) (by decide) ?_
            show Steps p.tables e below (T109.setTop (mkF m 75 #[.val (.int p0), .val (.long q1), .second, .val (.long q2), .second, .val (.long q3), .second, .val (.long q4), .second, .val (.ref b1), .val (.long ln), .second, .val (.int (1 : Int32)), .val (.int (0 : Int32)), .val (.int (0 : Int32)), .val (.int (0 : Int32)), .unset, .unset] [])) _
            refine XS.iload X109.here hx rfl (hb hby at_75) rfl ?_
            show Steps p.tables e below (T109.setTop (mkF m 77 #[.val (.int p0), .val (.long q1), .second, .val (.long q2), .second, .val (.long q3), .second, .val (.long q4), .second, .val (.ref b1), .val (.long ln), .second, .val (.int (1 : Int32)), .val (.int (0 : Int32)), .val (.int (0 : Int32)), .val (.int (0 : Int32)), .unset, .unset] [(.int (1 : Int32))])) _
            refine XS.ifYes X109.here hx rfl (pc0 := 77) (pc' := 87) rfl (hb hby at_77) rfl ((if0 _ _).trans (feq (by decide : ¬ ((1 : Int32) = (0 : Int32)))).2) (by decide) (by decide) ?_
            show Steps p.tables e below (T109.setTop (mkF m 87 #[.val (.int p0), .val (.long q1), .second, .val (.long q2), .second, .val (.long q3), .second, .val (.long q4), .second, .val (.ref b1), .val (.long ln), .second, .val (.int (1 : Int32)), .val (.int (0 : Int32)), .val (.int (0 : Int32)), .val (.int (0 : Int32)), .unset, .unset] [])) _
            refine XS.iload X109.here hx rfl (hb hby at_87) rfl ?_
            show Steps p.tables e below (T109.setTop (mkF m 89 #[.val (.int p0), .val (.long q1), .second, .val (.long q2), .second, .val (.long q3), .second, .val (.long q4), .second, .val (.ref b1), .val (.long ln), .second, .val (.int (1 : Int32)), .val (.int (0 : Int32)), .val (.int (0 : Int32)), .val (.int (0 : Int32)), .unset, .unset] [(.int (0 : Int32))])) _
            refine XS.ifYes X109.here hx rfl (pc0 := 89) (pc' := 97) rfl (hb hby at_89) rfl ((if0 _ _).trans (teq (rfl : (0 : Int32) = (0 : Int32))).1) (by decide) (by decide) ?_
            show Steps p.tables e below (T109.setTop (mkF m 97 #[.val (.int p0), .val (.long q1), .second, .val (.long q2), .second, .val (.long q3), .second, .val (.long q4), .second, .val (.ref b1), .val (.long ln), .second, .val (.int (1 : Int32)), .val (.int (0 : Int32)), .val (.int (0 : Int32)), .val (.int (0 : Int32)), .unset, .unset] [])) _
            refine XS.lloadN X109.here hx rfl (hb hby at_97) rfl ?_
            show Steps p.tables e below (T109.setTop (mkF m 98 #[.val (.int p0), .val (.long q1), .second, .val (.long q2), .second, .val (.long q3), .second, .val (.long q4), .second, .val (.ref b1), .val (.long ln), .second, .val (.int (1 : Int32)), .val (.int (0 : Int32)), .val (.int (0 : Int32)), .val (.int (0 : Int32)), .unset, .unset] [(.long q2)])) _
            refine XS.lstore X109.here hx rfl (hb hby at_98) rfl (l' := #[.val (.int p0), .val (.long q1), .second, .val (.long q2), .second, .val (.long q3), .second, .val (.long q4), .second, .val (.ref b1), .val (.long ln), .second, .val (.int (1 : Int32)), .val (.int (0 : Int32)), .val (.int (0 : Int32)), .val (.int (0 : Int32)), .val (.long q2), .second]) rfl ?_
            show Steps p.tables e below (T109.setTop (mkF m 100 #[.val (.int p0), .val (.long q1), .second, .val (.long q2), .second, .val (.long q3), .second, .val (.long q4), .second, .val (.ref b1), .val (.long ln), .second, .val (.int (1 : Int32)), .val (.int (0 : Int32)), .val (.int (0 : Int32)), .val (.int (0 : Int32)), .val (.long q2), .second] [])) _
            refine XS.iload X109.here hx rfl (hb hby at_100) rfl ?_
            show Steps p.tables e below (T109.setTop (mkF m 102 #[.val (.int p0), .val (.long q1), .second, .val (.long q2), .second, .val (.long q3), .second, .val (.long q4), .second, .val (.ref b1), .val (.long ln), .second, .val (.int (1 : Int32)), .val (.int (0 : Int32)), .val (.int (0 : Int32)), .val (.int (0 : Int32)), .val (.long q2), .second] [(.int (0 : Int32))])) _
            refine XS.lload X109.here hx rfl (hb hby at_102) rfl ?_
            show Steps p.tables e below (T109.setTop (mkF m 104 #[.val (.int p0), .val (.long q1), .second, .val (.long q2), .second, .val (.long q3), .second, .val (.long q4), .second, .val (.ref b1), .val (.long ln), .second, .val (.int (1 : Int32)), .val (.int (0 : Int32)), .val (.int (0 : Int32)), .val (.int (0 : Int32)), .val (.long q2), .second] [(.long q2), (.int (0 : Int32))])) _
            refine XS.lload X109.here hx rfl (hb hby at_104) rfl ?_
            show Steps p.tables e below (T109.setTop (mkF m 106 #[.val (.int p0), .val (.long q1), .second, .val (.long q2), .second, .val (.long q3), .second, .val (.long q4), .second, .val (.ref b1), .val (.long ln), .second, .val (.int (1 : Int32)), .val (.int (0 : Int32)), .val (.int (0 : Int32)), .val (.int (0 : Int32)), .val (.long q2), .second] [(.long q4), (.long q2), (.int (0 : Int32))])) _
            refine XS.lsub X109.here hx rfl (hb hby at_106) rfl ?_
            show Steps p.tables e below (T109.setTop (mkF m 107 #[.val (.int p0), .val (.long q1), .second, .val (.long q2), .second, .val (.long q3), .second, .val (.long q4), .second, .val (.ref b1), .val (.long ln), .second, .val (.int (1 : Int32)), .val (.int (0 : Int32)), .val (.int (0 : Int32)), .val (.int (0 : Int32)), .val (.long q2), .second] [(.long (q2 - q4)), (.int (0 : Int32))])) _
            refine XS.lconst X109.here hx rfl (hb hby at_107) ?_
            show Steps p.tables e below (T109.setTop (mkF m 108 #[.val (.int p0), .val (.long q1), .second, .val (.long q2), .second, .val (.long q3), .second, .val (.long q4), .second, .val (.ref b1), .val (.long ln), .second, .val (.int (1 : Int32)), .val (.int (0 : Int32)), .val (.int (0 : Int32)), .val (.int (0 : Int32)), .val (.long q2), .second] [(.long (0 : Int64)), (.long (q2 - q4)), (.int (0 : Int32))])) _
            refine XS.lcmp X109.here hx rfl (hb hby at_108) rfl ?_
            show Steps p.tables e below (T109.setTop (mkF m 109 #[.val (.int p0), .val (.long q1), .second, .val (.long q2), .second, .val (.long q3), .second, .val (.long q4), .second, .val (.ref b1), .val (.long ln), .second, .val (.int (1 : Int32)), .val (.int (0 : Int32)), .val (.int (0 : Int32)), .val (.int (0 : Int32)), .val (.long q2), .second] [(.int (lcmpW (q2 - q4) (0 : Int64))), (.int (0 : Int32))])) _
            refine XS.ifYes X109.here hx rfl (pc0 := 109) (pc' := 116) rfl (hb hby at_109) rfl ((if0 _ _).trans (flt (fun z => hs95 ((own_s2 _ _ _).symm ▸ (lw_gt _ _).mp z))).2.2.2) (by decide) (by decide) ?_
            show Steps p.tables e below (T109.setTop (mkF m 116 #[.val (.int p0), .val (.long q1), .second, .val (.long q2), .second, .val (.long q3), .second, .val (.long q4), .second, .val (.ref b1), .val (.long ln), .second, .val (.int (1 : Int32)), .val (.int (0 : Int32)), .val (.int (0 : Int32)), .val (.int (0 : Int32)), .val (.long q2), .second] [(.int (0 : Int32))])) _
            refine XS.iconst X109.here hx rfl (hb hby at_116) ?_
            show Steps p.tables e below (T109.setTop (mkF m 117 #[.val (.int p0), .val (.long q1), .second, .val (.long q2), .second, .val (.long q3), .second, .val (.long q4), .second, .val (.ref b1), .val (.long ln), .second, .val (.int (1 : Int32)), .val (.int (0 : Int32)), .val (.int (0 : Int32)), .val (.int (0 : Int32)), .val (.long q2), .second] [(.int (0 : Int32)), (.int (0 : Int32))])) _
            refine XS.icmpYes X109.here hx rfl (pc0 := 117) (pc' := 122) rfl (hb hby at_117) rfl (teq (rfl : (0 : Int32) = (0 : Int32))).1 (by decide) (by decide) ?_
            show Steps p.tables e below (T109.setTop (mkF m 122 #[.val (.int p0), .val (.long q1), .second, .val (.long q2), .second, .val (.long q3), .second, .val (.long q4), .second, .val (.ref b1), .val (.long ln), .second, .val (.int (1 : Int32)), .val (.int (0 : Int32)), .val (.int (0 : Int32)), .val (.int (0 : Int32)), .val (.long q2), .second] [])) _
            refine XS.aload X109.here hx rfl (hb hby at_122) rfl rfl ?_
            show Steps p.tables e below (T109.setTop (mkF m 124 #[.val (.int p0), .val (.long q1), .second, .val (.long q2), .second, .val (.long q3), .second, .val (.long q4), .second, .val (.ref b1), .val (.long ln), .second, .val (.int (1 : Int32)), .val (.int (0 : Int32)), .val (.int (0 : Int32)), .val (.int (0 : Int32)), .val (.long q2), .second] [(.ref b1)])) _
            refine XS.lload X109.here hx rfl (hb hby at_124) rfl ?_
            show Steps p.tables e below (T109.setTop (mkF m 126 #[.val (.int p0), .val (.long q1), .second, .val (.long q2), .second, .val (.long q3), .second, .val (.long q4), .second, .val (.ref b1), .val (.long ln), .second, .val (.int (1 : Int32)), .val (.int (0 : Int32)), .val (.int (0 : Int32)), .val (.int (0 : Int32)), .val (.long q2), .second] [(.long q2), (.ref b1)])) _
            refine st110.trans ?_
            exact kt)
        obtain rfl : (0 : Int32) = r111 := Pr111.2 (own_s3 _ _)
        obtain ⟨cq113, kq113, q113a, q113b, q113c⟩ := isOf hZ e110 c37_1
        obtain ⟨_, _, ⟨T113, L113, k113, n113⟩, -, X113, ⟨Lc113, hQ113, l113, y113, z113⟩, st113⟩ := X110.virtualBack hx (y := (⟨"com/example/cluster_log/clusterlog/Lease", "answeredSince", "(J)Z"⟩ : MethodName)) (z := (⟨"com/example/cluster_log/clusterlog/Lease", "answeredSince", "(J)Z"⟩ : MethodName)) hown (mvT hZ (hw _ (List.mem_of_getElem? (i := 42) rfl))) (mvT hZ (hw _ (List.mem_of_getElem? (i := 43) rfl))) (notFace_of_selects (args := #[]) (mvT hZ (hw _ (List.mem_of_getElem? (i := 45) rfl)))) (mvT hZ (hw _ (List.mem_of_getElem? (i := 45) rfl))) (mvT hZ (hw _ (List.mem_of_getElem? (i := 44) rfl))) (by decide) (backOf (W := 0) (rm7 l Z aw hw [] b1 (q2 - (1 : Int64)) ln (q2 + ln) T37.heap n0 (Nat.le_trans (Nat.le_trans (Nat.le_trans Z0 E1.1) c17_0.1) c37_0.1) c37_3 c37_2) hZ (hw _ (List.mem_of_getElem? (i := 46) rfl)) (hw _ (List.mem_of_getElem? (i := 2) rfl)) (by decide) (by decide)) q113a q113c (g := (mkF m 140 #[.val (.int p0), .val (.long q1), .second, .val (.long q2), .second, .val (.long q3), .second, .val (.long q4), .second, .val (.ref b1), .val (.long ln), .second, .val (.int (1 : Int32)), .val (.int (0 : Int32)), .val (.int (0 : Int32)), .val (.int (0 : Int32)), .val (.long q2), .second] [(.long (q2 - (1 : Int64))), (.ref b1)])) rfl (by rw [hml]; rfl) (Steps.refl _) (argsL := [(.long (q2 - (1 : Int64)))]) (rest := []) (lenOf pd_4 rfl) rfl (by show 2 * 0 + _ ≤ _; exact Nat.le_of_eq rfl) (hb hby at_140) (fun _ _ => ⟨rfl, e110, (by decide : 1 + 0 ≤ _), (by decide : 3 + 0 ≤ _)⟩)
        dsimp only [Pt.U, Pt.locs, Pt.cells, Pt.slots] at X113 l113 y113 z113 st113 hQ113
        subst l113 y113 z113
        obtain ⟨⟨r114, rfl, Pr114⟩, Nq113, e113⟩ := hQ113
        have N113 := Fr.app N110 Nq113
        have pre115 : ∀ t, Steps p.tables e below (T113.setTop (mkF m 143 #[.val (.int p0), .val (.long q1), .second, .val (.long q2), .second, .val (.long q3), .second, .val (.long q4), .second, .val (.ref b1), .val (.long ln), .second, .val (.int (1 : Int32)), .val (.int (0 : Int32)), .val (.int (0 : Int32)), .val (.int (0 : Int32)), .val (.long q2), .second] [(.int r114)])) t → Steps p.tables e below (s₁.setTop (entryFrame m #[(.int p0), (.long q1), (.long q2), (.long q3), (.long q4)] maxLocals)) t := fun t kt => pre112 t (by
            show Steps p.tables e below (T110.setTop (mkF m 129 #[.val (.int p0), .val (.long q1), .second, .val (.long q2), .second, .val (.long q3), .second, .val (.long q4), .second, .val (.ref b1), .val (.long ln), .second, .val (.int (1 : Int32)), .val (.int (0 : Int32)), .val (.int (0 : Int32)), .val (.int (0 : Int32)), .val (.long q2), .second] [(.int (0 : Int32))])) _
            refine XS.ifYes X110.here hx rfl (pc0 := 129) (pc' := 134) rfl (hb hby at_129) rfl ((if0 _ _).trans (teq (rfl : (0 : Int32) = (0 : Int32))).1) (by decide) (by decide) ?_
            show Steps p.tables e below (T110.setTop (mkF m 134 #[.val (.int p0), .val (.long q1), .second, .val (.long q2), .second, .val (.long q3), .second, .val (.long q4), .second, .val (.ref b1), .val (.long ln), .second, .val (.int (1 : Int32)), .val (.int (0 : Int32)), .val (.int (0 : Int32)), .val (.int (0 : Int32)), .val (.long q2), .second] [])) _
            refine XS.aload X110.here hx rfl (hb hby at_134) rfl rfl ?_
            show Steps p.tables e below (T110.setTop (mkF m 136 #[.val (.int p0), .val (.long q1), .second, .val (.long q2), .second, .val (.long q3), .second, .val (.long q4), .second, .val (.ref b1), .val (.long ln), .second, .val (.int (1 : Int32)), .val (.int (0 : Int32)), .val (.int (0 : Int32)), .val (.int (0 : Int32)), .val (.long q2), .second] [(.ref b1)])) _
            refine XS.lload X110.here hx rfl (hb hby at_136) rfl ?_
            show Steps p.tables e below (T110.setTop (mkF m 138 #[.val (.int p0), .val (.long q1), .second, .val (.long q2), .second, .val (.long q3), .second, .val (.long q4), .second, .val (.ref b1), .val (.long ln), .second, .val (.int (1 : Int32)), .val (.int (0 : Int32)), .val (.int (0 : Int32)), .val (.int (0 : Int32)), .val (.long q2), .second] [(.long q2), (.ref b1)])) _
            refine XS.lconst X110.here hx rfl (hb hby at_138) ?_
            show Steps p.tables e below (T110.setTop (mkF m 139 #[.val (.int p0), .val (.long q1), .second, .val (.long q2), .second, .val (.long q3), .second, .val (.long q4), .second, .val (.ref b1), .val (.long ln), .second, .val (.int (1 : Int32)), .val (.int (0 : Int32)), .val (.int (0 : Int32)), .val (.int (0 : Int32)), .val (.long q2), .second] [(.long (1 : Int64)), (.long q2), (.ref b1)])) _
            refine XS.lsub X110.here hx rfl (hb hby at_139) rfl ?_
            show Steps p.tables e below (T110.setTop (mkF m 140 #[.val (.int p0), .val (.long q1), .second, .val (.long q2), .second, .val (.long q3), .second, .val (.long q4), .second, .val (.ref b1), .val (.long ln), .second, .val (.int (1 : Int32)), .val (.int (0 : Int32)), .val (.int (0 : Int32)), .val (.int (0 : Int32)), .val (.long q2), .second] [(.long (q2 - (1 : Int64))), (.ref b1)])) _
            refine st113.trans ?_
            exact kt)
        obtain rfl : (1 : Int32) = r114 := Pr114.1 (own_s4 _ _)
        obtain ⟨fs, hr, hrun, hended, hW, hsame⟩ := X113.leave (v := some (.int (1 : Int32))) (fun h => by rw [Bd.returns] at h; cases h)
        refine ⟨_, _, pre115 _ ?_, hrun, hended, _, _, rfl, ?_, ⟨_, rfl⟩, hW, hsame.mono (by decide) (by decide)⟩
        · show Steps p.tables e below (T113.setTop (mkF m 143 #[.val (.int p0), .val (.long q1), .second, .val (.long q2), .second, .val (.long q3), .second, .val (.long q4), .second, .val (.ref b1), .val (.long ln), .second, .val (.int (1 : Int32)), .val (.int (0 : Int32)), .val (.int (0 : Int32)), .val (.int (0 : Int32)), .val (.long q2), .second] [(.int (1 : Int32))])) _
          exact retN X113 hx (t := .boolean) Bd.returns (by simp) (hb hby at_143) hr
        · show Q0 Z _ _ _ _ _ _ _ h0 n0 _ T113.heap _
          rw [e113]
          exact ⟨rfl, N113, trivial⟩
  · skip
    obtain ⟨cq116, kq116, q116a, q116b, q116c⟩ := isOf hZ e33 c17_1
    obtain ⟨_, _, ⟨T116, L116, k116, n116⟩, -, X116, ⟨Lc116, hQ116, l116, y116, z116⟩, st116⟩ := X33.virtualBack hx (y := (⟨"com/example/cluster_log/clusterlog/Lease", "renew", "(J)Z"⟩ : MethodName)) (z := (⟨"com/example/cluster_log/clusterlog/Lease", "renew", "(J)Z"⟩ : MethodName)) hown (mvT hZ (hw _ (List.mem_of_getElem? (i := 37) rfl))) (mvT hZ (hw _ (List.mem_of_getElem? (i := 38) rfl))) (notFace_of_selects (args := #[]) (mvT hZ (hw _ (List.mem_of_getElem? (i := 40) rfl)))) (mvT hZ (hw _ (List.mem_of_getElem? (i := 40) rfl))) (mvT hZ (hw _ (List.mem_of_getElem? (i := 39) rfl))) (by decide) (backOf (W := 0) (rmN l Z aw hw [] b1 q2 ln q1 T17.heap n0 (Nat.le_trans (Nat.le_trans Z0 E1.1) c17_0.1) hs36 c17_2 c17_3) hZ (hw _ (List.mem_of_getElem? (i := 41) rfl)) (hw _ (List.mem_of_getElem? (i := 2) rfl)) (by decide) (by decide)) q116a q116c (g := (mkF m 21 #[.val (.int p0), .val (.long q1), .second, .val (.long q2), .second, .val (.long q3), .second, .val (.long q4), .second, .val (.ref b1), .val (.long ln), .second, .unset, .unset, .unset, .unset, .unset, .unset] [(.long q2), (.ref b1)])) rfl (by rw [hml]; rfl) (Steps.refl _) (argsL := [(.long q2)]) (rest := []) (lenOf pd_4 rfl) rfl (by show 2 * 0 + _ ≤ _; exact Nat.le_of_eq rfl) (hb hby at_21) (fun _ _ => ⟨rfl, e33, (by decide : 1 + 0 ≤ _), (by decide : 3 + 0 ≤ _)⟩)
    dsimp only [Pt.U, Pt.locs, Pt.cells, Pt.slots] at X116 l116 y116 z116 st116 hQ116
    subst l116 y116 z116
    obtain ⟨rfl, Nq116, e116⟩ := hQ116
    have N116 := Fr.app N33 Nq116
    have pre117 : ∀ t, Steps p.tables e below (T116.setTop (mkF m 30 #[.val (.int p0), .val (.long q1), .second, .val (.long q2), .second, .val (.long q3), .second, .val (.long q4), .second, .val (.ref b1), .val (.long ln), .second, .val (.int (0 : Int32)), .unset, .unset, .unset, .unset, .unset] [(.long q3), (.ref b1)])) t → Steps p.tables e below (s₁.setTop (entryFrame m #[(.int p0), (.long q1), (.long q2), (.long q3), (.long q4)] maxLocals)) t := fun t kt => pre35 t (by
        show Steps p.tables e below (T33.setTop (mkF m 21 #[.val (.int p0), .val (.long q1), .second, .val (.long q2), .second, .val (.long q3), .second, .val (.long q4), .second, .val (.ref b1), .val (.long ln), .second, .unset, .unset, .unset, .unset, .unset, .unset] [(.long q2), (.ref b1)])) _
        refine st116.trans ?_
        show Steps p.tables e below (T116.setTop (mkF m 24 #[.val (.int p0), .val (.long q1), .second, .val (.long q2), .second, .val (.long q3), .second, .val (.long q4), .second, .val (.ref b1), .val (.long ln), .second, .unset, .unset, .unset, .unset, .unset, .unset] [(.int (0 : Int32))])) _
        refine XS.istore X116.here hx rfl (hb hby at_24) rfl (l' := #[.val (.int p0), .val (.long q1), .second, .val (.long q2), .second, .val (.long q3), .second, .val (.long q4), .second, .val (.ref b1), .val (.long ln), .second, .val (.int (0 : Int32)), .unset, .unset, .unset, .unset, .unset]) rfl ?_
        show Steps p.tables e below (T116.setTop (mkF m 26 #[.val (.int p0), .val (.long q1), .second, .val (.long q2), .second, .val (.long q3), .second, .val (.long q4), .second, .val (.ref b1), .val (.long ln), .second, .val (.int (0 : Int32)), .unset, .unset, .unset, .unset, .unset] [])) _
        refine XS.aload X116.here hx rfl (hb hby at_26) rfl rfl ?_
        show Steps p.tables e below (T116.setTop (mkF m 28 #[.val (.int p0), .val (.long q1), .second, .val (.long q2), .second, .val (.long q3), .second, .val (.long q4), .second, .val (.ref b1), .val (.long ln), .second, .val (.int (0 : Int32)), .unset, .unset, .unset, .unset, .unset] [(.ref b1)])) _
        refine XS.lload X116.here hx rfl (hb hby at_28) rfl ?_
        exact kt)
    by_cases hs118 : (0 : Int64) < ((q3 + ln) - q1)
    · skip
      obtain ⟨cq119, kq119, q119a, q119b, q119c⟩ := isOf hZ e116 c17_1
      obtain ⟨_, _, ⟨T119, L119, k119, n119⟩, -, X119, ⟨Lc119, hQ119, l119, y119, z119⟩, st119⟩ := X116.virtualBack hx (y := (⟨"com/example/cluster_log/clusterlog/Lease", "renew", "(J)Z"⟩ : MethodName)) (z := (⟨"com/example/cluster_log/clusterlog/Lease", "renew", "(J)Z"⟩ : MethodName)) hown (mvT hZ (hw _ (List.mem_of_getElem? (i := 37) rfl))) (mvT hZ (hw _ (List.mem_of_getElem? (i := 38) rfl))) (notFace_of_selects (args := #[]) (mvT hZ (hw _ (List.mem_of_getElem? (i := 40) rfl)))) (mvT hZ (hw _ (List.mem_of_getElem? (i := 40) rfl))) (mvT hZ (hw _ (List.mem_of_getElem? (i := 39) rfl))) (by decide) (backOf (W := 0) (rmY l Z aw hw [] b1 q3 ln q1 T17.heap n0 (Nat.le_trans (Nat.le_trans Z0 E1.1) c17_0.1) hs118 c17_2 c17_3 c17_1 ge_b1) hZ (hw _ (List.mem_of_getElem? (i := 41) rfl)) (hw _ (List.mem_of_getElem? (i := 2) rfl)) (by decide) (by decide)) q119a q119c (g := (mkF m 30 #[.val (.int p0), .val (.long q1), .second, .val (.long q2), .second, .val (.long q3), .second, .val (.long q4), .second, .val (.ref b1), .val (.long ln), .second, .val (.int (0 : Int32)), .unset, .unset, .unset, .unset, .unset] [(.long q3), (.ref b1)])) rfl (by rw [hml]; rfl) (Steps.refl _) (argsL := [(.long q3)]) (rest := []) (lenOf pd_4 rfl) rfl (by show 2 * 0 + _ ≤ _; exact Nat.le_of_eq rfl) (hb hby at_30) (fun _ _ => ⟨rfl, e116, (by decide : 1 + 0 ≤ _), (by decide : 3 + 0 ≤ _)⟩)
      dsimp only [Pt.U, Pt.locs, Pt.cells, Pt.slots] at X119 l119 y119 z119 st119 hQ119
      subst l119 y119 z119
      obtain ⟨rfl, Nq119, c119_0, c119_1, c119_2, c119_3⟩ := hQ119
      have N119 := Fr.app N116 Nq119
      have f120 := (own_sta_keep f18 c119_0 (allS (own_exa_ns c17_1) all0))
      have f121 := (f19.keep c119_0)
      have f122 := (f20.keep c119_0 (ninS ne15 nin0))
      have f123 := (f21.keep c119_0)
      have f124 := (f22.keep c119_0 (ninS ne15 nin0))
      have f125 := (f23.keep c119_0 (ninS ne15 nin0))
      have f126 := (f24.keep c119_0 (ninS ne15 nin0))
      have f127 := (f25.keep c119_0 (ninS ne15 nin0))
      have f128 := (f26.keep c119_0 (ninS ne15 nin0))
      have f129 := (f27.keep c119_0 (ninS ne15 nin0))
      have f130 := (f28.keep c119_0 (ninS ne15 nin0))
      have f131 := (f29.keep c119_0 (ninS ne15 nin0))
      have f132 := (f30.keep c119_0 (ninS ne15 nin0))
      have f133 := (c17_1.keep c119_0)
      have K134 : Keep h0 T119.heap [] := Keep.trans K32 c119_0 (allS (Or.inr sz_b1) all0)
      have pre135 : ∀ t, Steps p.tables e below (T119.setTop (mkF m 39 #[.val (.int p0), .val (.long q1), .second, .val (.long q2), .second, .val (.long q3), .second, .val (.long q4), .second, .val (.ref b1), .val (.long ln), .second, .val (.int (0 : Int32)), .val (.int (1 : Int32)), .unset, .unset, .unset, .unset] [(.long q4), (.ref b1)])) t → Steps p.tables e below (s₁.setTop (entryFrame m #[(.int p0), (.long q1), (.long q2), (.long q3), (.long q4)] maxLocals)) t := fun t kt => pre117 t (by
          show Steps p.tables e below (T116.setTop (mkF m 30 #[.val (.int p0), .val (.long q1), .second, .val (.long q2), .second, .val (.long q3), .second, .val (.long q4), .second, .val (.ref b1), .val (.long ln), .second, .val (.int (0 : Int32)), .unset, .unset, .unset, .unset, .unset] [(.long q3), (.ref b1)])) _
          refine st119.trans ?_
          show Steps p.tables e below (T119.setTop (mkF m 33 #[.val (.int p0), .val (.long q1), .second, .val (.long q2), .second, .val (.long q3), .second, .val (.long q4), .second, .val (.ref b1), .val (.long ln), .second, .val (.int (0 : Int32)), .unset, .unset, .unset, .unset, .unset] [(.int (1 : Int32))])) _
          refine XS.istore X119.here hx rfl (hb hby at_33) rfl (l' := #[.val (.int p0), .val (.long q1), .second, .val (.long q2), .second, .val (.long q3), .second, .val (.long q4), .second, .val (.ref b1), .val (.long ln), .second, .val (.int (0 : Int32)), .val (.int (1 : Int32)), .unset, .unset, .unset, .unset]) rfl ?_
          show Steps p.tables e below (T119.setTop (mkF m 35 #[.val (.int p0), .val (.long q1), .second, .val (.long q2), .second, .val (.long q3), .second, .val (.long q4), .second, .val (.ref b1), .val (.long ln), .second, .val (.int (0 : Int32)), .val (.int (1 : Int32)), .unset, .unset, .unset, .unset] [])) _
          refine XS.aload X119.here hx rfl (hb hby at_35) rfl rfl ?_
          show Steps p.tables e below (T119.setTop (mkF m 37 #[.val (.int p0), .val (.long q1), .second, .val (.long q2), .second, .val (.long q3), .second, .val (.long q4), .second, .val (.ref b1), .val (.long ln), .second, .val (.int (0 : Int32)), .val (.int (1 : Int32)), .unset, .unset, .unset, .unset] [(.ref b1)])) _
          refine XS.lload X119.here hx rfl (hb hby at_37) rfl ?_
          exact kt)
      by_cases hs136 : (0 : Int64) < (((q3 + ln) - ln) - q4)
      · skip
        obtain ⟨cq137, kq137, q137a, q137b, q137c⟩ := isOf hZ rfl c119_1
        obtain ⟨_, _, ⟨T137, L137, k137, n137⟩, -, X137, ⟨Lc137, hQ137, l137, y137, z137⟩, st137⟩ := X119.virtualBack hx (y := (⟨"com/example/cluster_log/clusterlog/Lease", "answeredSince", "(J)Z"⟩ : MethodName)) (z := (⟨"com/example/cluster_log/clusterlog/Lease", "answeredSince", "(J)Z"⟩ : MethodName)) hown (mvT hZ (hw _ (List.mem_of_getElem? (i := 42) rfl))) (mvT hZ (hw _ (List.mem_of_getElem? (i := 43) rfl))) (notFace_of_selects (args := #[]) (mvT hZ (hw _ (List.mem_of_getElem? (i := 45) rfl)))) (mvT hZ (hw _ (List.mem_of_getElem? (i := 45) rfl))) (mvT hZ (hw _ (List.mem_of_getElem? (i := 44) rfl))) (by decide) (backOf (W := 0) (rm7 l Z aw hw [] b1 q4 ln (q3 + ln) T119.heap n0 (Nat.le_trans (Nat.le_trans (Nat.le_trans Z0 E1.1) c17_0.1) c119_0.1) c119_3 c119_2) hZ (hw _ (List.mem_of_getElem? (i := 46) rfl)) (hw _ (List.mem_of_getElem? (i := 2) rfl)) (by decide) (by decide)) q137a q137c (g := (mkF m 39 #[.val (.int p0), .val (.long q1), .second, .val (.long q2), .second, .val (.long q3), .second, .val (.long q4), .second, .val (.ref b1), .val (.long ln), .second, .val (.int (0 : Int32)), .val (.int (1 : Int32)), .unset, .unset, .unset, .unset] [(.long q4), (.ref b1)])) rfl (by rw [hml]; rfl) (Steps.refl _) (argsL := [(.long q4)]) (rest := []) (lenOf pd_4 rfl) rfl (by show 2 * 0 + _ ≤ _; exact Nat.le_of_eq rfl) (hb hby at_39) (fun _ _ => ⟨rfl, rfl, (by decide : 1 + 0 ≤ _), (by decide : 3 + 0 ≤ _)⟩)
        dsimp only [Pt.U, Pt.locs, Pt.cells, Pt.slots] at X137 l137 y137 z137 st137 hQ137
        subst l137 y137 z137
        obtain ⟨⟨r138, rfl, Pr138⟩, Nq137, e137⟩ := hQ137
        have N137 := Fr.app N119 Nq137
        have pre139 : ∀ t, Steps p.tables e below (T137.setTop (mkF m 42 #[.val (.int p0), .val (.long q1), .second, .val (.long q2), .second, .val (.long q3), .second, .val (.long q4), .second, .val (.ref b1), .val (.long ln), .second, .val (.int (0 : Int32)), .val (.int (1 : Int32)), .unset, .unset, .unset, .unset] [(.int r138)])) t → Steps p.tables e below (s₁.setTop (entryFrame m #[(.int p0), (.long q1), (.long q2), (.long q3), (.long q4)] maxLocals)) t := fun t kt => pre135 t (by
            show Steps p.tables e below (T119.setTop (mkF m 39 #[.val (.int p0), .val (.long q1), .second, .val (.long q2), .second, .val (.long q3), .second, .val (.long q4), .second, .val (.ref b1), .val (.long ln), .second, .val (.int (0 : Int32)), .val (.int (1 : Int32)), .unset, .unset, .unset, .unset] [(.long q4), (.ref b1)])) _
            refine st137.trans ?_
            exact kt)
        obtain rfl : (1 : Int32) = r138 := Pr138.1 hs136
        obtain ⟨cq140, kq140, q140a, q140b, q140c⟩ := isOf hZ e137 c119_1
        obtain ⟨_, _, ⟨T140, L140, k140, n140⟩, -, X140, ⟨Lc140, hQ140, l140, y140, z140⟩, st140⟩ := X137.virtualBack hx (y := (⟨"com/example/cluster_log/clusterlog/Lease", "left", "(J)J"⟩ : MethodName)) (z := (⟨"com/example/cluster_log/clusterlog/Lease", "left", "(J)J"⟩ : MethodName)) hown (mvT hZ (hw _ (List.mem_of_getElem? (i := 47) rfl))) (mvT hZ (hw _ (List.mem_of_getElem? (i := 48) rfl))) (notFace_of_selects (args := #[]) (mvT hZ (hw _ (List.mem_of_getElem? (i := 50) rfl)))) (mvT hZ (hw _ (List.mem_of_getElem? (i := 50) rfl))) (mvT hZ (hw _ (List.mem_of_getElem? (i := 49) rfl))) (by decide) (backOf (W := 0) (rm8 l Z aw hw [] b1 q4 (q3 + ln) T119.heap n0 (Nat.le_trans (Nat.le_trans (Nat.le_trans Z0 E1.1) c17_0.1) c119_0.1) c119_3) hZ (hw _ (List.mem_of_getElem? (i := 51) rfl)) (hw _ (List.mem_of_getElem? (i := 2) rfl)) (by decide) (by decide)) q140a q140c (g := (mkF m 48 #[.val (.int p0), .val (.long q1), .second, .val (.long q2), .second, .val (.long q3), .second, .val (.long q4), .second, .val (.ref b1), .val (.long ln), .second, .val (.int (0 : Int32)), .val (.int (1 : Int32)), .val (.int (1 : Int32)), .unset, .unset, .unset] [(.long q4), (.ref b1)])) rfl (by rw [hml]; rfl) (Steps.refl _) (argsL := [(.long q4)]) (rest := []) (lenOf pd_0 rfl) rfl (by show 2 * 0 + _ ≤ _; exact Nat.le_of_eq rfl) (hb hby at_48) (fun _ _ => ⟨rfl, e137, (by decide : 1 + 0 ≤ _), (by decide : 3 + 0 ≤ _)⟩)
        dsimp only [Pt.U, Pt.locs, Pt.cells, Pt.slots] at X140 l140 y140 z140 st140 hQ140
        subst l140 y140 z140
        obtain ⟨rfl, Nq140, e140⟩ := hQ140
        have N140 := Fr.app N137 Nq140
        obtain ⟨cq141, kq141, q141a, q141b, q141c⟩ := isOf hZ e140 c119_1
        obtain ⟨_, _, ⟨T141, L141, k141, n141⟩, -, X141, ⟨Lc141, hQ141, l141, y141, z141⟩, st141⟩ := X140.virtualBack hx (y := (⟨"com/example/cluster_log/clusterlog/Lease", "answeredSince", "(J)Z"⟩ : MethodName)) (z := (⟨"com/example/cluster_log/clusterlog/Lease", "answeredSince", "(J)Z"⟩ : MethodName)) hown (mvT hZ (hw _ (List.mem_of_getElem? (i := 42) rfl))) (mvT hZ (hw _ (List.mem_of_getElem? (i := 43) rfl))) (notFace_of_selects (args := #[]) (mvT hZ (hw _ (List.mem_of_getElem? (i := 45) rfl)))) (mvT hZ (hw _ (List.mem_of_getElem? (i := 45) rfl))) (mvT hZ (hw _ (List.mem_of_getElem? (i := 44) rfl))) (by decide) (backOf (W := 0) (rm7 l Z aw hw [] b1 q3 ln (q3 + ln) T119.heap n0 (Nat.le_trans (Nat.le_trans (Nat.le_trans Z0 E1.1) c17_0.1) c119_0.1) c119_3 c119_2) hZ (hw _ (List.mem_of_getElem? (i := 46) rfl)) (hw _ (List.mem_of_getElem? (i := 2) rfl)) (by decide) (by decide)) q141a q141c (g := (mkF m 126 #[.val (.int p0), .val (.long q1), .second, .val (.long q2), .second, .val (.long q3), .second, .val (.long q4), .second, .val (.ref b1), .val (.long ln), .second, .val (.int (0 : Int32)), .val (.int (1 : Int32)), .val (.int (1 : Int32)), .val (.int (1 : Int32)), .val (.long q3), .second] [(.long q3), (.ref b1)])) rfl (by rw [hml]; rfl) (Steps.refl _) (argsL := [(.long q3)]) (rest := []) (lenOf pd_4 rfl) rfl (by show 2 * 0 + _ ≤ _; exact Nat.le_of_eq rfl) (hb hby at_126) (fun _ _ => ⟨rfl, e140, (by decide : 1 + 0 ≤ _), (by decide : 3 + 0 ≤ _)⟩)
        dsimp only [Pt.U, Pt.locs, Pt.cells, Pt.slots] at X141 l141 y141 z141 st141 hQ141
        subst l141 y141 z141
        obtain ⟨⟨r142, rfl, Pr142⟩, Nq141, e141⟩ := hQ141
        have N141 := Fr.app N140 Nq141
        have pre143 : ∀ t, Steps p.tables e below (T141.setTop (mkF m 129 #[.val (.int p0), .val (.long q1), .second, .val (.long q2), .second, .val (.long q3), .second, .val (.long q4), .second, .val (.ref b1), .val (.long ln), .second, .val (.int (0 : Int32)), .val (.int (1 : Int32)), .val (.int (1 : Int32)), .val (.int (1 : Int32)), .val (.long q3), .second] [(.int r142)])) t → Steps p.tables e below (s₁.setTop (entryFrame m #[(.int p0), (.long q1), (.long q2), (.long q3), (.long q4)] maxLocals)) t := fun t kt => pre139 t (by
            show Steps p.tables e below (T137.setTop (mkF m 42 #[.val (.int p0), .val (.long q1), .second, .val (.long q2), .second, .val (.long q3), .second, .val (.long q4), .second, .val (.ref b1), .val (.long ln), .second, .val (.int (0 : Int32)), .val (.int (1 : Int32)), .unset, .unset, .unset, .unset] [(.int (1 : Int32))])) _
            refine XS.istore X137.here hx rfl (hb hby at_42) rfl (l' := #[.val (.int p0), .val (.long q1), .second, .val (.long q2), .second, .val (.long q3), .second, .val (.long q4), .second, .val (.ref b1), .val (.long ln), .second, .val (.int (0 : Int32)), .val (.int (1 : Int32)), .val (.int (1 : Int32)), .unset, .unset, .unset]) rfl ?_
            show Steps p.tables e below (T137.setTop (mkF m 44 #[.val (.int p0), .val (.long q1), .second, .val (.long q2), .second, .val (.long q3), .second, .val (.long q4), .second, .val (.ref b1), .val (.long ln), .second, .val (.int (0 : Int32)), .val (.int (1 : Int32)), .val (.int (1 : Int32)), .unset, .unset, .unset] [])) _
            refine XS.aload X137.here hx rfl (hb hby at_44) rfl rfl ?_
            show Steps p.tables e below (T137.setTop (mkF m 46 #[.val (.int p0), .val (.long q1), .second, .val (.long q2), .second, .val (.long q3), .second, .val (.long q4), .second, .val (.ref b1), .val (.long ln), .second, .val (.int (0 : Int32)), .val (.int (1 : Int32)), .val (.int (1 : Int32)), .unset, .unset, .unset] [(.ref b1)])) _
            refine XS.lload X137.here hx rfl (hb hby at_46) rfl ?_
            show Steps p.tables e below (T137.setTop (mkF m 48 #[.val (.int p0), .val (.long q1), .second, .val (.long q2), .second, .val (.long q3), .second, .val (.long q4), .second, .val (.ref b1), .val (.long ln), .second, .val (.int (0 : Int32)), .val (.int (1 : Int32)), .val (.int (1 : Int32)), .unset, .unset, .unset] [(.long q4), (.ref b1)])) _
            refine st140.trans ?_
            show Steps p.tables e below (T140.setTop (mkF m 51 #[.val (.int p0), .val (.long q1), .second, .val (.long q2), .second, .val (.long q3), .second, .val (.long q4), .second, .val (.ref b1), .val (.long ln), .second, .val (.int (0 : Int32)), .val (.int (1 : Int32)), .val (.int (1 : Int32)), .unset, .unset, .unset] [(.long ((q3 + ln) - q4))])) _
            refine XS.lload X140.here hx rfl (hb hby at_51) rfl ?_
            show Steps p.tables e below (T140.setTop (mkF m 53 #[.val (.int p0), .val (.long q1), .second, .val (.long q2), .second, .val (.long q3), .second, .val (.long q4), .second, .val (.ref b1), .val (.long ln), .second, .val (.int (0 : Int32)), .val (.int (1 : Int32)), .val (.int (1 : Int32)), .unset, .unset, .unset] [(.long ln), (.long ((q3 + ln) - q4))])) _
            refine XS.lsub X140.here hx rfl (hb hby at_53) rfl ?_
            show Steps p.tables e below (T140.setTop (mkF m 54 #[.val (.int p0), .val (.long q1), .second, .val (.long q2), .second, .val (.long q3), .second, .val (.long q4), .second, .val (.ref b1), .val (.long ln), .second, .val (.int (0 : Int32)), .val (.int (1 : Int32)), .val (.int (1 : Int32)), .unset, .unset, .unset] [(.long (((q3 + ln) - q4) - ln))])) _
            refine XS.lconst X140.here hx rfl (hb hby at_54) ?_
            show Steps p.tables e below (T140.setTop (mkF m 55 #[.val (.int p0), .val (.long q1), .second, .val (.long q2), .second, .val (.long q3), .second, .val (.long q4), .second, .val (.ref b1), .val (.long ln), .second, .val (.int (0 : Int32)), .val (.int (1 : Int32)), .val (.int (1 : Int32)), .unset, .unset, .unset] [(.long (0 : Int64)), (.long (((q3 + ln) - q4) - ln))])) _
            refine XS.lcmp X140.here hx rfl (hb hby at_55) rfl ?_
            show Steps p.tables e below (T140.setTop (mkF m 56 #[.val (.int p0), .val (.long q1), .second, .val (.long q2), .second, .val (.long q3), .second, .val (.long q4), .second, .val (.ref b1), .val (.long ln), .second, .val (.int (0 : Int32)), .val (.int (1 : Int32)), .val (.int (1 : Int32)), .unset, .unset, .unset] [(.int (lcmpW (((q3 + ln) - q4) - ln) (0 : Int64)))])) _
            refine XS.ifNo X140.here hx rfl (hb hby at_56) rfl ((if0 _ _).trans (tlt ((lw_gt _ _).mpr (own_s1 _ _ _ ▸ hs136))).2.2.2) ?_
            show Steps p.tables e below (T140.setTop (mkF m 59 #[.val (.int p0), .val (.long q1), .second, .val (.long q2), .second, .val (.long q3), .second, .val (.long q4), .second, .val (.ref b1), .val (.long ln), .second, .val (.int (0 : Int32)), .val (.int (1 : Int32)), .val (.int (1 : Int32)), .unset, .unset, .unset] [])) _
            refine XS.iconst X140.here hx rfl (hb hby at_59) ?_
            show Steps p.tables e below (T140.setTop (mkF m 60 #[.val (.int p0), .val (.long q1), .second, .val (.long q2), .second, .val (.long q3), .second, .val (.long q4), .second, .val (.ref b1), .val (.long ln), .second, .val (.int (0 : Int32)), .val (.int (1 : Int32)), .val (.int (1 : Int32)), .unset, .unset, .unset] [(.int (1 : Int32))])) _
            refine XS.goto X140.here hx rfl (pc0 := 60) (pc' := 64) rfl (hb hby at_60) (by decide) (by decide) ?_
            show Steps p.tables e below (T140.setTop (mkF m 64 #[.val (.int p0), .val (.long q1), .second, .val (.long q2), .second, .val (.long q3), .second, .val (.long q4), .second, .val (.ref b1), .val (.long ln), .second, .val (.int (0 : Int32)), .val (.int (1 : Int32)), .val (.int (1 : Int32)), .unset, .unset, .unset] [(.int (1 : Int32))])) _
            refine XS.istore X140.here hx rfl (hb hby at_64) rfl (l' := #[.val (.int p0), .val (.long q1), .second, .val (.long q2), .second, .val (.long q3), .second, .val (.long q4), .second, .val (.ref b1), .val (.long ln), .second, .val (.int (0 : Int32)), .val (.int (1 : Int32)), .val (.int (1 : Int32)), .val (.int (1 : Int32)), .unset, .unset]) rfl ?_
            show Steps p.tables e below (T140.setTop (mkF m 66 #[.val (.int p0), .val (.long q1), .second, .val (.long q2), .second, .val (.long q3), .second, .val (.long q4), .second, .val (.ref b1), .val (.long ln), .second, .val (.int (0 : Int32)), .val (.int (1 : Int32)), .val (.int (1 : Int32)), .val (.int (1 : Int32)), .unset, .unset] [])) _
            refine XS.iload X140.here hx rfl (hb hby at_66) rfl ?_
            show Steps p.tables e below (T140.setTop (mkF m 68 #[.val (.int p0), .val (.long q1), .second, .val (.long q2), .second, .val (.long q3), .second, .val (.long q4), .second, .val (.ref b1), .val (.long ln), .second, .val (.int (0 : Int32)), .val (.int (1 : Int32)), .val (.int (1 : Int32)), .val (.int (1 : Int32)), .unset, .unset] [(.int (1 : Int32))])) _
            refine XS.iload X140.here hx rfl (hb hby at_68) rfl ?_
            show Steps p.tables e below (T140.setTop (mkF m 70 #[.val (.int p0), .val (.long q1), .second, .val (.long q2), .second, .val (.long q3), .second, .val (.long q4), .second, .val (.ref b1), .val (.long ln), .second, .val (.int (0 : Int32)), .val (.int (1 : Int32)), .val (.int (1 : Int32)), .val (.int (1 : Int32)), .unset, .unset] [(.int (1 : Int32)), (.int (1 : Int32))])) _
            refine XS.icmpYes X140.here hx rfl (pc0 := 70) (pc' := 75) rfl (hb hby at_70) rfl (teq (rfl : (1 : Int32) = (1 : Int32))).1 (by decide) (by decide) ?_
            show Steps p.tables e below (T140.setTop (mkF m 75 #[.val (.int p0), .val (.long q1), .second, .val (.long q2), .second, .val (.long q3), .second, .val (.long q4), .second, .val (.ref b1), .val (.long ln), .second, .val (.int (0 : Int32)), .val (.int (1 : Int32)), .val (.int (1 : Int32)), .val (.int (1 : Int32)), .unset, .unset] [])) _
            refine XS.iload X140.here hx rfl (hb hby at_75) rfl ?_
            show Steps p.tables e below (T140.setTop (mkF m 77 #[.val (.int p0), .val (.long q1), .second, .val (.long q2), .second, .val (.long q3), .second, .val (.long q4), .second, .val (.ref b1), .val (.long ln), .second, .val (.int (0 : Int32)), .val (.int (1 : Int32)), .val (.int (1 : Int32)), .val (.int (1 : Int32)), .unset, .unset] [(.int (0 : Int32))])) _
            refine XS.ifNo X140.here hx rfl (hb hby at_77) rfl ((if0 _ _).trans (teq (rfl : (0 : Int32) = (0 : Int32))).2) ?_
            show Steps p.tables e below (T140.setTop (mkF m 80 #[.val (.int p0), .val (.long q1), .second, .val (.long q2), .second, .val (.long q3), .second, .val (.long q4), .second, .val (.ref b1), .val (.long ln), .second, .val (.int (0 : Int32)), .val (.int (1 : Int32)), .val (.int (1 : Int32)), .val (.int (1 : Int32)), .unset, .unset] [])) _
            refine XS.iload X140.here hx rfl (hb hby at_80) rfl ?_
            show Steps p.tables e below (T140.setTop (mkF m 82 #[.val (.int p0), .val (.long q1), .second, .val (.long q2), .second, .val (.long q3), .second, .val (.long q4), .second, .val (.ref b1), .val (.long ln), .second, .val (.int (0 : Int32)), .val (.int (1 : Int32)), .val (.int (1 : Int32)), .val (.int (1 : Int32)), .unset, .unset] [(.int (1 : Int32))])) _
            refine XS.ifYes X140.here hx rfl (pc0 := 82) (pc' := 87) rfl (hb hby at_82) rfl ((if0 _ _).trans (feq (by decide : ¬ ((1 : Int32) = (0 : Int32)))).2) (by decide) (by decide) ?_
            show Steps p.tables e below (T140.setTop (mkF m 87 #[.val (.int p0), .val (.long q1), .second, .val (.long q2), .second, .val (.long q3), .second, .val (.long q4), .second, .val (.ref b1), .val (.long ln), .second, .val (.int (0 : Int32)), .val (.int (1 : Int32)), .val (.int (1 : Int32)), .val (.int (1 : Int32)), .unset, .unset] [])) _
            refine XS.iload X140.here hx rfl (hb hby at_87) rfl ?_
            show Steps p.tables e below (T140.setTop (mkF m 89 #[.val (.int p0), .val (.long q1), .second, .val (.long q2), .second, .val (.long q3), .second, .val (.long q4), .second, .val (.ref b1), .val (.long ln), .second, .val (.int (0 : Int32)), .val (.int (1 : Int32)), .val (.int (1 : Int32)), .val (.int (1 : Int32)), .unset, .unset] [(.int (1 : Int32))])) _
            refine XS.ifNo X140.here hx rfl (hb hby at_89) rfl ((if0 _ _).trans (feq (by decide : ¬ ((1 : Int32) = (0 : Int32)))).1) ?_
            show Steps p.tables e below (T140.setTop (mkF m 92 #[.val (.int p0), .val (.long q1), .second, .val (.long q2), .second, .val (.long q3), .second, .val (.long q4), .second, .val (.ref b1), .val (.long ln), .second, .val (.int (0 : Int32)), .val (.int (1 : Int32)), .val (.int (1 : Int32)), .val (.int (1 : Int32)), .unset, .unset] [])) _
            refine XS.lload X140.here hx rfl (hb hby at_92) rfl ?_
            show Steps p.tables e below (T140.setTop (mkF m 94 #[.val (.int p0), .val (.long q1), .second, .val (.long q2), .second, .val (.long q3), .second, .val (.long q4), .second, .val (.ref b1), .val (.long ln), .second, .val (.int (0 : Int32)), .val (.int (1 : Int32)), .val (.int (1 : Int32)), .val (.int (1 : Int32)), .unset, .unset] [(.long q3)])) _
            refine XS.goto X140.here hx rfl (pc0 := 94) (pc' := 98) rfl (hb hby at_94) (by decide) (by decide) ?_
            show Steps p.tables e below (T140.setTop (mkF m 98 #[.val (.int p0), .val (.long q1), .second, .val (.long q2), .second, .val (.long q3), .second, .val (.long q4), .second, .val (.ref b1), .val (.long ln), .second, .val (.int (0 : Int32)), .val (.int (1 : Int32)), .val (.int (1 : Int32)), .val (.int (1 : Int32)), .unset, .unset] [(.long q3)])) _
            refine XS.lstore X140.here hx rfl (hb hby at_98) rfl (l' := #[.val (.int p0), .val (.long q1), .second, .val (.long q2), .second, .val (.long q3), .second, .val (.long q4), .second, .val (.ref b1), .val (.long ln), .second, .val (.int (0 : Int32)), .val (.int (1 : Int32)), .val (.int (1 : Int32)), .val (.int (1 : Int32)), .val (.long q3), .second]) rfl ?_
            show Steps p.tables e below (T140.setTop (mkF m 100 #[.val (.int p0), .val (.long q1), .second, .val (.long q2), .second, .val (.long q3), .second, .val (.long q4), .second, .val (.ref b1), .val (.long ln), .second, .val (.int (0 : Int32)), .val (.int (1 : Int32)), .val (.int (1 : Int32)), .val (.int (1 : Int32)), .val (.long q3), .second] [])) _
            refine XS.iload X140.here hx rfl (hb hby at_100) rfl ?_
            show Steps p.tables e below (T140.setTop (mkF m 102 #[.val (.int p0), .val (.long q1), .second, .val (.long q2), .second, .val (.long q3), .second, .val (.long q4), .second, .val (.ref b1), .val (.long ln), .second, .val (.int (0 : Int32)), .val (.int (1 : Int32)), .val (.int (1 : Int32)), .val (.int (1 : Int32)), .val (.long q3), .second] [(.int (1 : Int32))])) _
            refine XS.lload X140.here hx rfl (hb hby at_102) rfl ?_
            show Steps p.tables e below (T140.setTop (mkF m 104 #[.val (.int p0), .val (.long q1), .second, .val (.long q2), .second, .val (.long q3), .second, .val (.long q4), .second, .val (.ref b1), .val (.long ln), .second, .val (.int (0 : Int32)), .val (.int (1 : Int32)), .val (.int (1 : Int32)), .val (.int (1 : Int32)), .val (.long q3), .second] [(.long q3), (.int (1 : Int32))])) _
            refine XS.lload X140.here hx rfl (hb hby at_104) rfl ?_
            show Steps p.tables e below (T140.setTop (mkF m 106 #[.val (.int p0), .val (.long q1), .second, .val (.long q2), .second, .val (.long q3), .second, .val (.long q4), .second, .val (.ref b1), .val (.long ln), .second, .val (.int (0 : Int32)), .val (.int (1 : Int32)), .val (.int (1 : Int32)), .val (.int (1 : Int32)), .val (.long q3), .second] [(.long q4), (.long q3), (.int (1 : Int32))])) _
            refine XS.lsub X140.here hx rfl (hb hby at_106) rfl ?_
            show Steps p.tables e below (T140.setTop (mkF m 107 #[.val (.int p0), .val (.long q1), .second, .val (.long q2), .second, .val (.long q3), .second, .val (.long q4), .second, .val (.ref b1), .val (.long ln), .second, .val (.int (0 : Int32)), .val (.int (1 : Int32)), .val (.int (1 : Int32)), .val (.int (1 : Int32)), .val (.long q3), .second] [(.long (q3 - q4)), (.int (1 : Int32))])) _
            refine XS.lconst X140.here hx rfl (hb hby at_107) ?_
            show Steps p.tables e below (T140.setTop (mkF m 108 #[.val (.int p0), .val (.long q1), .second, .val (.long q2), .second, .val (.long q3), .second, .val (.long q4), .second, .val (.ref b1), .val (.long ln), .second, .val (.int (0 : Int32)), .val (.int (1 : Int32)), .val (.int (1 : Int32)), .val (.int (1 : Int32)), .val (.long q3), .second] [(.long (0 : Int64)), (.long (q3 - q4)), (.int (1 : Int32))])) _
            refine XS.lcmp X140.here hx rfl (hb hby at_108) rfl ?_
            show Steps p.tables e below (T140.setTop (mkF m 109 #[.val (.int p0), .val (.long q1), .second, .val (.long q2), .second, .val (.long q3), .second, .val (.long q4), .second, .val (.ref b1), .val (.long ln), .second, .val (.int (0 : Int32)), .val (.int (1 : Int32)), .val (.int (1 : Int32)), .val (.int (1 : Int32)), .val (.long q3), .second] [(.int (lcmpW (q3 - q4) (0 : Int64))), (.int (1 : Int32))])) _
            refine XS.ifNo X140.here hx rfl (hb hby at_109) rfl ((if0 _ _).trans (tlt ((lw_gt _ _).mpr (own_s2 _ _ _ ▸ hs136))).2.2.2) ?_
            show Steps p.tables e below (T140.setTop (mkF m 112 #[.val (.int p0), .val (.long q1), .second, .val (.long q2), .second, .val (.long q3), .second, .val (.long q4), .second, .val (.ref b1), .val (.long ln), .second, .val (.int (0 : Int32)), .val (.int (1 : Int32)), .val (.int (1 : Int32)), .val (.int (1 : Int32)), .val (.long q3), .second] [(.int (1 : Int32))])) _
            refine XS.iconst X140.here hx rfl (hb hby at_112) ?_
            show Steps p.tables e below (T140.setTop (mkF m 113 #[.val (.int p0), .val (.long q1), .second, .val (.long q2), .second, .val (.long q3), .second, .val (.long q4), .second, .val (.ref b1), .val (.long ln), .second, .val (.int (0 : Int32)), .val (.int (1 : Int32)), .val (.int (1 : Int32)), .val (.int (1 : Int32)), .val (.long q3), .second] [(.int (1 : Int32)), (.int (1 : Int32))])) _
            refine XS.goto X140.here hx rfl (pc0 := 113) (pc' := 117) rfl (hb hby at_113) (by decide) (by decide) ?_
            show Steps p.tables e below (T140.setTop (mkF m 117 #[.val (.int p0), .val (.long q1), .second, .val (.long q2), .second, .val (.long q3), .second, .val (.long q4), .second, .val (.ref b1), .val (.long ln), .second, .val (.int (0 : Int32)), .val (.int (1 : Int32)), .val (.int (1 : Int32)), .val (.int (1 : Int32)), .val (.long q3), .second] [(.int (1 : Int32)), (.int (1 : Int32))])) _
            refine XS.icmpYes X140.here hx rfl (pc0 := 117) (pc' := 122) rfl (hb hby at_117) rfl (teq (rfl : (1 : Int32) = (1 : Int32))).1 (by decide) (by decide) ?_
            show Steps p.tables e below (T140.setTop (mkF m 122 #[.val (.int p0), .val (.long q1), .second, .val (.long q2), .second, .val (.long q3), .second, .val (.long q4), .second, .val (.ref b1), .val (.long ln), .second, .val (.int (0 : Int32)), .val (.int (1 : Int32)), .val (.int (1 : Int32)), .val (.int (1 : Int32)), .val (.long q3), .second] [])) _
            refine XS.aload X140.here hx rfl (hb hby at_122) rfl rfl ?_
            show Steps p.tables e below (T140.setTop (mkF m 124 #[.val (.int p0), .val (.long q1), .second, .val (.long q2), .second, .val (.long q3), .second, .val (.long q4), .second, .val (.ref b1), .val (.long ln), .second, .val (.int (0 : Int32)), .val (.int (1 : Int32)), .val (.int (1 : Int32)), .val (.int (1 : Int32)), .val (.long q3), .second] [(.ref b1)])) _
            refine XS.lload X140.here hx rfl (hb hby at_124) rfl ?_
            show Steps p.tables e below (T140.setTop (mkF m 126 #[.val (.int p0), .val (.long q1), .second, .val (.long q2), .second, .val (.long q3), .second, .val (.long q4), .second, .val (.ref b1), .val (.long ln), .second, .val (.int (0 : Int32)), .val (.int (1 : Int32)), .val (.int (1 : Int32)), .val (.int (1 : Int32)), .val (.long q3), .second] [(.long q3), (.ref b1)])) _
            refine st141.trans ?_
            exact kt)
        obtain rfl : (0 : Int32) = r142 := Pr142.2 (own_s3 _ _)
        obtain ⟨cq144, kq144, q144a, q144b, q144c⟩ := isOf hZ e141 c119_1
        obtain ⟨_, _, ⟨T144, L144, k144, n144⟩, -, X144, ⟨Lc144, hQ144, l144, y144, z144⟩, st144⟩ := X141.virtualBack hx (y := (⟨"com/example/cluster_log/clusterlog/Lease", "answeredSince", "(J)Z"⟩ : MethodName)) (z := (⟨"com/example/cluster_log/clusterlog/Lease", "answeredSince", "(J)Z"⟩ : MethodName)) hown (mvT hZ (hw _ (List.mem_of_getElem? (i := 42) rfl))) (mvT hZ (hw _ (List.mem_of_getElem? (i := 43) rfl))) (notFace_of_selects (args := #[]) (mvT hZ (hw _ (List.mem_of_getElem? (i := 45) rfl)))) (mvT hZ (hw _ (List.mem_of_getElem? (i := 45) rfl))) (mvT hZ (hw _ (List.mem_of_getElem? (i := 44) rfl))) (by decide) (backOf (W := 0) (rm7 l Z aw hw [] b1 (q3 - (1 : Int64)) ln (q3 + ln) T119.heap n0 (Nat.le_trans (Nat.le_trans (Nat.le_trans Z0 E1.1) c17_0.1) c119_0.1) c119_3 c119_2) hZ (hw _ (List.mem_of_getElem? (i := 46) rfl)) (hw _ (List.mem_of_getElem? (i := 2) rfl)) (by decide) (by decide)) q144a q144c (g := (mkF m 140 #[.val (.int p0), .val (.long q1), .second, .val (.long q2), .second, .val (.long q3), .second, .val (.long q4), .second, .val (.ref b1), .val (.long ln), .second, .val (.int (0 : Int32)), .val (.int (1 : Int32)), .val (.int (1 : Int32)), .val (.int (1 : Int32)), .val (.long q3), .second] [(.long (q3 - (1 : Int64))), (.ref b1)])) rfl (by rw [hml]; rfl) (Steps.refl _) (argsL := [(.long (q3 - (1 : Int64)))]) (rest := []) (lenOf pd_4 rfl) rfl (by show 2 * 0 + _ ≤ _; exact Nat.le_of_eq rfl) (hb hby at_140) (fun _ _ => ⟨rfl, e141, (by decide : 1 + 0 ≤ _), (by decide : 3 + 0 ≤ _)⟩)
        dsimp only [Pt.U, Pt.locs, Pt.cells, Pt.slots] at X144 l144 y144 z144 st144 hQ144
        subst l144 y144 z144
        obtain ⟨⟨r145, rfl, Pr145⟩, Nq144, e144⟩ := hQ144
        have N144 := Fr.app N141 Nq144
        have pre146 : ∀ t, Steps p.tables e below (T144.setTop (mkF m 143 #[.val (.int p0), .val (.long q1), .second, .val (.long q2), .second, .val (.long q3), .second, .val (.long q4), .second, .val (.ref b1), .val (.long ln), .second, .val (.int (0 : Int32)), .val (.int (1 : Int32)), .val (.int (1 : Int32)), .val (.int (1 : Int32)), .val (.long q3), .second] [(.int r145)])) t → Steps p.tables e below (s₁.setTop (entryFrame m #[(.int p0), (.long q1), (.long q2), (.long q3), (.long q4)] maxLocals)) t := fun t kt => pre143 t (by
            show Steps p.tables e below (T141.setTop (mkF m 129 #[.val (.int p0), .val (.long q1), .second, .val (.long q2), .second, .val (.long q3), .second, .val (.long q4), .second, .val (.ref b1), .val (.long ln), .second, .val (.int (0 : Int32)), .val (.int (1 : Int32)), .val (.int (1 : Int32)), .val (.int (1 : Int32)), .val (.long q3), .second] [(.int (0 : Int32))])) _
            refine XS.ifYes X141.here hx rfl (pc0 := 129) (pc' := 134) rfl (hb hby at_129) rfl ((if0 _ _).trans (teq (rfl : (0 : Int32) = (0 : Int32))).1) (by decide) (by decide) ?_
            show Steps p.tables e below (T141.setTop (mkF m 134 #[.val (.int p0), .val (.long q1), .second, .val (.long q2), .second, .val (.long q3), .second, .val (.long q4), .second, .val (.ref b1), .val (.long ln), .second, .val (.int (0 : Int32)), .val (.int (1 : Int32)), .val (.int (1 : Int32)), .val (.int (1 : Int32)), .val (.long q3), .second] [])) _
            refine XS.aload X141.here hx rfl (hb hby at_134) rfl rfl ?_
            show Steps p.tables e below (T141.setTop (mkF m 136 #[.val (.int p0), .val (.long q1), .second, .val (.long q2), .second, .val (.long q3), .second, .val (.long q4), .second, .val (.ref b1), .val (.long ln), .second, .val (.int (0 : Int32)), .val (.int (1 : Int32)), .val (.int (1 : Int32)), .val (.int (1 : Int32)), .val (.long q3), .second] [(.ref b1)])) _
            refine XS.lload X141.here hx rfl (hb hby at_136) rfl ?_
            show Steps p.tables e below (T141.setTop (mkF m 138 #[.val (.int p0), .val (.long q1), .second, .val (.long q2), .second, .val (.long q3), .second, .val (.long q4), .second, .val (.ref b1), .val (.long ln), .second, .val (.int (0 : Int32)), .val (.int (1 : Int32)), .val (.int (1 : Int32)), .val (.int (1 : Int32)), .val (.long q3), .second] [(.long q3), (.ref b1)])) _
            refine XS.lconst X141.here hx rfl (hb hby at_138) ?_
            show Steps p.tables e below (T141.setTop (mkF m 139 #[.val (.int p0), .val (.long q1), .second, .val (.long q2), .second, .val (.long q3), .second, .val (.long q4), .second, .val (.ref b1), .val (.long ln), .second, .val (.int (0 : Int32)), .val (.int (1 : Int32)), .val (.int (1 : Int32)), .val (.int (1 : Int32)), .val (.long q3), .second] [(.long (1 : Int64)), (.long q3), (.ref b1)])) _
            refine XS.lsub X141.here hx rfl (hb hby at_139) rfl ?_
            show Steps p.tables e below (T141.setTop (mkF m 140 #[.val (.int p0), .val (.long q1), .second, .val (.long q2), .second, .val (.long q3), .second, .val (.long q4), .second, .val (.ref b1), .val (.long ln), .second, .val (.int (0 : Int32)), .val (.int (1 : Int32)), .val (.int (1 : Int32)), .val (.int (1 : Int32)), .val (.long q3), .second] [(.long (q3 - (1 : Int64))), (.ref b1)])) _
            refine st144.trans ?_
            exact kt)
        obtain rfl : (1 : Int32) = r145 := Pr145.1 (own_s4 _ _)
        obtain ⟨fs, hr, hrun, hended, hW, hsame⟩ := X144.leave (v := some (.int (1 : Int32))) (fun h => by rw [Bd.returns] at h; cases h)
        refine ⟨_, _, pre146 _ ?_, hrun, hended, _, _, rfl, ?_, ⟨_, rfl⟩, hW, hsame.mono (by decide) (by decide)⟩
        · show Steps p.tables e below (T144.setTop (mkF m 143 #[.val (.int p0), .val (.long q1), .second, .val (.long q2), .second, .val (.long q3), .second, .val (.long q4), .second, .val (.ref b1), .val (.long ln), .second, .val (.int (0 : Int32)), .val (.int (1 : Int32)), .val (.int (1 : Int32)), .val (.int (1 : Int32)), .val (.long q3), .second] [(.int (1 : Int32))])) _
          exact retN X144 hx (t := .boolean) Bd.returns (by simp) (hb hby at_143) hr
        · show Q0 Z _ _ _ _ _ _ _ h0 n0 _ T144.heap _
          rw [e144]
          exact ⟨rfl, N144, trivial⟩
      · skip
        obtain ⟨cq147, kq147, q147a, q147b, q147c⟩ := isOf hZ rfl c119_1
        obtain ⟨_, _, ⟨T147, L147, k147, n147⟩, -, X147, ⟨Lc147, hQ147, l147, y147, z147⟩, st147⟩ := X119.virtualBack hx (y := (⟨"com/example/cluster_log/clusterlog/Lease", "answeredSince", "(J)Z"⟩ : MethodName)) (z := (⟨"com/example/cluster_log/clusterlog/Lease", "answeredSince", "(J)Z"⟩ : MethodName)) hown (mvT hZ (hw _ (List.mem_of_getElem? (i := 42) rfl))) (mvT hZ (hw _ (List.mem_of_getElem? (i := 43) rfl))) (notFace_of_selects (args := #[]) (mvT hZ (hw _ (List.mem_of_getElem? (i := 45) rfl)))) (mvT hZ (hw _ (List.mem_of_getElem? (i := 45) rfl))) (mvT hZ (hw _ (List.mem_of_getElem? (i := 44) rfl))) (by decide) (backOf (W := 0) (rm7 l Z aw hw [] b1 q4 ln (q3 + ln) T119.heap n0 (Nat.le_trans (Nat.le_trans (Nat.le_trans Z0 E1.1) c17_0.1) c119_0.1) c119_3 c119_2) hZ (hw _ (List.mem_of_getElem? (i := 46) rfl)) (hw _ (List.mem_of_getElem? (i := 2) rfl)) (by decide) (by decide)) q147a q147c (g := (mkF m 39 #[.val (.int p0), .val (.long q1), .second, .val (.long q2), .second, .val (.long q3), .second, .val (.long q4), .second, .val (.ref b1), .val (.long ln), .second, .val (.int (0 : Int32)), .val (.int (1 : Int32)), .unset, .unset, .unset, .unset] [(.long q4), (.ref b1)])) rfl (by rw [hml]; rfl) (Steps.refl _) (argsL := [(.long q4)]) (rest := []) (lenOf pd_4 rfl) rfl (by show 2 * 0 + _ ≤ _; exact Nat.le_of_eq rfl) (hb hby at_39) (fun _ _ => ⟨rfl, rfl, (by decide : 1 + 0 ≤ _), (by decide : 3 + 0 ≤ _)⟩)
        dsimp only [Pt.U, Pt.locs, Pt.cells, Pt.slots] at X147 l147 y147 z147 st147 hQ147
        subst l147 y147 z147
        obtain ⟨⟨r148, rfl, Pr148⟩, Nq147, e147⟩ := hQ147
        have N147 := Fr.app N119 Nq147
        have pre149 : ∀ t, Steps p.tables e below (T147.setTop (mkF m 42 #[.val (.int p0), .val (.long q1), .second, .val (.long q2), .second, .val (.long q3), .second, .val (.long q4), .second, .val (.ref b1), .val (.long ln), .second, .val (.int (0 : Int32)), .val (.int (1 : Int32)), .unset, .unset, .unset, .unset] [(.int r148)])) t → Steps p.tables e below (s₁.setTop (entryFrame m #[(.int p0), (.long q1), (.long q2), (.long q3), (.long q4)] maxLocals)) t := fun t kt => pre135 t (by
            show Steps p.tables e below (T119.setTop (mkF m 39 #[.val (.int p0), .val (.long q1), .second, .val (.long q2), .second, .val (.long q3), .second, .val (.long q4), .second, .val (.ref b1), .val (.long ln), .second, .val (.int (0 : Int32)), .val (.int (1 : Int32)), .unset, .unset, .unset, .unset] [(.long q4), (.ref b1)])) _
            refine st147.trans ?_
            exact kt)
        obtain rfl : (0 : Int32) = r148 := Pr148.2 hs136
        obtain ⟨cq150, kq150, q150a, q150b, q150c⟩ := isOf hZ e147 c119_1
        obtain ⟨_, _, ⟨T150, L150, k150, n150⟩, -, X150, ⟨Lc150, hQ150, l150, y150, z150⟩, st150⟩ := X147.virtualBack hx (y := (⟨"com/example/cluster_log/clusterlog/Lease", "left", "(J)J"⟩ : MethodName)) (z := (⟨"com/example/cluster_log/clusterlog/Lease", "left", "(J)J"⟩ : MethodName)) hown (mvT hZ (hw _ (List.mem_of_getElem? (i := 47) rfl))) (mvT hZ (hw _ (List.mem_of_getElem? (i := 48) rfl))) (notFace_of_selects (args := #[]) (mvT hZ (hw _ (List.mem_of_getElem? (i := 50) rfl)))) (mvT hZ (hw _ (List.mem_of_getElem? (i := 50) rfl))) (mvT hZ (hw _ (List.mem_of_getElem? (i := 49) rfl))) (by decide) (backOf (W := 0) (rm8 l Z aw hw [] b1 q4 (q3 + ln) T119.heap n0 (Nat.le_trans (Nat.le_trans (Nat.le_trans Z0 E1.1) c17_0.1) c119_0.1) c119_3) hZ (hw _ (List.mem_of_getElem? (i := 51) rfl)) (hw _ (List.mem_of_getElem? (i := 2) rfl)) (by decide) (by decide)) q150a q150c (g := (mkF m 48 #[.val (.int p0), .val (.long q1), .second, .val (.long q2), .second, .val (.long q3), .second, .val (.long q4), .second, .val (.ref b1), .val (.long ln), .second, .val (.int (0 : Int32)), .val (.int (1 : Int32)), .val (.int (0 : Int32)), .unset, .unset, .unset] [(.long q4), (.ref b1)])) rfl (by rw [hml]; rfl) (Steps.refl _) (argsL := [(.long q4)]) (rest := []) (lenOf pd_0 rfl) rfl (by show 2 * 0 + _ ≤ _; exact Nat.le_of_eq rfl) (hb hby at_48) (fun _ _ => ⟨rfl, e147, (by decide : 1 + 0 ≤ _), (by decide : 3 + 0 ≤ _)⟩)
        dsimp only [Pt.U, Pt.locs, Pt.cells, Pt.slots] at X150 l150 y150 z150 st150 hQ150
        subst l150 y150 z150
        obtain ⟨rfl, Nq150, e150⟩ := hQ150
        have N150 := Fr.app N147 Nq150
        obtain ⟨cq151, kq151, q151a, q151b, q151c⟩ := isOf hZ e150 c119_1
        obtain ⟨_, _, ⟨T151, L151, k151, n151⟩, -, X151, ⟨Lc151, hQ151, l151, y151, z151⟩, st151⟩ := X150.virtualBack hx (y := (⟨"com/example/cluster_log/clusterlog/Lease", "answeredSince", "(J)Z"⟩ : MethodName)) (z := (⟨"com/example/cluster_log/clusterlog/Lease", "answeredSince", "(J)Z"⟩ : MethodName)) hown (mvT hZ (hw _ (List.mem_of_getElem? (i := 42) rfl))) (mvT hZ (hw _ (List.mem_of_getElem? (i := 43) rfl))) (notFace_of_selects (args := #[]) (mvT hZ (hw _ (List.mem_of_getElem? (i := 45) rfl)))) (mvT hZ (hw _ (List.mem_of_getElem? (i := 45) rfl))) (mvT hZ (hw _ (List.mem_of_getElem? (i := 44) rfl))) (by decide) (backOf (W := 0) (rm7 l Z aw hw [] b1 q3 ln (q3 + ln) T119.heap n0 (Nat.le_trans (Nat.le_trans (Nat.le_trans Z0 E1.1) c17_0.1) c119_0.1) c119_3 c119_2) hZ (hw _ (List.mem_of_getElem? (i := 46) rfl)) (hw _ (List.mem_of_getElem? (i := 2) rfl)) (by decide) (by decide)) q151a q151c (g := (mkF m 126 #[.val (.int p0), .val (.long q1), .second, .val (.long q2), .second, .val (.long q3), .second, .val (.long q4), .second, .val (.ref b1), .val (.long ln), .second, .val (.int (0 : Int32)), .val (.int (1 : Int32)), .val (.int (0 : Int32)), .val (.int (0 : Int32)), .val (.long q3), .second] [(.long q3), (.ref b1)])) rfl (by rw [hml]; rfl) (Steps.refl _) (argsL := [(.long q3)]) (rest := []) (lenOf pd_4 rfl) rfl (by show 2 * 0 + _ ≤ _; exact Nat.le_of_eq rfl) (hb hby at_126) (fun _ _ => ⟨rfl, e150, (by decide : 1 + 0 ≤ _), (by decide : 3 + 0 ≤ _)⟩)
        dsimp only [Pt.U, Pt.locs, Pt.cells, Pt.slots] at X151 l151 y151 z151 st151 hQ151
        subst l151 y151 z151
        obtain ⟨⟨r152, rfl, Pr152⟩, Nq151, e151⟩ := hQ151
        have N151 := Fr.app N150 Nq151
        have pre153 : ∀ t, Steps p.tables e below (T151.setTop (mkF m 129 #[.val (.int p0), .val (.long q1), .second, .val (.long q2), .second, .val (.long q3), .second, .val (.long q4), .second, .val (.ref b1), .val (.long ln), .second, .val (.int (0 : Int32)), .val (.int (1 : Int32)), .val (.int (0 : Int32)), .val (.int (0 : Int32)), .val (.long q3), .second] [(.int r152)])) t → Steps p.tables e below (s₁.setTop (entryFrame m #[(.int p0), (.long q1), (.long q2), (.long q3), (.long q4)] maxLocals)) t := fun t kt => pre149 t (by
            show Steps p.tables e below (T147.setTop (mkF m 42 #[.val (.int p0), .val (.long q1), .second, .val (.long q2), .second, .val (.long q3), .second, .val (.long q4), .second, .val (.ref b1), .val (.long ln), .second, .val (.int (0 : Int32)), .val (.int (1 : Int32)), .unset, .unset, .unset, .unset] [(.int (0 : Int32))])) _
            refine XS.istore X147.here hx rfl (hb hby at_42) rfl (l' := #[.val (.int p0), .val (.long q1), .second, .val (.long q2), .second, .val (.long q3), .second, .val (.long q4), .second, .val (.ref b1), .val (.long ln), .second, .val (.int (0 : Int32)), .val (.int (1 : Int32)), .val (.int (0 : Int32)), .unset, .unset, .unset]) rfl ?_
            show Steps p.tables e below (T147.setTop (mkF m 44 #[.val (.int p0), .val (.long q1), .second, .val (.long q2), .second, .val (.long q3), .second, .val (.long q4), .second, .val (.ref b1), .val (.long ln), .second, .val (.int (0 : Int32)), .val (.int (1 : Int32)), .val (.int (0 : Int32)), .unset, .unset, .unset] [])) _
            refine XS.aload X147.here hx rfl (hb hby at_44) rfl rfl ?_
            show Steps p.tables e below (T147.setTop (mkF m 46 #[.val (.int p0), .val (.long q1), .second, .val (.long q2), .second, .val (.long q3), .second, .val (.long q4), .second, .val (.ref b1), .val (.long ln), .second, .val (.int (0 : Int32)), .val (.int (1 : Int32)), .val (.int (0 : Int32)), .unset, .unset, .unset] [(.ref b1)])) _
            refine XS.lload X147.here hx rfl (hb hby at_46) rfl ?_
            show Steps p.tables e below (T147.setTop (mkF m 48 #[.val (.int p0), .val (.long q1), .second, .val (.long q2), .second, .val (.long q3), .second, .val (.long q4), .second, .val (.ref b1), .val (.long ln), .second, .val (.int (0 : Int32)), .val (.int (1 : Int32)), .val (.int (0 : Int32)), .unset, .unset, .unset] [(.long q4), (.ref b1)])) _
            refine st150.trans ?_
            show Steps p.tables e below (T150.setTop (mkF m 51 #[.val (.int p0), .val (.long q1), .second, .val (.long q2), .second, .val (.long q3), .second, .val (.long q4), .second, .val (.ref b1), .val (.long ln), .second, .val (.int (0 : Int32)), .val (.int (1 : Int32)), .val (.int (0 : Int32)), .unset, .unset, .unset] [(.long ((q3 + ln) - q4))])) _
            refine XS.lload X150.here hx rfl (hb hby at_51) rfl ?_
            show Steps p.tables e below (T150.setTop (mkF m 53 #[.val (.int p0), .val (.long q1), .second, .val (.long q2), .second, .val (.long q3), .second, .val (.long q4), .second, .val (.ref b1), .val (.long ln), .second, .val (.int (0 : Int32)), .val (.int (1 : Int32)), .val (.int (0 : Int32)), .unset, .unset, .unset] [(.long ln), (.long ((q3 + ln) - q4))])) _
            refine XS.lsub X150.here hx rfl (hb hby at_53) rfl ?_
            show Steps p.tables e below (T150.setTop (mkF m 54 #[.val (.int p0), .val (.long q1), .second, .val (.long q2), .second, .val (.long q3), .second, .val (.long q4), .second, .val (.ref b1), .val (.long ln), .second, .val (.int (0 : Int32)), .val (.int (1 : Int32)), .val (.int (0 : Int32)), .unset, .unset, .unset] [(.long (((q3 + ln) - q4) - ln))])) _
            refine XS.lconst X150.here hx rfl (hb hby at_54) ?_
            show Steps p.tables e below (T150.setTop (mkF m 55 #[.val (.int p0), .val (.long q1), .second, .val (.long q2), .second, .val (.long q3), .second, .val (.long q4), .second, .val (.ref b1), .val (.long ln), .second, .val (.int (0 : Int32)), .val (.int (1 : Int32)), .val (.int (0 : Int32)), .unset, .unset, .unset] [(.long (0 : Int64)), (.long (((q3 + ln) - q4) - ln))])) _
            refine XS.lcmp X150.here hx rfl (hb hby at_55) rfl ?_
            show Steps p.tables e below (T150.setTop (mkF m 56 #[.val (.int p0), .val (.long q1), .second, .val (.long q2), .second, .val (.long q3), .second, .val (.long q4), .second, .val (.ref b1), .val (.long ln), .second, .val (.int (0 : Int32)), .val (.int (1 : Int32)), .val (.int (0 : Int32)), .unset, .unset, .unset] [(.int (lcmpW (((q3 + ln) - q4) - ln) (0 : Int64)))])) _
            refine XS.ifYes X150.here hx rfl (pc0 := 56) (pc' := 63) rfl (hb hby at_56) rfl ((if0 _ _).trans (flt (fun z => hs136 (own_s1 _ _ _ ▸ (lw_gt _ _).mp z))).2.2.2) (by decide) (by decide) ?_
            show Steps p.tables e below (T150.setTop (mkF m 63 #[.val (.int p0), .val (.long q1), .second, .val (.long q2), .second, .val (.long q3), .second, .val (.long q4), .second, .val (.ref b1), .val (.long ln), .second, .val (.int (0 : Int32)), .val (.int (1 : Int32)), .val (.int (0 : Int32)), .unset, .unset, .unset] [])) _
            refine XS.iconst X150.here hx rfl (hb hby at_63) ?_
            show Steps p.tables e below (T150.setTop (mkF m 64 #[.val (.int p0), .val (.long q1), .second, .val (.long q2), .second, .val (.long q3), .second, .val (.long q4), .second, .val (.ref b1), .val (.long ln), .second, .val (.int (0 : Int32)), .val (.int (1 : Int32)), .val (.int (0 : Int32)), .unset, .unset, .unset] [(.int (0 : Int32))])) _
            refine XS.istore X150.here hx rfl (hb hby at_64) rfl (l' := #[.val (.int p0), .val (.long q1), .second, .val (.long q2), .second, .val (.long q3), .second, .val (.long q4), .second, .val (.ref b1), .val (.long ln), .second, .val (.int (0 : Int32)), .val (.int (1 : Int32)), .val (.int (0 : Int32)), .val (.int (0 : Int32)), .unset, .unset]) rfl ?_
            show Steps p.tables e below (T150.setTop (mkF m 66 #[.val (.int p0), .val (.long q1), .second, .val (.long q2), .second, .val (.long q3), .second, .val (.long q4), .second, .val (.ref b1), .val (.long ln), .second, .val (.int (0 : Int32)), .val (.int (1 : Int32)), .val (.int (0 : Int32)), .val (.int (0 : Int32)), .unset, .unset] [])) _
            refine XS.iload X150.here hx rfl (hb hby at_66) rfl ?_
            show Steps p.tables e below (T150.setTop (mkF m 68 #[.val (.int p0), .val (.long q1), .second, .val (.long q2), .second, .val (.long q3), .second, .val (.long q4), .second, .val (.ref b1), .val (.long ln), .second, .val (.int (0 : Int32)), .val (.int (1 : Int32)), .val (.int (0 : Int32)), .val (.int (0 : Int32)), .unset, .unset] [(.int (0 : Int32))])) _
            refine XS.iload X150.here hx rfl (hb hby at_68) rfl ?_
            show Steps p.tables e below (T150.setTop (mkF m 70 #[.val (.int p0), .val (.long q1), .second, .val (.long q2), .second, .val (.long q3), .second, .val (.long q4), .second, .val (.ref b1), .val (.long ln), .second, .val (.int (0 : Int32)), .val (.int (1 : Int32)), .val (.int (0 : Int32)), .val (.int (0 : Int32)), .unset, .unset] [(.int (0 : Int32)), (.int (0 : Int32))])) _
            refine XS.icmpYes X150.here hx rfl (pc0 := 70) (pc' := 75) rfl (hb hby at_70) rfl (teq (rfl : (0 : Int32) = (0 : Int32))).1 (by decide) (by decide) ?_
            show Steps p.tables e below (T150.setTop (mkF m 75 #[.val (.int p0), .val (.long q1), .second, .val (.long q2), .second, .val (.long q3), .second, .val (.long q4), .second, .val (.ref b1), .val (.long ln), .second, .val (.int (0 : Int32)), .val (.int (1 : Int32)), .val (.int (0 : Int32)), .val (.int (0 : Int32)), .unset, .unset] [])) _
            refine XS.iload X150.here hx rfl (hb hby at_75) rfl ?_
            show Steps p.tables e below (T150.setTop (mkF m 77 #[.val (.int p0), .val (.long q1), .second, .val (.long q2), .second, .val (.long q3), .second, .val (.long q4), .second, .val (.ref b1), .val (.long ln), .second, .val (.int (0 : Int32)), .val (.int (1 : Int32)), .val (.int (0 : Int32)), .val (.int (0 : Int32)), .unset, .unset] [(.int (0 : Int32))])) _
            refine XS.ifNo X150.here hx rfl (hb hby at_77) rfl ((if0 _ _).trans (teq (rfl : (0 : Int32) = (0 : Int32))).2) ?_
            show Steps p.tables e below (T150.setTop (mkF m 80 #[.val (.int p0), .val (.long q1), .second, .val (.long q2), .second, .val (.long q3), .second, .val (.long q4), .second, .val (.ref b1), .val (.long ln), .second, .val (.int (0 : Int32)), .val (.int (1 : Int32)), .val (.int (0 : Int32)), .val (.int (0 : Int32)), .unset, .unset] [])) _
            refine XS.iload X150.here hx rfl (hb hby at_80) rfl ?_
            show Steps p.tables e below (T150.setTop (mkF m 82 #[.val (.int p0), .val (.long q1), .second, .val (.long q2), .second, .val (.long q3), .second, .val (.long q4), .second, .val (.ref b1), .val (.long ln), .second, .val (.int (0 : Int32)), .val (.int (1 : Int32)), .val (.int (0 : Int32)), .val (.int (0 : Int32)), .unset, .unset] [(.int (1 : Int32))])) _
            refine XS.ifYes X150.here hx rfl (pc0 := 82) (pc' := 87) rfl (hb hby at_82) rfl ((if0 _ _).trans (feq (by decide : ¬ ((1 : Int32) = (0 : Int32)))).2) (by decide) (by decide) ?_
            show Steps p.tables e below (T150.setTop (mkF m 87 #[.val (.int p0), .val (.long q1), .second, .val (.long q2), .second, .val (.long q3), .second, .val (.long q4), .second, .val (.ref b1), .val (.long ln), .second, .val (.int (0 : Int32)), .val (.int (1 : Int32)), .val (.int (0 : Int32)), .val (.int (0 : Int32)), .unset, .unset] [])) _
            refine XS.iload X150.here hx rfl (hb hby at_87) rfl ?_
            show Steps p.tables e below (T150.setTop (mkF m 89 #[.val (.int p0), .val (.long q1), .second, .val (.long q2), .second, .val (.long q3), .second, .val (.long q4), .second, .val (.ref b1), .val (.long ln), .second, .val (.int (0 : Int32)), .val (.int (1 : Int32)), .val (.int (0 : Int32)), .val (.int (0 : Int32)), .unset, .unset] [(.int (1 : Int32))])) _
            refine XS.ifNo X150.here hx rfl (hb hby at_89) rfl ((if0 _ _).trans (feq (by decide : ¬ ((1 : Int32) = (0 : Int32)))).1) ?_
            show Steps p.tables e below (T150.setTop (mkF m 92 #[.val (.int p0), .val (.long q1), .second, .val (.long q2), .second, .val (.long q3), .second, .val (.long q4), .second, .val (.ref b1), .val (.long ln), .second, .val (.int (0 : Int32)), .val (.int (1 : Int32)), .val (.int (0 : Int32)), .val (.int (0 : Int32)), .unset, .unset] [])) _
            refine XS.lload X150.here hx rfl (hb hby at_92) rfl ?_
            show Steps p.tables e below (T150.setTop (mkF m 94 #[.val (.int p0), .val (.long q1), .second, .val (.long q2), .second, .val (.long q3), .second, .val (.long q4), .second, .val (.ref b1), .val (.long ln), .second, .val (.int (0 : Int32)), .val (.int (1 : Int32)), .val (.int (0 : Int32)), .val (.int (0 : Int32)), .unset, .unset] [(.long q3)])) _
            refine XS.goto X150.here hx rfl (pc0 := 94) (pc' := 98) rfl (hb hby at_94) (by decide) (by decide) ?_
            show Steps p.tables e below (T150.setTop (mkF m 98 #[.val (.int p0), .val (.long q1), .second, .val (.long q2), .second, .val (.long q3), .second, .val (.long q4), .second, .val (.ref b1), .val (.long ln), .second, .val (.int (0 : Int32)), .val (.int (1 : Int32)), .val (.int (0 : Int32)), .val (.int (0 : Int32)), .unset, .unset] [(.long q3)])) _
            refine XS.lstore X150.here hx rfl (hb hby at_98) rfl (l' := #[.val (.int p0), .val (.long q1), .second, .val (.long q2), .second, .val (.long q3), .second, .val (.long q4), .second, .val (.ref b1), .val (.long ln), .second, .val (.int (0 : Int32)), .val (.int (1 : Int32)), .val (.int (0 : Int32)), .val (.int (0 : Int32)), .val (.long q3), .second]) rfl ?_
            show Steps p.tables e below (T150.setTop (mkF m 100 #[.val (.int p0), .val (.long q1), .second, .val (.long q2), .second, .val (.long q3), .second, .val (.long q4), .second, .val (.ref b1), .val (.long ln), .second, .val (.int (0 : Int32)), .val (.int (1 : Int32)), .val (.int (0 : Int32)), .val (.int (0 : Int32)), .val (.long q3), .second] [])) _
            refine XS.iload X150.here hx rfl (hb hby at_100) rfl ?_
            show Steps p.tables e below (T150.setTop (mkF m 102 #[.val (.int p0), .val (.long q1), .second, .val (.long q2), .second, .val (.long q3), .second, .val (.long q4), .second, .val (.ref b1), .val (.long ln), .second, .val (.int (0 : Int32)), .val (.int (1 : Int32)), .val (.int (0 : Int32)), .val (.int (0 : Int32)), .val (.long q3), .second] [(.int (0 : Int32))])) _
            refine XS.lload X150.here hx rfl (hb hby at_102) rfl ?_
            show Steps p.tables e below (T150.setTop (mkF m 104 #[.val (.int p0), .val (.long q1), .second, .val (.long q2), .second, .val (.long q3), .second, .val (.long q4), .second, .val (.ref b1), .val (.long ln), .second, .val (.int (0 : Int32)), .val (.int (1 : Int32)), .val (.int (0 : Int32)), .val (.int (0 : Int32)), .val (.long q3), .second] [(.long q3), (.int (0 : Int32))])) _
            refine XS.lload X150.here hx rfl (hb hby at_104) rfl ?_
            show Steps p.tables e below (T150.setTop (mkF m 106 #[.val (.int p0), .val (.long q1), .second, .val (.long q2), .second, .val (.long q3), .second, .val (.long q4), .second, .val (.ref b1), .val (.long ln), .second, .val (.int (0 : Int32)), .val (.int (1 : Int32)), .val (.int (0 : Int32)), .val (.int (0 : Int32)), .val (.long q3), .second] [(.long q4), (.long q3), (.int (0 : Int32))])) _
            refine XS.lsub X150.here hx rfl (hb hby at_106) rfl ?_
            show Steps p.tables e below (T150.setTop (mkF m 107 #[.val (.int p0), .val (.long q1), .second, .val (.long q2), .second, .val (.long q3), .second, .val (.long q4), .second, .val (.ref b1), .val (.long ln), .second, .val (.int (0 : Int32)), .val (.int (1 : Int32)), .val (.int (0 : Int32)), .val (.int (0 : Int32)), .val (.long q3), .second] [(.long (q3 - q4)), (.int (0 : Int32))])) _
            refine XS.lconst X150.here hx rfl (hb hby at_107) ?_
            show Steps p.tables e below (T150.setTop (mkF m 108 #[.val (.int p0), .val (.long q1), .second, .val (.long q2), .second, .val (.long q3), .second, .val (.long q4), .second, .val (.ref b1), .val (.long ln), .second, .val (.int (0 : Int32)), .val (.int (1 : Int32)), .val (.int (0 : Int32)), .val (.int (0 : Int32)), .val (.long q3), .second] [(.long (0 : Int64)), (.long (q3 - q4)), (.int (0 : Int32))])) _
            refine XS.lcmp X150.here hx rfl (hb hby at_108) rfl ?_
            show Steps p.tables e below (T150.setTop (mkF m 109 #[.val (.int p0), .val (.long q1), .second, .val (.long q2), .second, .val (.long q3), .second, .val (.long q4), .second, .val (.ref b1), .val (.long ln), .second, .val (.int (0 : Int32)), .val (.int (1 : Int32)), .val (.int (0 : Int32)), .val (.int (0 : Int32)), .val (.long q3), .second] [(.int (lcmpW (q3 - q4) (0 : Int64))), (.int (0 : Int32))])) _
            refine XS.ifYes X150.here hx rfl (pc0 := 109) (pc' := 116) rfl (hb hby at_109) rfl ((if0 _ _).trans (flt (fun z => hs136 ((own_s2 _ _ _).symm ▸ (lw_gt _ _).mp z))).2.2.2) (by decide) (by decide) ?_
            show Steps p.tables e below (T150.setTop (mkF m 116 #[.val (.int p0), .val (.long q1), .second, .val (.long q2), .second, .val (.long q3), .second, .val (.long q4), .second, .val (.ref b1), .val (.long ln), .second, .val (.int (0 : Int32)), .val (.int (1 : Int32)), .val (.int (0 : Int32)), .val (.int (0 : Int32)), .val (.long q3), .second] [(.int (0 : Int32))])) _
            refine XS.iconst X150.here hx rfl (hb hby at_116) ?_
            show Steps p.tables e below (T150.setTop (mkF m 117 #[.val (.int p0), .val (.long q1), .second, .val (.long q2), .second, .val (.long q3), .second, .val (.long q4), .second, .val (.ref b1), .val (.long ln), .second, .val (.int (0 : Int32)), .val (.int (1 : Int32)), .val (.int (0 : Int32)), .val (.int (0 : Int32)), .val (.long q3), .second] [(.int (0 : Int32)), (.int (0 : Int32))])) _
            refine XS.icmpYes X150.here hx rfl (pc0 := 117) (pc' := 122) rfl (hb hby at_117) rfl (teq (rfl : (0 : Int32) = (0 : Int32))).1 (by decide) (by decide) ?_
            show Steps p.tables e below (T150.setTop (mkF m 122 #[.val (.int p0), .val (.long q1), .second, .val (.long q2), .second, .val (.long q3), .second, .val (.long q4), .second, .val (.ref b1), .val (.long ln), .second, .val (.int (0 : Int32)), .val (.int (1 : Int32)), .val (.int (0 : Int32)), .val (.int (0 : Int32)), .val (.long q3), .second] [])) _
            refine XS.aload X150.here hx rfl (hb hby at_122) rfl rfl ?_
            show Steps p.tables e below (T150.setTop (mkF m 124 #[.val (.int p0), .val (.long q1), .second, .val (.long q2), .second, .val (.long q3), .second, .val (.long q4), .second, .val (.ref b1), .val (.long ln), .second, .val (.int (0 : Int32)), .val (.int (1 : Int32)), .val (.int (0 : Int32)), .val (.int (0 : Int32)), .val (.long q3), .second] [(.ref b1)])) _
            refine XS.lload X150.here hx rfl (hb hby at_124) rfl ?_
            show Steps p.tables e below (T150.setTop (mkF m 126 #[.val (.int p0), .val (.long q1), .second, .val (.long q2), .second, .val (.long q3), .second, .val (.long q4), .second, .val (.ref b1), .val (.long ln), .second, .val (.int (0 : Int32)), .val (.int (1 : Int32)), .val (.int (0 : Int32)), .val (.int (0 : Int32)), .val (.long q3), .second] [(.long q3), (.ref b1)])) _
            refine st151.trans ?_
            exact kt)
        obtain rfl : (0 : Int32) = r152 := Pr152.2 (own_s3 _ _)
        obtain ⟨cq154, kq154, q154a, q154b, q154c⟩ := isOf hZ e151 c119_1
        obtain ⟨_, _, ⟨T154, L154, k154, n154⟩, -, X154, ⟨Lc154, hQ154, l154, y154, z154⟩, st154⟩ := X151.virtualBack hx (y := (⟨"com/example/cluster_log/clusterlog/Lease", "answeredSince", "(J)Z"⟩ : MethodName)) (z := (⟨"com/example/cluster_log/clusterlog/Lease", "answeredSince", "(J)Z"⟩ : MethodName)) hown (mvT hZ (hw _ (List.mem_of_getElem? (i := 42) rfl))) (mvT hZ (hw _ (List.mem_of_getElem? (i := 43) rfl))) (notFace_of_selects (args := #[]) (mvT hZ (hw _ (List.mem_of_getElem? (i := 45) rfl)))) (mvT hZ (hw _ (List.mem_of_getElem? (i := 45) rfl))) (mvT hZ (hw _ (List.mem_of_getElem? (i := 44) rfl))) (by decide) (backOf (W := 0) (rm7 l Z aw hw [] b1 (q3 - (1 : Int64)) ln (q3 + ln) T119.heap n0 (Nat.le_trans (Nat.le_trans (Nat.le_trans Z0 E1.1) c17_0.1) c119_0.1) c119_3 c119_2) hZ (hw _ (List.mem_of_getElem? (i := 46) rfl)) (hw _ (List.mem_of_getElem? (i := 2) rfl)) (by decide) (by decide)) q154a q154c (g := (mkF m 140 #[.val (.int p0), .val (.long q1), .second, .val (.long q2), .second, .val (.long q3), .second, .val (.long q4), .second, .val (.ref b1), .val (.long ln), .second, .val (.int (0 : Int32)), .val (.int (1 : Int32)), .val (.int (0 : Int32)), .val (.int (0 : Int32)), .val (.long q3), .second] [(.long (q3 - (1 : Int64))), (.ref b1)])) rfl (by rw [hml]; rfl) (Steps.refl _) (argsL := [(.long (q3 - (1 : Int64)))]) (rest := []) (lenOf pd_4 rfl) rfl (by show 2 * 0 + _ ≤ _; exact Nat.le_of_eq rfl) (hb hby at_140) (fun _ _ => ⟨rfl, e151, (by decide : 1 + 0 ≤ _), (by decide : 3 + 0 ≤ _)⟩)
        dsimp only [Pt.U, Pt.locs, Pt.cells, Pt.slots] at X154 l154 y154 z154 st154 hQ154
        subst l154 y154 z154
        obtain ⟨⟨r155, rfl, Pr155⟩, Nq154, e154⟩ := hQ154
        have N154 := Fr.app N151 Nq154
        have pre156 : ∀ t, Steps p.tables e below (T154.setTop (mkF m 143 #[.val (.int p0), .val (.long q1), .second, .val (.long q2), .second, .val (.long q3), .second, .val (.long q4), .second, .val (.ref b1), .val (.long ln), .second, .val (.int (0 : Int32)), .val (.int (1 : Int32)), .val (.int (0 : Int32)), .val (.int (0 : Int32)), .val (.long q3), .second] [(.int r155)])) t → Steps p.tables e below (s₁.setTop (entryFrame m #[(.int p0), (.long q1), (.long q2), (.long q3), (.long q4)] maxLocals)) t := fun t kt => pre153 t (by
            show Steps p.tables e below (T151.setTop (mkF m 129 #[.val (.int p0), .val (.long q1), .second, .val (.long q2), .second, .val (.long q3), .second, .val (.long q4), .second, .val (.ref b1), .val (.long ln), .second, .val (.int (0 : Int32)), .val (.int (1 : Int32)), .val (.int (0 : Int32)), .val (.int (0 : Int32)), .val (.long q3), .second] [(.int (0 : Int32))])) _
            refine XS.ifYes X151.here hx rfl (pc0 := 129) (pc' := 134) rfl (hb hby at_129) rfl ((if0 _ _).trans (teq (rfl : (0 : Int32) = (0 : Int32))).1) (by decide) (by decide) ?_
            show Steps p.tables e below (T151.setTop (mkF m 134 #[.val (.int p0), .val (.long q1), .second, .val (.long q2), .second, .val (.long q3), .second, .val (.long q4), .second, .val (.ref b1), .val (.long ln), .second, .val (.int (0 : Int32)), .val (.int (1 : Int32)), .val (.int (0 : Int32)), .val (.int (0 : Int32)), .val (.long q3), .second] [])) _
            refine XS.aload X151.here hx rfl (hb hby at_134) rfl rfl ?_
            show Steps p.tables e below (T151.setTop (mkF m 136 #[.val (.int p0), .val (.long q1), .second, .val (.long q2), .second, .val (.long q3), .second, .val (.long q4), .second, .val (.ref b1), .val (.long ln), .second, .val (.int (0 : Int32)), .val (.int (1 : Int32)), .val (.int (0 : Int32)), .val (.int (0 : Int32)), .val (.long q3), .second] [(.ref b1)])) _
            refine XS.lload X151.here hx rfl (hb hby at_136) rfl ?_
            show Steps p.tables e below (T151.setTop (mkF m 138 #[.val (.int p0), .val (.long q1), .second, .val (.long q2), .second, .val (.long q3), .second, .val (.long q4), .second, .val (.ref b1), .val (.long ln), .second, .val (.int (0 : Int32)), .val (.int (1 : Int32)), .val (.int (0 : Int32)), .val (.int (0 : Int32)), .val (.long q3), .second] [(.long q3), (.ref b1)])) _
            refine XS.lconst X151.here hx rfl (hb hby at_138) ?_
            show Steps p.tables e below (T151.setTop (mkF m 139 #[.val (.int p0), .val (.long q1), .second, .val (.long q2), .second, .val (.long q3), .second, .val (.long q4), .second, .val (.ref b1), .val (.long ln), .second, .val (.int (0 : Int32)), .val (.int (1 : Int32)), .val (.int (0 : Int32)), .val (.int (0 : Int32)), .val (.long q3), .second] [(.long (1 : Int64)), (.long q3), (.ref b1)])) _
            refine XS.lsub X151.here hx rfl (hb hby at_139) rfl ?_
            show Steps p.tables e below (T151.setTop (mkF m 140 #[.val (.int p0), .val (.long q1), .second, .val (.long q2), .second, .val (.long q3), .second, .val (.long q4), .second, .val (.ref b1), .val (.long ln), .second, .val (.int (0 : Int32)), .val (.int (1 : Int32)), .val (.int (0 : Int32)), .val (.int (0 : Int32)), .val (.long q3), .second] [(.long (q3 - (1 : Int64))), (.ref b1)])) _
            refine st154.trans ?_
            exact kt)
        obtain rfl : (1 : Int32) = r155 := Pr155.1 (own_s4 _ _)
        obtain ⟨fs, hr, hrun, hended, hW, hsame⟩ := X154.leave (v := some (.int (1 : Int32))) (fun h => by rw [Bd.returns] at h; cases h)
        refine ⟨_, _, pre156 _ ?_, hrun, hended, _, _, rfl, ?_, ⟨_, rfl⟩, hW, hsame.mono (by decide) (by decide)⟩
        · show Steps p.tables e below (T154.setTop (mkF m 143 #[.val (.int p0), .val (.long q1), .second, .val (.long q2), .second, .val (.long q3), .second, .val (.long q4), .second, .val (.ref b1), .val (.long ln), .second, .val (.int (0 : Int32)), .val (.int (1 : Int32)), .val (.int (0 : Int32)), .val (.int (0 : Int32)), .val (.long q3), .second] [(.int (1 : Int32))])) _
          exact retN X154 hx (t := .boolean) Bd.returns (by simp) (hb hby at_143) hr
        · show Q0 Z _ _ _ _ _ _ _ h0 n0 _ T154.heap _
          rw [e154]
          exact ⟨rfl, N154, trivial⟩
    · skip
      obtain ⟨cq157, kq157, q157a, q157b, q157c⟩ := isOf hZ e116 c17_1
      obtain ⟨_, _, ⟨T157, L157, k157, n157⟩, -, X157, ⟨Lc157, hQ157, l157, y157, z157⟩, st157⟩ := X116.virtualBack hx (y := (⟨"com/example/cluster_log/clusterlog/Lease", "renew", "(J)Z"⟩ : MethodName)) (z := (⟨"com/example/cluster_log/clusterlog/Lease", "renew", "(J)Z"⟩ : MethodName)) hown (mvT hZ (hw _ (List.mem_of_getElem? (i := 37) rfl))) (mvT hZ (hw _ (List.mem_of_getElem? (i := 38) rfl))) (notFace_of_selects (args := #[]) (mvT hZ (hw _ (List.mem_of_getElem? (i := 40) rfl)))) (mvT hZ (hw _ (List.mem_of_getElem? (i := 40) rfl))) (mvT hZ (hw _ (List.mem_of_getElem? (i := 39) rfl))) (by decide) (backOf (W := 0) (rmN l Z aw hw [] b1 q3 ln q1 T17.heap n0 (Nat.le_trans (Nat.le_trans Z0 E1.1) c17_0.1) hs118 c17_2 c17_3) hZ (hw _ (List.mem_of_getElem? (i := 41) rfl)) (hw _ (List.mem_of_getElem? (i := 2) rfl)) (by decide) (by decide)) q157a q157c (g := (mkF m 30 #[.val (.int p0), .val (.long q1), .second, .val (.long q2), .second, .val (.long q3), .second, .val (.long q4), .second, .val (.ref b1), .val (.long ln), .second, .val (.int (0 : Int32)), .unset, .unset, .unset, .unset, .unset] [(.long q3), (.ref b1)])) rfl (by rw [hml]; rfl) (Steps.refl _) (argsL := [(.long q3)]) (rest := []) (lenOf pd_4 rfl) rfl (by show 2 * 0 + _ ≤ _; exact Nat.le_of_eq rfl) (hb hby at_30) (fun _ _ => ⟨rfl, e116, (by decide : 1 + 0 ≤ _), (by decide : 3 + 0 ≤ _)⟩)
      dsimp only [Pt.U, Pt.locs, Pt.cells, Pt.slots] at X157 l157 y157 z157 st157 hQ157
      subst l157 y157 z157
      obtain ⟨rfl, Nq157, e157⟩ := hQ157
      have N157 := Fr.app N116 Nq157
      have pre158 : ∀ t, Steps p.tables e below (T157.setTop (mkF m 39 #[.val (.int p0), .val (.long q1), .second, .val (.long q2), .second, .val (.long q3), .second, .val (.long q4), .second, .val (.ref b1), .val (.long ln), .second, .val (.int (0 : Int32)), .val (.int (0 : Int32)), .unset, .unset, .unset, .unset] [(.long q4), (.ref b1)])) t → Steps p.tables e below (s₁.setTop (entryFrame m #[(.int p0), (.long q1), (.long q2), (.long q3), (.long q4)] maxLocals)) t := fun t kt => pre117 t (by
          show Steps p.tables e below (T116.setTop (mkF m 30 #[.val (.int p0), .val (.long q1), .second, .val (.long q2), .second, .val (.long q3), .second, .val (.long q4), .second, .val (.ref b1), .val (.long ln), .second, .val (.int (0 : Int32)), .unset, .unset, .unset, .unset, .unset] [(.long q3), (.ref b1)])) _
          refine st157.trans ?_
          show Steps p.tables e below (T157.setTop (mkF m 33 #[.val (.int p0), .val (.long q1), .second, .val (.long q2), .second, .val (.long q3), .second, .val (.long q4), .second, .val (.ref b1), .val (.long ln), .second, .val (.int (0 : Int32)), .unset, .unset, .unset, .unset, .unset] [(.int (0 : Int32))])) _
          refine XS.istore X157.here hx rfl (hb hby at_33) rfl (l' := #[.val (.int p0), .val (.long q1), .second, .val (.long q2), .second, .val (.long q3), .second, .val (.long q4), .second, .val (.ref b1), .val (.long ln), .second, .val (.int (0 : Int32)), .val (.int (0 : Int32)), .unset, .unset, .unset, .unset]) rfl ?_
          show Steps p.tables e below (T157.setTop (mkF m 35 #[.val (.int p0), .val (.long q1), .second, .val (.long q2), .second, .val (.long q3), .second, .val (.long q4), .second, .val (.ref b1), .val (.long ln), .second, .val (.int (0 : Int32)), .val (.int (0 : Int32)), .unset, .unset, .unset, .unset] [])) _
          refine XS.aload X157.here hx rfl (hb hby at_35) rfl rfl ?_
          show Steps p.tables e below (T157.setTop (mkF m 37 #[.val (.int p0), .val (.long q1), .second, .val (.long q2), .second, .val (.long q3), .second, .val (.long q4), .second, .val (.ref b1), .val (.long ln), .second, .val (.int (0 : Int32)), .val (.int (0 : Int32)), .unset, .unset, .unset, .unset] [(.ref b1)])) _
          refine XS.lload X157.here hx rfl (hb hby at_37) rfl ?_
          exact kt)
      by_cases hs159 : (0 : Int64) < ((q1 - ln) - q4)
      · skip
        obtain ⟨cq160, kq160, q160a, q160b, q160c⟩ := isOf hZ e157 c17_1
        obtain ⟨_, _, ⟨T160, L160, k160, n160⟩, -, X160, ⟨Lc160, hQ160, l160, y160, z160⟩, st160⟩ := X157.virtualBack hx (y := (⟨"com/example/cluster_log/clusterlog/Lease", "answeredSince", "(J)Z"⟩ : MethodName)) (z := (⟨"com/example/cluster_log/clusterlog/Lease", "answeredSince", "(J)Z"⟩ : MethodName)) hown (mvT hZ (hw _ (List.mem_of_getElem? (i := 42) rfl))) (mvT hZ (hw _ (List.mem_of_getElem? (i := 43) rfl))) (notFace_of_selects (args := #[]) (mvT hZ (hw _ (List.mem_of_getElem? (i := 45) rfl)))) (mvT hZ (hw _ (List.mem_of_getElem? (i := 45) rfl))) (mvT hZ (hw _ (List.mem_of_getElem? (i := 44) rfl))) (by decide) (backOf (W := 0) (rm7 l Z aw hw [] b1 q4 ln q1 T17.heap n0 (Nat.le_trans (Nat.le_trans Z0 E1.1) c17_0.1) c17_3 c17_2) hZ (hw _ (List.mem_of_getElem? (i := 46) rfl)) (hw _ (List.mem_of_getElem? (i := 2) rfl)) (by decide) (by decide)) q160a q160c (g := (mkF m 39 #[.val (.int p0), .val (.long q1), .second, .val (.long q2), .second, .val (.long q3), .second, .val (.long q4), .second, .val (.ref b1), .val (.long ln), .second, .val (.int (0 : Int32)), .val (.int (0 : Int32)), .unset, .unset, .unset, .unset] [(.long q4), (.ref b1)])) rfl (by rw [hml]; rfl) (Steps.refl _) (argsL := [(.long q4)]) (rest := []) (lenOf pd_4 rfl) rfl (by show 2 * 0 + _ ≤ _; exact Nat.le_of_eq rfl) (hb hby at_39) (fun _ _ => ⟨rfl, e157, (by decide : 1 + 0 ≤ _), (by decide : 3 + 0 ≤ _)⟩)
        dsimp only [Pt.U, Pt.locs, Pt.cells, Pt.slots] at X160 l160 y160 z160 st160 hQ160
        subst l160 y160 z160
        obtain ⟨⟨r161, rfl, Pr161⟩, Nq160, e160⟩ := hQ160
        have N160 := Fr.app N157 Nq160
        have pre162 : ∀ t, Steps p.tables e below (T160.setTop (mkF m 42 #[.val (.int p0), .val (.long q1), .second, .val (.long q2), .second, .val (.long q3), .second, .val (.long q4), .second, .val (.ref b1), .val (.long ln), .second, .val (.int (0 : Int32)), .val (.int (0 : Int32)), .unset, .unset, .unset, .unset] [(.int r161)])) t → Steps p.tables e below (s₁.setTop (entryFrame m #[(.int p0), (.long q1), (.long q2), (.long q3), (.long q4)] maxLocals)) t := fun t kt => pre158 t (by
            show Steps p.tables e below (T157.setTop (mkF m 39 #[.val (.int p0), .val (.long q1), .second, .val (.long q2), .second, .val (.long q3), .second, .val (.long q4), .second, .val (.ref b1), .val (.long ln), .second, .val (.int (0 : Int32)), .val (.int (0 : Int32)), .unset, .unset, .unset, .unset] [(.long q4), (.ref b1)])) _
            refine st160.trans ?_
            exact kt)
        obtain rfl : (1 : Int32) = r161 := Pr161.1 hs159
        obtain ⟨cq163, kq163, q163a, q163b, q163c⟩ := isOf hZ e160 c17_1
        obtain ⟨_, _, ⟨T163, L163, k163, n163⟩, -, X163, ⟨Lc163, hQ163, l163, y163, z163⟩, st163⟩ := X160.virtualBack hx (y := (⟨"com/example/cluster_log/clusterlog/Lease", "left", "(J)J"⟩ : MethodName)) (z := (⟨"com/example/cluster_log/clusterlog/Lease", "left", "(J)J"⟩ : MethodName)) hown (mvT hZ (hw _ (List.mem_of_getElem? (i := 47) rfl))) (mvT hZ (hw _ (List.mem_of_getElem? (i := 48) rfl))) (notFace_of_selects (args := #[]) (mvT hZ (hw _ (List.mem_of_getElem? (i := 50) rfl)))) (mvT hZ (hw _ (List.mem_of_getElem? (i := 50) rfl))) (mvT hZ (hw _ (List.mem_of_getElem? (i := 49) rfl))) (by decide) (backOf (W := 0) (rm8 l Z aw hw [] b1 q4 q1 T17.heap n0 (Nat.le_trans (Nat.le_trans Z0 E1.1) c17_0.1) c17_3) hZ (hw _ (List.mem_of_getElem? (i := 51) rfl)) (hw _ (List.mem_of_getElem? (i := 2) rfl)) (by decide) (by decide)) q163a q163c (g := (mkF m 48 #[.val (.int p0), .val (.long q1), .second, .val (.long q2), .second, .val (.long q3), .second, .val (.long q4), .second, .val (.ref b1), .val (.long ln), .second, .val (.int (0 : Int32)), .val (.int (0 : Int32)), .val (.int (1 : Int32)), .unset, .unset, .unset] [(.long q4), (.ref b1)])) rfl (by rw [hml]; rfl) (Steps.refl _) (argsL := [(.long q4)]) (rest := []) (lenOf pd_0 rfl) rfl (by show 2 * 0 + _ ≤ _; exact Nat.le_of_eq rfl) (hb hby at_48) (fun _ _ => ⟨rfl, e160, (by decide : 1 + 0 ≤ _), (by decide : 3 + 0 ≤ _)⟩)
        dsimp only [Pt.U, Pt.locs, Pt.cells, Pt.slots] at X163 l163 y163 z163 st163 hQ163
        subst l163 y163 z163
        obtain ⟨rfl, Nq163, e163⟩ := hQ163
        have N163 := Fr.app N160 Nq163
        have pre164 : ∀ t, Steps p.tables e below (T163.setTop (mkF m 86 #[.val (.int p0), .val (.long q1), .second, .val (.long q2), .second, .val (.long q3), .second, .val (.long q4), .second, .val (.ref b1), .val (.long ln), .second, .val (.int (0 : Int32)), .val (.int (0 : Int32)), .val (.int (1 : Int32)), .val (.int (1 : Int32)), .unset, .unset] [(.int (1 : Int32))])) t → Steps p.tables e below (s₁.setTop (entryFrame m #[(.int p0), (.long q1), (.long q2), (.long q3), (.long q4)] maxLocals)) t := fun t kt => pre162 t (by
            show Steps p.tables e below (T160.setTop (mkF m 42 #[.val (.int p0), .val (.long q1), .second, .val (.long q2), .second, .val (.long q3), .second, .val (.long q4), .second, .val (.ref b1), .val (.long ln), .second, .val (.int (0 : Int32)), .val (.int (0 : Int32)), .unset, .unset, .unset, .unset] [(.int (1 : Int32))])) _
            refine XS.istore X160.here hx rfl (hb hby at_42) rfl (l' := #[.val (.int p0), .val (.long q1), .second, .val (.long q2), .second, .val (.long q3), .second, .val (.long q4), .second, .val (.ref b1), .val (.long ln), .second, .val (.int (0 : Int32)), .val (.int (0 : Int32)), .val (.int (1 : Int32)), .unset, .unset, .unset]) rfl ?_
            show Steps p.tables e below (T160.setTop (mkF m 44 #[.val (.int p0), .val (.long q1), .second, .val (.long q2), .second, .val (.long q3), .second, .val (.long q4), .second, .val (.ref b1), .val (.long ln), .second, .val (.int (0 : Int32)), .val (.int (0 : Int32)), .val (.int (1 : Int32)), .unset, .unset, .unset] [])) _
            refine XS.aload X160.here hx rfl (hb hby at_44) rfl rfl ?_
            show Steps p.tables e below (T160.setTop (mkF m 46 #[.val (.int p0), .val (.long q1), .second, .val (.long q2), .second, .val (.long q3), .second, .val (.long q4), .second, .val (.ref b1), .val (.long ln), .second, .val (.int (0 : Int32)), .val (.int (0 : Int32)), .val (.int (1 : Int32)), .unset, .unset, .unset] [(.ref b1)])) _
            refine XS.lload X160.here hx rfl (hb hby at_46) rfl ?_
            show Steps p.tables e below (T160.setTop (mkF m 48 #[.val (.int p0), .val (.long q1), .second, .val (.long q2), .second, .val (.long q3), .second, .val (.long q4), .second, .val (.ref b1), .val (.long ln), .second, .val (.int (0 : Int32)), .val (.int (0 : Int32)), .val (.int (1 : Int32)), .unset, .unset, .unset] [(.long q4), (.ref b1)])) _
            refine st163.trans ?_
            show Steps p.tables e below (T163.setTop (mkF m 51 #[.val (.int p0), .val (.long q1), .second, .val (.long q2), .second, .val (.long q3), .second, .val (.long q4), .second, .val (.ref b1), .val (.long ln), .second, .val (.int (0 : Int32)), .val (.int (0 : Int32)), .val (.int (1 : Int32)), .unset, .unset, .unset] [(.long (q1 - q4))])) _
            refine XS.lload X163.here hx rfl (hb hby at_51) rfl ?_
            show Steps p.tables e below (T163.setTop (mkF m 53 #[.val (.int p0), .val (.long q1), .second, .val (.long q2), .second, .val (.long q3), .second, .val (.long q4), .second, .val (.ref b1), .val (.long ln), .second, .val (.int (0 : Int32)), .val (.int (0 : Int32)), .val (.int (1 : Int32)), .unset, .unset, .unset] [(.long ln), (.long (q1 - q4))])) _
            refine XS.lsub X163.here hx rfl (hb hby at_53) rfl ?_
            show Steps p.tables e below (T163.setTop (mkF m 54 #[.val (.int p0), .val (.long q1), .second, .val (.long q2), .second, .val (.long q3), .second, .val (.long q4), .second, .val (.ref b1), .val (.long ln), .second, .val (.int (0 : Int32)), .val (.int (0 : Int32)), .val (.int (1 : Int32)), .unset, .unset, .unset] [(.long ((q1 - q4) - ln))])) _
            refine XS.lconst X163.here hx rfl (hb hby at_54) ?_
            show Steps p.tables e below (T163.setTop (mkF m 55 #[.val (.int p0), .val (.long q1), .second, .val (.long q2), .second, .val (.long q3), .second, .val (.long q4), .second, .val (.ref b1), .val (.long ln), .second, .val (.int (0 : Int32)), .val (.int (0 : Int32)), .val (.int (1 : Int32)), .unset, .unset, .unset] [(.long (0 : Int64)), (.long ((q1 - q4) - ln))])) _
            refine XS.lcmp X163.here hx rfl (hb hby at_55) rfl ?_
            show Steps p.tables e below (T163.setTop (mkF m 56 #[.val (.int p0), .val (.long q1), .second, .val (.long q2), .second, .val (.long q3), .second, .val (.long q4), .second, .val (.ref b1), .val (.long ln), .second, .val (.int (0 : Int32)), .val (.int (0 : Int32)), .val (.int (1 : Int32)), .unset, .unset, .unset] [(.int (lcmpW ((q1 - q4) - ln) (0 : Int64)))])) _
            refine XS.ifNo X163.here hx rfl (hb hby at_56) rfl ((if0 _ _).trans (tlt ((lw_gt _ _).mpr (own_s1 _ _ _ ▸ hs159))).2.2.2) ?_
            show Steps p.tables e below (T163.setTop (mkF m 59 #[.val (.int p0), .val (.long q1), .second, .val (.long q2), .second, .val (.long q3), .second, .val (.long q4), .second, .val (.ref b1), .val (.long ln), .second, .val (.int (0 : Int32)), .val (.int (0 : Int32)), .val (.int (1 : Int32)), .unset, .unset, .unset] [])) _
            refine XS.iconst X163.here hx rfl (hb hby at_59) ?_
            show Steps p.tables e below (T163.setTop (mkF m 60 #[.val (.int p0), .val (.long q1), .second, .val (.long q2), .second, .val (.long q3), .second, .val (.long q4), .second, .val (.ref b1), .val (.long ln), .second, .val (.int (0 : Int32)), .val (.int (0 : Int32)), .val (.int (1 : Int32)), .unset, .unset, .unset] [(.int (1 : Int32))])) _
            refine XS.goto X163.here hx rfl (pc0 := 60) (pc' := 64) rfl (hb hby at_60) (by decide) (by decide) ?_
            show Steps p.tables e below (T163.setTop (mkF m 64 #[.val (.int p0), .val (.long q1), .second, .val (.long q2), .second, .val (.long q3), .second, .val (.long q4), .second, .val (.ref b1), .val (.long ln), .second, .val (.int (0 : Int32)), .val (.int (0 : Int32)), .val (.int (1 : Int32)), .unset, .unset, .unset] [(.int (1 : Int32))])) _
            refine XS.istore X163.here hx rfl (hb hby at_64) rfl (l' := #[.val (.int p0), .val (.long q1), .second, .val (.long q2), .second, .val (.long q3), .second, .val (.long q4), .second, .val (.ref b1), .val (.long ln), .second, .val (.int (0 : Int32)), .val (.int (0 : Int32)), .val (.int (1 : Int32)), .val (.int (1 : Int32)), .unset, .unset]) rfl ?_
            show Steps p.tables e below (T163.setTop (mkF m 66 #[.val (.int p0), .val (.long q1), .second, .val (.long q2), .second, .val (.long q3), .second, .val (.long q4), .second, .val (.ref b1), .val (.long ln), .second, .val (.int (0 : Int32)), .val (.int (0 : Int32)), .val (.int (1 : Int32)), .val (.int (1 : Int32)), .unset, .unset] [])) _
            refine XS.iload X163.here hx rfl (hb hby at_66) rfl ?_
            show Steps p.tables e below (T163.setTop (mkF m 68 #[.val (.int p0), .val (.long q1), .second, .val (.long q2), .second, .val (.long q3), .second, .val (.long q4), .second, .val (.ref b1), .val (.long ln), .second, .val (.int (0 : Int32)), .val (.int (0 : Int32)), .val (.int (1 : Int32)), .val (.int (1 : Int32)), .unset, .unset] [(.int (1 : Int32))])) _
            refine XS.iload X163.here hx rfl (hb hby at_68) rfl ?_
            show Steps p.tables e below (T163.setTop (mkF m 70 #[.val (.int p0), .val (.long q1), .second, .val (.long q2), .second, .val (.long q3), .second, .val (.long q4), .second, .val (.ref b1), .val (.long ln), .second, .val (.int (0 : Int32)), .val (.int (0 : Int32)), .val (.int (1 : Int32)), .val (.int (1 : Int32)), .unset, .unset] [(.int (1 : Int32)), (.int (1 : Int32))])) _
            refine XS.icmpYes X163.here hx rfl (pc0 := 70) (pc' := 75) rfl (hb hby at_70) rfl (teq (rfl : (1 : Int32) = (1 : Int32))).1 (by decide) (by decide) ?_
            show Steps p.tables e below (T163.setTop (mkF m 75 #[.val (.int p0), .val (.long q1), .second, .val (.long q2), .second, .val (.long q3), .second, .val (.long q4), .second, .val (.ref b1), .val (.long ln), .second, .val (.int (0 : Int32)), .val (.int (0 : Int32)), .val (.int (1 : Int32)), .val (.int (1 : Int32)), .unset, .unset] [])) _
            refine XS.iload X163.here hx rfl (hb hby at_75) rfl ?_
            show Steps p.tables e below (T163.setTop (mkF m 77 #[.val (.int p0), .val (.long q1), .second, .val (.long q2), .second, .val (.long q3), .second, .val (.long q4), .second, .val (.ref b1), .val (.long ln), .second, .val (.int (0 : Int32)), .val (.int (0 : Int32)), .val (.int (1 : Int32)), .val (.int (1 : Int32)), .unset, .unset] [(.int (0 : Int32))])) _
            refine XS.ifNo X163.here hx rfl (hb hby at_77) rfl ((if0 _ _).trans (teq (rfl : (0 : Int32) = (0 : Int32))).2) ?_
            show Steps p.tables e below (T163.setTop (mkF m 80 #[.val (.int p0), .val (.long q1), .second, .val (.long q2), .second, .val (.long q3), .second, .val (.long q4), .second, .val (.ref b1), .val (.long ln), .second, .val (.int (0 : Int32)), .val (.int (0 : Int32)), .val (.int (1 : Int32)), .val (.int (1 : Int32)), .unset, .unset] [])) _
            refine XS.iload X163.here hx rfl (hb hby at_80) rfl ?_
            show Steps p.tables e below (T163.setTop (mkF m 82 #[.val (.int p0), .val (.long q1), .second, .val (.long q2), .second, .val (.long q3), .second, .val (.long q4), .second, .val (.ref b1), .val (.long ln), .second, .val (.int (0 : Int32)), .val (.int (0 : Int32)), .val (.int (1 : Int32)), .val (.int (1 : Int32)), .unset, .unset] [(.int (0 : Int32))])) _
            refine XS.ifNo X163.here hx rfl (hb hby at_82) rfl ((if0 _ _).trans (teq (rfl : (0 : Int32) = (0 : Int32))).2) ?_
            show Steps p.tables e below (T163.setTop (mkF m 85 #[.val (.int p0), .val (.long q1), .second, .val (.long q2), .second, .val (.long q3), .second, .val (.long q4), .second, .val (.ref b1), .val (.long ln), .second, .val (.int (0 : Int32)), .val (.int (0 : Int32)), .val (.int (1 : Int32)), .val (.int (1 : Int32)), .unset, .unset] [])) _
            refine XS.iconst X163.here hx rfl (hb hby at_85) ?_
            exact kt)
        obtain ⟨fs, hr, hrun, hended, hW, hsame⟩ := X163.leave (v := some (.int (1 : Int32))) (fun h => by rw [Bd.returns] at h; cases h)
        refine ⟨_, _, pre164 _ ?_, hrun, hended, _, _, rfl, ?_, ⟨_, rfl⟩, hW, hsame.mono (by decide) (by decide)⟩
        · show Steps p.tables e below (T163.setTop (mkF m 86 #[.val (.int p0), .val (.long q1), .second, .val (.long q2), .second, .val (.long q3), .second, .val (.long q4), .second, .val (.ref b1), .val (.long ln), .second, .val (.int (0 : Int32)), .val (.int (0 : Int32)), .val (.int (1 : Int32)), .val (.int (1 : Int32)), .unset, .unset] [(.int (1 : Int32))])) _
          exact retN X163 hx (t := .boolean) Bd.returns (by simp) (hb hby at_86) hr
        · show Q0 Z _ _ _ _ _ _ _ h0 n0 _ T163.heap _
          rw [e163]
          exact ⟨rfl, N163, trivial⟩
      · skip
        obtain ⟨cq165, kq165, q165a, q165b, q165c⟩ := isOf hZ e157 c17_1
        obtain ⟨_, _, ⟨T165, L165, k165, n165⟩, -, X165, ⟨Lc165, hQ165, l165, y165, z165⟩, st165⟩ := X157.virtualBack hx (y := (⟨"com/example/cluster_log/clusterlog/Lease", "answeredSince", "(J)Z"⟩ : MethodName)) (z := (⟨"com/example/cluster_log/clusterlog/Lease", "answeredSince", "(J)Z"⟩ : MethodName)) hown (mvT hZ (hw _ (List.mem_of_getElem? (i := 42) rfl))) (mvT hZ (hw _ (List.mem_of_getElem? (i := 43) rfl))) (notFace_of_selects (args := #[]) (mvT hZ (hw _ (List.mem_of_getElem? (i := 45) rfl)))) (mvT hZ (hw _ (List.mem_of_getElem? (i := 45) rfl))) (mvT hZ (hw _ (List.mem_of_getElem? (i := 44) rfl))) (by decide) (backOf (W := 0) (rm7 l Z aw hw [] b1 q4 ln q1 T17.heap n0 (Nat.le_trans (Nat.le_trans Z0 E1.1) c17_0.1) c17_3 c17_2) hZ (hw _ (List.mem_of_getElem? (i := 46) rfl)) (hw _ (List.mem_of_getElem? (i := 2) rfl)) (by decide) (by decide)) q165a q165c (g := (mkF m 39 #[.val (.int p0), .val (.long q1), .second, .val (.long q2), .second, .val (.long q3), .second, .val (.long q4), .second, .val (.ref b1), .val (.long ln), .second, .val (.int (0 : Int32)), .val (.int (0 : Int32)), .unset, .unset, .unset, .unset] [(.long q4), (.ref b1)])) rfl (by rw [hml]; rfl) (Steps.refl _) (argsL := [(.long q4)]) (rest := []) (lenOf pd_4 rfl) rfl (by show 2 * 0 + _ ≤ _; exact Nat.le_of_eq rfl) (hb hby at_39) (fun _ _ => ⟨rfl, e157, (by decide : 1 + 0 ≤ _), (by decide : 3 + 0 ≤ _)⟩)
        dsimp only [Pt.U, Pt.locs, Pt.cells, Pt.slots] at X165 l165 y165 z165 st165 hQ165
        subst l165 y165 z165
        obtain ⟨⟨r166, rfl, Pr166⟩, Nq165, e165⟩ := hQ165
        have N165 := Fr.app N157 Nq165
        have pre167 : ∀ t, Steps p.tables e below (T165.setTop (mkF m 42 #[.val (.int p0), .val (.long q1), .second, .val (.long q2), .second, .val (.long q3), .second, .val (.long q4), .second, .val (.ref b1), .val (.long ln), .second, .val (.int (0 : Int32)), .val (.int (0 : Int32)), .unset, .unset, .unset, .unset] [(.int r166)])) t → Steps p.tables e below (s₁.setTop (entryFrame m #[(.int p0), (.long q1), (.long q2), (.long q3), (.long q4)] maxLocals)) t := fun t kt => pre158 t (by
            show Steps p.tables e below (T157.setTop (mkF m 39 #[.val (.int p0), .val (.long q1), .second, .val (.long q2), .second, .val (.long q3), .second, .val (.long q4), .second, .val (.ref b1), .val (.long ln), .second, .val (.int (0 : Int32)), .val (.int (0 : Int32)), .unset, .unset, .unset, .unset] [(.long q4), (.ref b1)])) _
            refine st165.trans ?_
            exact kt)
        obtain rfl : (0 : Int32) = r166 := Pr166.2 hs159
        obtain ⟨cq168, kq168, q168a, q168b, q168c⟩ := isOf hZ e165 c17_1
        obtain ⟨_, _, ⟨T168, L168, k168, n168⟩, -, X168, ⟨Lc168, hQ168, l168, y168, z168⟩, st168⟩ := X165.virtualBack hx (y := (⟨"com/example/cluster_log/clusterlog/Lease", "left", "(J)J"⟩ : MethodName)) (z := (⟨"com/example/cluster_log/clusterlog/Lease", "left", "(J)J"⟩ : MethodName)) hown (mvT hZ (hw _ (List.mem_of_getElem? (i := 47) rfl))) (mvT hZ (hw _ (List.mem_of_getElem? (i := 48) rfl))) (notFace_of_selects (args := #[]) (mvT hZ (hw _ (List.mem_of_getElem? (i := 50) rfl)))) (mvT hZ (hw _ (List.mem_of_getElem? (i := 50) rfl))) (mvT hZ (hw _ (List.mem_of_getElem? (i := 49) rfl))) (by decide) (backOf (W := 0) (rm8 l Z aw hw [] b1 q4 q1 T17.heap n0 (Nat.le_trans (Nat.le_trans Z0 E1.1) c17_0.1) c17_3) hZ (hw _ (List.mem_of_getElem? (i := 51) rfl)) (hw _ (List.mem_of_getElem? (i := 2) rfl)) (by decide) (by decide)) q168a q168c (g := (mkF m 48 #[.val (.int p0), .val (.long q1), .second, .val (.long q2), .second, .val (.long q3), .second, .val (.long q4), .second, .val (.ref b1), .val (.long ln), .second, .val (.int (0 : Int32)), .val (.int (0 : Int32)), .val (.int (0 : Int32)), .unset, .unset, .unset] [(.long q4), (.ref b1)])) rfl (by rw [hml]; rfl) (Steps.refl _) (argsL := [(.long q4)]) (rest := []) (lenOf pd_0 rfl) rfl (by show 2 * 0 + _ ≤ _; exact Nat.le_of_eq rfl) (hb hby at_48) (fun _ _ => ⟨rfl, e165, (by decide : 1 + 0 ≤ _), (by decide : 3 + 0 ≤ _)⟩)
        dsimp only [Pt.U, Pt.locs, Pt.cells, Pt.slots] at X168 l168 y168 z168 st168 hQ168
        subst l168 y168 z168
        obtain ⟨rfl, Nq168, e168⟩ := hQ168
        have N168 := Fr.app N165 Nq168
        have pre169 : ∀ t, Steps p.tables e below (T168.setTop (mkF m 86 #[.val (.int p0), .val (.long q1), .second, .val (.long q2), .second, .val (.long q3), .second, .val (.long q4), .second, .val (.ref b1), .val (.long ln), .second, .val (.int (0 : Int32)), .val (.int (0 : Int32)), .val (.int (0 : Int32)), .val (.int (0 : Int32)), .unset, .unset] [(.int (1 : Int32))])) t → Steps p.tables e below (s₁.setTop (entryFrame m #[(.int p0), (.long q1), (.long q2), (.long q3), (.long q4)] maxLocals)) t := fun t kt => pre167 t (by
            show Steps p.tables e below (T165.setTop (mkF m 42 #[.val (.int p0), .val (.long q1), .second, .val (.long q2), .second, .val (.long q3), .second, .val (.long q4), .second, .val (.ref b1), .val (.long ln), .second, .val (.int (0 : Int32)), .val (.int (0 : Int32)), .unset, .unset, .unset, .unset] [(.int (0 : Int32))])) _
            refine XS.istore X165.here hx rfl (hb hby at_42) rfl (l' := #[.val (.int p0), .val (.long q1), .second, .val (.long q2), .second, .val (.long q3), .second, .val (.long q4), .second, .val (.ref b1), .val (.long ln), .second, .val (.int (0 : Int32)), .val (.int (0 : Int32)), .val (.int (0 : Int32)), .unset, .unset, .unset]) rfl ?_
            show Steps p.tables e below (T165.setTop (mkF m 44 #[.val (.int p0), .val (.long q1), .second, .val (.long q2), .second, .val (.long q3), .second, .val (.long q4), .second, .val (.ref b1), .val (.long ln), .second, .val (.int (0 : Int32)), .val (.int (0 : Int32)), .val (.int (0 : Int32)), .unset, .unset, .unset] [])) _
            refine XS.aload X165.here hx rfl (hb hby at_44) rfl rfl ?_
            show Steps p.tables e below (T165.setTop (mkF m 46 #[.val (.int p0), .val (.long q1), .second, .val (.long q2), .second, .val (.long q3), .second, .val (.long q4), .second, .val (.ref b1), .val (.long ln), .second, .val (.int (0 : Int32)), .val (.int (0 : Int32)), .val (.int (0 : Int32)), .unset, .unset, .unset] [(.ref b1)])) _
            refine XS.lload X165.here hx rfl (hb hby at_46) rfl ?_
            show Steps p.tables e below (T165.setTop (mkF m 48 #[.val (.int p0), .val (.long q1), .second, .val (.long q2), .second, .val (.long q3), .second, .val (.long q4), .second, .val (.ref b1), .val (.long ln), .second, .val (.int (0 : Int32)), .val (.int (0 : Int32)), .val (.int (0 : Int32)), .unset, .unset, .unset] [(.long q4), (.ref b1)])) _
            refine st168.trans ?_
            show Steps p.tables e below (T168.setTop (mkF m 51 #[.val (.int p0), .val (.long q1), .second, .val (.long q2), .second, .val (.long q3), .second, .val (.long q4), .second, .val (.ref b1), .val (.long ln), .second, .val (.int (0 : Int32)), .val (.int (0 : Int32)), .val (.int (0 : Int32)), .unset, .unset, .unset] [(.long (q1 - q4))])) _
            refine XS.lload X168.here hx rfl (hb hby at_51) rfl ?_
            show Steps p.tables e below (T168.setTop (mkF m 53 #[.val (.int p0), .val (.long q1), .second, .val (.long q2), .second, .val (.long q3), .second, .val (.long q4), .second, .val (.ref b1), .val (.long ln), .second, .val (.int (0 : Int32)), .val (.int (0 : Int32)), .val (.int (0 : Int32)), .unset, .unset, .unset] [(.long ln), (.long (q1 - q4))])) _
            refine XS.lsub X168.here hx rfl (hb hby at_53) rfl ?_
            show Steps p.tables e below (T168.setTop (mkF m 54 #[.val (.int p0), .val (.long q1), .second, .val (.long q2), .second, .val (.long q3), .second, .val (.long q4), .second, .val (.ref b1), .val (.long ln), .second, .val (.int (0 : Int32)), .val (.int (0 : Int32)), .val (.int (0 : Int32)), .unset, .unset, .unset] [(.long ((q1 - q4) - ln))])) _
            refine XS.lconst X168.here hx rfl (hb hby at_54) ?_
            show Steps p.tables e below (T168.setTop (mkF m 55 #[.val (.int p0), .val (.long q1), .second, .val (.long q2), .second, .val (.long q3), .second, .val (.long q4), .second, .val (.ref b1), .val (.long ln), .second, .val (.int (0 : Int32)), .val (.int (0 : Int32)), .val (.int (0 : Int32)), .unset, .unset, .unset] [(.long (0 : Int64)), (.long ((q1 - q4) - ln))])) _
            refine XS.lcmp X168.here hx rfl (hb hby at_55) rfl ?_
            show Steps p.tables e below (T168.setTop (mkF m 56 #[.val (.int p0), .val (.long q1), .second, .val (.long q2), .second, .val (.long q3), .second, .val (.long q4), .second, .val (.ref b1), .val (.long ln), .second, .val (.int (0 : Int32)), .val (.int (0 : Int32)), .val (.int (0 : Int32)), .unset, .unset, .unset] [(.int (lcmpW ((q1 - q4) - ln) (0 : Int64)))])) _
            refine XS.ifYes X168.here hx rfl (pc0 := 56) (pc' := 63) rfl (hb hby at_56) rfl ((if0 _ _).trans (flt (fun z => hs159 (own_s1 _ _ _ ▸ (lw_gt _ _).mp z))).2.2.2) (by decide) (by decide) ?_
            show Steps p.tables e below (T168.setTop (mkF m 63 #[.val (.int p0), .val (.long q1), .second, .val (.long q2), .second, .val (.long q3), .second, .val (.long q4), .second, .val (.ref b1), .val (.long ln), .second, .val (.int (0 : Int32)), .val (.int (0 : Int32)), .val (.int (0 : Int32)), .unset, .unset, .unset] [])) _
            refine XS.iconst X168.here hx rfl (hb hby at_63) ?_
            show Steps p.tables e below (T168.setTop (mkF m 64 #[.val (.int p0), .val (.long q1), .second, .val (.long q2), .second, .val (.long q3), .second, .val (.long q4), .second, .val (.ref b1), .val (.long ln), .second, .val (.int (0 : Int32)), .val (.int (0 : Int32)), .val (.int (0 : Int32)), .unset, .unset, .unset] [(.int (0 : Int32))])) _
            refine XS.istore X168.here hx rfl (hb hby at_64) rfl (l' := #[.val (.int p0), .val (.long q1), .second, .val (.long q2), .second, .val (.long q3), .second, .val (.long q4), .second, .val (.ref b1), .val (.long ln), .second, .val (.int (0 : Int32)), .val (.int (0 : Int32)), .val (.int (0 : Int32)), .val (.int (0 : Int32)), .unset, .unset]) rfl ?_
            show Steps p.tables e below (T168.setTop (mkF m 66 #[.val (.int p0), .val (.long q1), .second, .val (.long q2), .second, .val (.long q3), .second, .val (.long q4), .second, .val (.ref b1), .val (.long ln), .second, .val (.int (0 : Int32)), .val (.int (0 : Int32)), .val (.int (0 : Int32)), .val (.int (0 : Int32)), .unset, .unset] [])) _
            refine XS.iload X168.here hx rfl (hb hby at_66) rfl ?_
            show Steps p.tables e below (T168.setTop (mkF m 68 #[.val (.int p0), .val (.long q1), .second, .val (.long q2), .second, .val (.long q3), .second, .val (.long q4), .second, .val (.ref b1), .val (.long ln), .second, .val (.int (0 : Int32)), .val (.int (0 : Int32)), .val (.int (0 : Int32)), .val (.int (0 : Int32)), .unset, .unset] [(.int (0 : Int32))])) _
            refine XS.iload X168.here hx rfl (hb hby at_68) rfl ?_
            show Steps p.tables e below (T168.setTop (mkF m 70 #[.val (.int p0), .val (.long q1), .second, .val (.long q2), .second, .val (.long q3), .second, .val (.long q4), .second, .val (.ref b1), .val (.long ln), .second, .val (.int (0 : Int32)), .val (.int (0 : Int32)), .val (.int (0 : Int32)), .val (.int (0 : Int32)), .unset, .unset] [(.int (0 : Int32)), (.int (0 : Int32))])) _
            refine XS.icmpYes X168.here hx rfl (pc0 := 70) (pc' := 75) rfl (hb hby at_70) rfl (teq (rfl : (0 : Int32) = (0 : Int32))).1 (by decide) (by decide) ?_
            show Steps p.tables e below (T168.setTop (mkF m 75 #[.val (.int p0), .val (.long q1), .second, .val (.long q2), .second, .val (.long q3), .second, .val (.long q4), .second, .val (.ref b1), .val (.long ln), .second, .val (.int (0 : Int32)), .val (.int (0 : Int32)), .val (.int (0 : Int32)), .val (.int (0 : Int32)), .unset, .unset] [])) _
            refine XS.iload X168.here hx rfl (hb hby at_75) rfl ?_
            show Steps p.tables e below (T168.setTop (mkF m 77 #[.val (.int p0), .val (.long q1), .second, .val (.long q2), .second, .val (.long q3), .second, .val (.long q4), .second, .val (.ref b1), .val (.long ln), .second, .val (.int (0 : Int32)), .val (.int (0 : Int32)), .val (.int (0 : Int32)), .val (.int (0 : Int32)), .unset, .unset] [(.int (0 : Int32))])) _
            refine XS.ifNo X168.here hx rfl (hb hby at_77) rfl ((if0 _ _).trans (teq (rfl : (0 : Int32) = (0 : Int32))).2) ?_
            show Steps p.tables e below (T168.setTop (mkF m 80 #[.val (.int p0), .val (.long q1), .second, .val (.long q2), .second, .val (.long q3), .second, .val (.long q4), .second, .val (.ref b1), .val (.long ln), .second, .val (.int (0 : Int32)), .val (.int (0 : Int32)), .val (.int (0 : Int32)), .val (.int (0 : Int32)), .unset, .unset] [])) _
            refine XS.iload X168.here hx rfl (hb hby at_80) rfl ?_
            show Steps p.tables e below (T168.setTop (mkF m 82 #[.val (.int p0), .val (.long q1), .second, .val (.long q2), .second, .val (.long q3), .second, .val (.long q4), .second, .val (.ref b1), .val (.long ln), .second, .val (.int (0 : Int32)), .val (.int (0 : Int32)), .val (.int (0 : Int32)), .val (.int (0 : Int32)), .unset, .unset] [(.int (0 : Int32))])) _
            refine XS.ifNo X168.here hx rfl (hb hby at_82) rfl ((if0 _ _).trans (teq (rfl : (0 : Int32) = (0 : Int32))).2) ?_
            show Steps p.tables e below (T168.setTop (mkF m 85 #[.val (.int p0), .val (.long q1), .second, .val (.long q2), .second, .val (.long q3), .second, .val (.long q4), .second, .val (.ref b1), .val (.long ln), .second, .val (.int (0 : Int32)), .val (.int (0 : Int32)), .val (.int (0 : Int32)), .val (.int (0 : Int32)), .unset, .unset] [])) _
            refine XS.iconst X168.here hx rfl (hb hby at_85) ?_
            exact kt)
        obtain ⟨fs, hr, hrun, hended, hW, hsame⟩ := X168.leave (v := some (.int (1 : Int32))) (fun h => by rw [Bd.returns] at h; cases h)
        refine ⟨_, _, pre169 _ ?_, hrun, hended, _, _, rfl, ?_, ⟨_, rfl⟩, hW, hsame.mono (by decide) (by decide)⟩
        · show Steps p.tables e below (T168.setTop (mkF m 86 #[.val (.int p0), .val (.long q1), .second, .val (.long q2), .second, .val (.long q3), .second, .val (.long q4), .second, .val (.ref b1), .val (.long ln), .second, .val (.int (0 : Int32)), .val (.int (0 : Int32)), .val (.int (0 : Int32)), .val (.int (0 : Int32)), .unset, .unset] [(.int (1 : Int32))])) _
          exact retN X168 hx (t := .boolean) Bd.returns (by simp) (hb hby at_86) hr
        · show Q0 Z _ _ _ _ _ _ _ h0 n0 _ T168.heap _
          rw [e168]
          exact ⟨rfl, N168, trivial⟩
set_option maxRecDepth 65536 in
set_option maxHeartbeats 40000000 in
theorem comes_1 {Post : Tables → Env → Array Value → State → Outcome → State → Prop} (hpost : ∀ tb e args s v u, (limb_1_1.after args s (.returned v) u = true ∧ limb_1_2.after args s (.returned v) u = true ∧ True) → FrameEnd s (.returned v) u (Jvm.fieldLocs frame_1_writes args s ++ Jvm.arrayLocs frame_1_arrays args s ++ Jvm.staticLocs frame_1_statics s) 16 128 → Post tb e args s (.returned v) u) :
    ArmFor flags0 classFile x code maxLocals ret World_1 tables_1 room_1 Calls_1 rest_1 Pre_1 Post := by
  intro l hfl _ _ p e ha hc hk s m args below hf hA hF happ hP
  obtain ⟨hcalls, hrest, hpre⟩ := hP
  obtain ⟨-, -, -, hnamed, -, -, -, hat⟩ := (Spec.applies_iff hf).mp happ
  obtain ⟨hg, hn⟩ := and_e (Cond.before_iff.mp (show (Jvm.Cond.and given_1 narrow_1).before args s = true from hpre))
  obtain ⟨hg0, hgr0⟩ := and_e hg
  obtain ⟨hg1, hgr1⟩ := and_e hgr0
  obtain ⟨hg2, hgr2⟩ := and_e hgr1
  obtain ⟨hg3, hgr3⟩ := and_e hgr2
  obtain ⟨hg4, hgr4⟩ := and_e hgr3
  obtain ⟨w0, w1, w2, w3, w4, rfl⟩ : ∃ w0 w1 w2 w3 w4 : Value, args = #[w0, w1, w2, w3, w4] := by
    have hs : args.size = 5 := by simpa [Cond.value, given_1] using hg0
    obtain ⟨L⟩ := args
    match L, hs with
    | [w0, w1, w2, w3, w4], _ => exact ⟨w0, w1, w2, w3, w4, rfl⟩
  have hw := fun d (hd : d ∈ tables_1) => atoms_spec (ws := Jvm.Cond.code x code maxLocals ret :: tables_1) hat d (List.mem_cons_of_mem _ hd)
  have hfit : Fit s := fun {y c} hc i hi => by
    obtain ⟨ha, rfl⟩ := Array.getElem?_eq_some_iff.mp hc
    have q := List.all_eq_true.mp ((Array.all_eq_true_iff_forall_mem.mp hF) _ (Array.getElem_mem ha)) i (List.mem_range.mpr hi)
    simpa [Array.getElem?_eq_getElem hi] using q
  obtain ⟨hsets, hown0⟩ := atoms_of _ (rest_1_c_eq ▸ (show rest_1_c.before _ s = true from hrest))
  obtain ⟨i0, ei0⟩ := is_v hg1
  obtain rfl : w0 = (.int i0) := Option.some.inj ei0
  obtain ⟨i1, ei1⟩ := isL_v hg2
  obtain rfl : w1 = (.long i1) := Option.some.inj ei1
  obtain ⟨i2, ei2⟩ := isL_v hg3
  obtain rfl : w2 = (.long i2) := Option.some.inj ei2
  obtain ⟨i3, ei3⟩ := isL_v hg4
  obtain rfl : w3 = (.long i3) := Option.some.inj ei3
  obtain ⟨i4, ei4⟩ := isL_v hgr4
  obtain rfl : w4 = (.long i4) := Option.some.inj ei4
  obtain ⟨w_MILLISECONDS_1, ev2⟩ := exa_v (Cond.before_iff.mp (hsets _ (List.mem_of_getElem? (i := 2) rfl)))
  have S_MILLISECONDS_0 : Sta s s.heap "java/util/concurrent/TimeUnit" "MILLISECONDS" "Ljava/util/concurrent/TimeUnit;" (.ref w_MILLISECONDS_1) := Sta.start ev2 (Or.inl (hsets _ (List.mem_of_getElem? (i := 1) rfl)))
  have E_1 : Exa s s.heap w_MILLISECONDS_1 "java/util/concurrent/TimeUnit" := Exa.start ev2 (Cond.before_iff.mp (hsets _ (List.mem_of_getElem? (i := 2) rfl)))
  obtain ⟨w_name_3, ev4⟩ := exa_v (Cond.before_iff.mp (hsets _ (List.mem_of_getElem? (i := 3) rfl)))
  have F_name_2 : Fld s s.heap w_MILLISECONDS_1 "java/lang/Enum" "name" "Ljava/lang/String;" (.ref w_name_3) := Fld.start ((fld_at ev2).symm.trans ev4)
  have E_3 : Exa s s.heap w_name_3 "java/lang/String" := Exa.start ev4 (Cond.before_iff.mp (hsets _ (List.mem_of_getElem? (i := 3) rfl)))
  have F_ordinal_4 : Fld s s.heap w_MILLISECONDS_1 "java/lang/Enum" "ordinal" "I" (.int (2 : Int32)) := Fld.start ((fld_at ev2).symm.trans (own_eqI (Cond.before_iff.mp (hsets _ (List.mem_of_getElem? (i := 4) rfl)))))
  have F_scale_5 : Fld s s.heap w_MILLISECONDS_1 "java/util/concurrent/TimeUnit" "scale" "J" (.long (1000000 : Int64)) := Fld.start ((fld_at ev2).symm.trans (own_eqJ (Cond.before_iff.mp (hsets _ (List.mem_of_getElem? (i := 5) rfl)))))
  have F_maxNanos_6 : Fld s s.heap w_MILLISECONDS_1 "java/util/concurrent/TimeUnit" "maxNanos" "J" (.long (9223372036854 : Int64)) := Fld.start ((fld_at ev2).symm.trans (own_eqJ (Cond.before_iff.mp (hsets _ (List.mem_of_getElem? (i := 6) rfl)))))
  have F_microRatio_7 : Fld s s.heap w_MILLISECONDS_1 "java/util/concurrent/TimeUnit" "microRatio" "J" (.long (1000 : Int64)) := Fld.start ((fld_at ev2).symm.trans (own_eqJ (Cond.before_iff.mp (hsets _ (List.mem_of_getElem? (i := 7) rfl)))))
  have F_maxMicros_8 : Fld s s.heap w_MILLISECONDS_1 "java/util/concurrent/TimeUnit" "maxMicros" "J" (.long (9223372036854775 : Int64)) := Fld.start ((fld_at ev2).symm.trans (own_eqJ (Cond.before_iff.mp (hsets _ (List.mem_of_getElem? (i := 8) rfl)))))
  have F_milliRatio_9 : Fld s s.heap w_MILLISECONDS_1 "java/util/concurrent/TimeUnit" "milliRatio" "I" (.int (1 : Int32)) := Fld.start ((fld_at ev2).symm.trans (own_eqI (Cond.before_iff.mp (hsets _ (List.mem_of_getElem? (i := 9) rfl)))))
  have F_maxMillis_10 : Fld s s.heap w_MILLISECONDS_1 "java/util/concurrent/TimeUnit" "maxMillis" "J" (.long (9223372036854775807 : Int64)) := Fld.start ((fld_at ev2).symm.trans (own_eqJ (Cond.before_iff.mp (hsets _ (List.mem_of_getElem? (i := 10) rfl)))))
  have F_secRatio_11 : Fld s s.heap w_MILLISECONDS_1 "java/util/concurrent/TimeUnit" "secRatio" "I" (.int (1000 : Int32)) := Fld.start ((fld_at ev2).symm.trans (own_eqI (Cond.before_iff.mp (hsets _ (List.mem_of_getElem? (i := 11) rfl)))))
  have F_maxSecs_12 : Fld s s.heap w_MILLISECONDS_1 "java/util/concurrent/TimeUnit" "maxSecs" "J" (.long (9223372036854775 : Int64)) := Fld.start ((fld_at ev2).symm.trans (own_eqJ (Cond.before_iff.mp (hsets _ (List.mem_of_getElem? (i := 12) rfl)))))
  obtain ⟨n, o, h1, h2, h3, _, L, rfl, ⟨rfl, N, -⟩, hq⟩ := rm0 l s _ hw tables_1 i0 i1 i2 i3 i4 w_MILLISECONDS_1 w_name_3 s.heap s.heap.size (Nat.le_refl _) S_MILLISECONDS_0 E_1 F_name_2 E_3 F_ordinal_4 F_scale_5 F_maxNanos_6 F_microRatio_7 F_maxMicros_8 F_milliRatio_9 F_maxMillis_10 F_secRatio_11 F_maxSecs_12 p e ha hc hk s m _ below hf ((Spec.applies_iff_loose hf).mp happ).1 ⟨rfl, State.Warmed39.refl s, rfl⟩ trivial
  refine ⟨n, _, h1, h2, h3, hpost _ _ _ _ _ _ ⟨Cond.after_iff.mpr rfl, Cond.after_iff.mpr (eq_i res_at (Term.int_eval (1)) rfl), trivial⟩ ⟨hq.1, hq.2.1, (hq.2.2.sift fun y hy => Or.inr (N y hy)).mono (by decide) (by decide)⟩⟩
theorem main_1_1 : Claimed_1_1 := comes_1 fun _ _ _ _ _ _ h hF => ⟨h.1, hF⟩
theorem main_1_2 : Claimed_1_2 := comes_1 fun _ _ _ _ _ _ h hF => ⟨h.2.1, hF⟩
end Jvm.Pilot.@@N@@
namespace Jvm.Pilot.@@N@@
open Jvm Jvm.ClassFile Sem Op Lib Jvm.Free Jvm.Stand Jvm.Pilot.@@N@@.Jvm.D
/-! MADE BY PROGRAM (witnessworld.py) out of the Statement's table words and the real class files: 17 classes; the members and pool entries that the words name. The judged class is class 1, her method 1. -/
namespace start1
open Jvm.ClassFile
def u (s : String) : CpInfo := .utf8 (stringToUtf16 s)
/-- a pool by its gaps: so many unusable entries, then the entry; so many at the end -/
def gap : Nat → List CpInfo → List CpInfo
  | 0, r => r
  | n + 1, r => .unusable :: gap n r
def poolList (es : List (Nat × CpInfo)) (last : Nat) : List CpInfo := es.foldr (fun e r => gap e.1 (e.2 :: r)) (gap last [])
def pool (es : List (Nat × CpInfo)) (last : Nat) : Array CpInfo := ⟨poolList es last⟩
def fileOf (pool : Array CpInfo) (this : Nat) (attrs : Array Attribute := #[]) (ms : Array MethodInfo := #[]) (fl : Nat := 33) (sup : Nat := 0) (ifs : Array Nat := #[]) (fds : Array FieldInfo := #[]) : ClassFile where
  minorVersion := 0
  majorVersion := 65
  constantPool := pool
  accessFlags := fl
  thisClass := this
  superClass := sup
  interfaces := ifs
  fields := fds
  methods := ms
  attributes := attrs
def plain (name : String) (sup : Option ClassId) : Class where
  name := name
  kind := .ordinary
  loader := none
  accessFlags := 33
  super := sup
  interfaces := #[]
  cf := none
  fields := #[]
  methods := #[]
  instanceTypes := #[]
  staticTypes := #[]
  resolved := #[]
  callSites := []
  init := .initialized
  statics := none
  mirror := none

def pool0 : Array CpInfo := pool [(5, u "<init>"), (0, u "()V"), (1, .class_ 10), (1, u "java/lang/Object")] 113

def k0c0 : Code := { maxStack := 0, maxLocals := 1, code := object_method_1_code, exceptionTable := #[], attributes := #[] }
def k0m0 : Method := { name := "<init>", desc := "()V", sig := { parameters := [], returnType := none }, accessFlags := 1, code := some k0c0 }
/-- java/lang/Object -/
def k0 : Class := { plain "java/lang/Object" none with
  accessFlags := 33
  interfaces := #[]
  cf := some (fileOf pool0 8 #[] #[{ accessFlags := 1, nameIndex := 5, descriptorIndex := 6, attributes := #[] }] 33 0 #[] #[])
  fields := #[]
  methods := #[k0m0]
  instanceTypes := #[]
  staticTypes := #[]
  resolved := Array.replicate 124 none
  statics := none }

def pool1 : Array CpInfo := pool [(2, .class_ 4), (1, u "java/lang/Object"), (0, u "<init>"), (0, u "()V"), (0, .class_ 8), (0, u "com/example/cluster_log/clusterlog/Lease"), (0, .methodref 7 10), (0, .nameAndType 5 11), (0, u "(IJ)V"), (0, .methodref 7 13), (0, .nameAndType 14 15), (0, u "length"), (0, u "()J"), (0, .methodref 7 17), (0, .nameAndType 18 19), (0, u "renew"), (0, u "(J)Z"), (0, .methodref 7 21), (0, .nameAndType 22 19), (0, u "answeredSince"), (0, .methodref 7 24), (0, .nameAndType 25 26), (0, u "left"), (0, u "(J)J"), (0, .class_ 28), (0, u "com/example/cluster_log/clusterlog/LeaseAnsweredSincePinLaw"), (2, u "law"), (0, u "(IJJJJ)Z")] 3

def k1m0 : Method := { name := "<init>", desc := "()V", sig := { parameters := [], returnType := none }, accessFlags := 1, code := none }
def k1c1 : Code := { maxStack := 5, maxLocals := 18, code := code, exceptionTable := #[], attributes := #[] }
def k1m1 : Method := { name := "law", desc := "(IJJJJ)Z", sig := { parameters := [.int, .long, .long, .long, .long], returnType := some .boolean }, accessFlags := 9, code := some k1c1 }
/-- com/example/cluster_log/clusterlog/LeaseAnsweredSincePinLaw -/
def k1 : Class := { plain "com/example/cluster_log/clusterlog/LeaseAnsweredSincePinLaw" (some 0) with
  accessFlags := 49
  interfaces := #[]
  cf := some (fileOf pool1 27 #[] #[{ accessFlags := 1, nameIndex := 5, descriptorIndex := 6, attributes := #[] }, { accessFlags := 9, nameIndex := 31, descriptorIndex := 32, attributes := #[] }] 49 2 #[] #[])
  fields := #[]
  methods := #[k1m0, k1m1]
  instanceTypes := #[]
  staticTypes := #[]
  resolved := Array.replicate 36 none
  statics := none }

def pool2 : Array CpInfo := pool [(1, .methodref 2 3), (0, .class_ 4), (0, .nameAndType 5 6), (0, u "java/lang/Object"), (0, u "<init>"), (0, u "()V"), (0, .fieldref 8 9), (0, .class_ 10), (0, .nameAndType 11 12), (0, u "java/util/concurrent/TimeUnit"), (0, u "MILLISECONDS"), (0, u "Ljava/util/concurrent/TimeUnit;"), (0, .methodref 8 14), (0, .nameAndType 15 16), (0, u "toNanos"), (0, u "(J)J"), (0, .class_ 18), (0, u "com/example/cluster_log/clusterlog/Lease"), (0, .long 9), (1, .long 10), (1, .fieldref 17 24), (0, .nameAndType 25 26), (0, u "length"), (0, u "J"), (0, .methodref 28 29), (0, .class_ 30), (0, .nameAndType 31 32), (0, u "java/lang/Math"), (0, u "max"), (0, u "(II)I"), (0, .fieldref 17 34), (0, .nameAndType 35 26), (0, u "heartbeatMs"), (0, .fieldref 17 37), (0, .nameAndType 38 26), (0, u "end"), (0, u "LEASE_TENTHS"), (0, u "I"), (2, u "HEARTBEATS_PER_TIMEOUT"), (1, u "(IJ)V"), (2, u "()J"), (0, u "renew"), (0, u "(J)Z"), (1, u "left"), (0, u "answeredSince")] 2

def k2c0 : Code := { maxStack := 5, maxLocals := 4, code := prog_8_method_1_code, exceptionTable := #[], attributes := #[] }
def k2m0 : Method := { name := "<init>", desc := "(IJ)V", sig := { parameters := [.int, .long], returnType := none }, accessFlags := 0, code := some k2c0 }
def k2c1 : Code := { maxStack := 2, maxLocals := 1, code := prog_8_method_2_code, exceptionTable := #[], attributes := #[] }
def k2m1 : Method := { name := "length", desc := "()J", sig := { parameters := [], returnType := some .long }, accessFlags := 0, code := some k2c1 }
def k2c2 : Code := { maxStack := 4, maxLocals := 5, code := prog_8_method_4_code, exceptionTable := #[], attributes := #[] }
def k2m2 : Method := { name := "renew", desc := "(J)Z", sig := { parameters := [.long], returnType := some .boolean }, accessFlags := 0, code := some k2c2 }
def k2c3 : Code := { maxStack := 4, maxLocals := 3, code := prog_8_method_5_code, exceptionTable := #[], attributes := #[] }
def k2m3 : Method := { name := "left", desc := "(J)J", sig := { parameters := [.long], returnType := some .long }, accessFlags := 0, code := some k2c3 }
def k2c4 : Code := { maxStack := 4, maxLocals := 3, code := prog_8_method_6_code, exceptionTable := #[], attributes := #[] }
def k2m4 : Method := { name := "answeredSince", desc := "(J)Z", sig := { parameters := [.long], returnType := some .boolean }, accessFlags := 0, code := some k2c4 }
/-- com/example/cluster_log/clusterlog/Lease -/
def k2 : Class := { plain "com/example/cluster_log/clusterlog/Lease" (some 0) with
  accessFlags := 48
  interfaces := #[]
  cf := some (fileOf pool2 17 #[] #[{ accessFlags := 0, nameIndex := 5, descriptorIndex := 45, attributes := #[] }, { accessFlags := 0, nameIndex := 25, descriptorIndex := 48, attributes := #[] }, { accessFlags := 0, nameIndex := 49, descriptorIndex := 50, attributes := #[] }, { accessFlags := 0, nameIndex := 52, descriptorIndex := 16, attributes := #[] }, { accessFlags := 0, nameIndex := 53, descriptorIndex := 50, attributes := #[] }] 48 2 #[] #[{ accessFlags := 26, nameIndex := 39, descriptorIndex := 40, attributes := #[] }, { accessFlags := 26, nameIndex := 43, descriptorIndex := 40, attributes := #[] }, { accessFlags := 18, nameIndex := 25, descriptorIndex := 26, attributes := #[] }, { accessFlags := 18, nameIndex := 35, descriptorIndex := 26, attributes := #[] }, { accessFlags := 2, nameIndex := 38, descriptorIndex := 26, attributes := #[] }])
  fields := #[{ name := "LEASE_TENTHS", type := .int, accessFlags := 26, slot := 0, constantValue := 0 }, { name := "HEARTBEATS_PER_TIMEOUT", type := .int, accessFlags := 26, slot := 1, constantValue := 0 }, { name := "length", type := .long, accessFlags := 18, slot := 0, constantValue := 0 }, { name := "heartbeatMs", type := .long, accessFlags := 18, slot := 1, constantValue := 0 }, { name := "end", type := .long, accessFlags := 2, slot := 2, constantValue := 0 }]
  methods := #[k2m0, k2m1, k2m2, k2m3, k2m4]
  instanceTypes := #[.long, .long, .long]
  staticTypes := #[.int, .int]
  resolved := Array.replicate 56 none
  statics := none }

def pool3 : Array CpInfo := pool [(1, .class_ 2), (0, u "java/lang/constant/Constable"), (0, .class_ 4), (0, u "java/lang/Object")] 6

/-- java/lang/constant/Constable -/
def k3 : Class := { plain "java/lang/constant/Constable" (some 0) with
  accessFlags := 1537
  interfaces := #[]
  cf := some (fileOf pool3 1 #[] #[] 1537 3 #[] #[])
  fields := #[]
  methods := #[]
  instanceTypes := #[]
  staticTypes := #[]
  resolved := Array.replicate 11 none
  statics := none }

def pool4 : Array CpInfo := pool [(1, .class_ 2), (0, u "java/lang/Comparable"), (0, .class_ 4), (0, u "java/lang/Object")] 7

/-- java/lang/Comparable -/
def k4 : Class := { plain "java/lang/Comparable" (some 0) with
  accessFlags := 1537
  interfaces := #[]
  cf := some (fileOf pool4 1 #[] #[] 1537 3 #[] #[])
  fields := #[]
  methods := #[]
  instanceTypes := #[]
  staticTypes := #[]
  resolved := Array.replicate 12 none
  statics := none }

def pool5 : Array CpInfo := pool [(1, .class_ 2), (0, u "java/io/Serializable"), (0, .class_ 4), (0, u "java/lang/Object")] 2

/-- java/io/Serializable -/
def k5 : Class := { plain "java/io/Serializable" (some 0) with
  accessFlags := 1537
  interfaces := #[]
  cf := some (fileOf pool5 1 #[] #[] 1537 3 #[] #[])
  fields := #[]
  methods := #[]
  instanceTypes := #[]
  staticTypes := #[]
  resolved := Array.replicate 7 none
  statics := none }

def pool6 : Array CpInfo := pool [(2, .class_ 4), (1, u "java/lang/Enum"), (0, u "name"), (0, u "Ljava/lang/String;"), (2, u "ordinal"), (0, u "I"), (1, .class_ 14), (1, u "java/lang/Object"), (4, u "hash"), (86, .class_ 108), (1, u "java/lang/Enum$EnumDesc"), (2, .class_ 112), (0, u "java/lang/constant/Constable"), (0, .class_ 114), (0, u "java/lang/Comparable"), (0, .class_ 116), (0, u "java/io/Serializable")] 87

/-- java/lang/Enum -/
def k6 : Class := { plain "java/lang/Enum" (some 0) with
  accessFlags := 1057
  interfaces := #[3, 4, 5]
  cf := some (fileOf pool6 2 #[.nestMembers #[106]] #[] 1057 12 #[111, 113, 115] #[{ accessFlags := 18, nameIndex := 5, descriptorIndex := 6, attributes := #[] }, { accessFlags := 18, nameIndex := 9, descriptorIndex := 10, attributes := #[] }, { accessFlags := 2, nameIndex := 19, descriptorIndex := 10, attributes := #[] }])
  fields := #[{ name := "name", type := (.object "java/lang/String"), accessFlags := 18, slot := 0, constantValue := 0 }, { name := "ordinal", type := .int, accessFlags := 18, slot := 1, constantValue := 0 }, { name := "hash", type := .int, accessFlags := 2, slot := 2, constantValue := 0 }]
  methods := #[]
  instanceTypes := #[(.object "java/lang/String"), .int, .int]
  staticTypes := #[]
  resolved := Array.replicate 204 none
  statics := none }

def pool7 : Array CpInfo := pool [(1, .class_ 2), (0, u "java/util/concurrent/TimeUnit"), (2, u "NANOSECONDS"), (0, u "Ljava/util/concurrent/TimeUnit;"), (2, u "MICROSECONDS"), (2, u "MILLISECONDS"), (2, u "SECONDS"), (2, u "MINUTES"), (2, u "HOURS"), (2, u "DAYS"), (2, u "$VALUES"), (0, u "[Ljava/util/concurrent/TimeUnit;"), (6, .class_ 37), (1, u "java/lang/Enum"), (6, .fieldref 1 45), (0, .nameAndType 46 47), (0, u "scale"), (0, u "J"), (4, .fieldref 1 53), (0, .nameAndType 54 47), (0, u "maxNanos"), (4, u "microRatio"), (2, u "maxMicros"), (4, u "milliRatio"), (0, u "I"), (2, u "maxMillis"), (4, u "secRatio"), (2, u "maxSecs"), (8, u "toNanos"), (0, u "(J)J"), (73, .class_ 165), (1, u "java/util/concurrent/TimeUnit$1"), (46, u "NANO_SCALE"), (3, u "MICRO_SCALE"), (0, u "MILLI_SCALE"), (0, u "SECOND_SCALE"), (0, u "MINUTE_SCALE"), (0, u "HOUR_SCALE"), (0, u "DAY_SCALE")] 61

def k7c0 : Code := { maxStack := 6, maxLocals := 7, code := jdk_2799_method_7_code, exceptionTable := #[], attributes := #[] }
def k7m0 : Method := { name := "toNanos", desc := "(J)J", sig := { parameters := [.long], returnType := some .long }, accessFlags := 1, code := some k7c0 }
/-- java/util/concurrent/TimeUnit -/
def k7 : Class := { plain "java/util/concurrent/TimeUnit" (some 6) with
  accessFlags := 16433
  interfaces := #[]
  cf := some (fileOf pool7 1 #[.nestMembers #[163]] #[{ accessFlags := 1, nameIndex := 88, descriptorIndex := 89, attributes := #[] }] 16433 35 #[] #[{ accessFlags := 16409, nameIndex := 5, descriptorIndex := 6, attributes := #[] }, { accessFlags := 16409, nameIndex := 9, descriptorIndex := 6, attributes := #[] }, { accessFlags := 16409, nameIndex := 12, descriptorIndex := 6, attributes := #[] }, { accessFlags := 16409, nameIndex := 15, descriptorIndex := 6, attributes := #[] }, { accessFlags := 16409, nameIndex := 18, descriptorIndex := 6, attributes := #[] }, { accessFlags := 16409, nameIndex := 21, descriptorIndex := 6, attributes := #[] }, { accessFlags := 16409, nameIndex := 24, descriptorIndex := 6, attributes := #[] }, { accessFlags := 26, nameIndex := 212, descriptorIndex := 47, attributes := #[] }, { accessFlags := 26, nameIndex := 216, descriptorIndex := 47, attributes := #[] }, { accessFlags := 26, nameIndex := 217, descriptorIndex := 47, attributes := #[] }, { accessFlags := 26, nameIndex := 218, descriptorIndex := 47, attributes := #[] }, { accessFlags := 26, nameIndex := 219, descriptorIndex := 47, attributes := #[] }, { accessFlags := 26, nameIndex := 220, descriptorIndex := 47, attributes := #[] }, { accessFlags := 26, nameIndex := 221, descriptorIndex := 47, attributes := #[] }, { accessFlags := 18, nameIndex := 46, descriptorIndex := 47, attributes := #[] }, { accessFlags := 18, nameIndex := 54, descriptorIndex := 47, attributes := #[] }, { accessFlags := 18, nameIndex := 62, descriptorIndex := 47, attributes := #[] }, { accessFlags := 18, nameIndex := 71, descriptorIndex := 47, attributes := #[] }, { accessFlags := 18, nameIndex := 79, descriptorIndex := 47, attributes := #[] }, { accessFlags := 18, nameIndex := 59, descriptorIndex := 47, attributes := #[] }, { accessFlags := 18, nameIndex := 67, descriptorIndex := 68, attributes := #[] }, { accessFlags := 18, nameIndex := 76, descriptorIndex := 68, attributes := #[] }, { accessFlags := 4122, nameIndex := 27, descriptorIndex := 28, attributes := #[] }])
  fields := #[{ name := "NANOSECONDS", type := (.object "java/util/concurrent/TimeUnit"), accessFlags := 16409, slot := 0, constantValue := 0 }, { name := "MICROSECONDS", type := (.object "java/util/concurrent/TimeUnit"), accessFlags := 16409, slot := 1, constantValue := 0 }, { name := "MILLISECONDS", type := (.object "java/util/concurrent/TimeUnit"), accessFlags := 16409, slot := 2, constantValue := 0 }, { name := "SECONDS", type := (.object "java/util/concurrent/TimeUnit"), accessFlags := 16409, slot := 3, constantValue := 0 }, { name := "MINUTES", type := (.object "java/util/concurrent/TimeUnit"), accessFlags := 16409, slot := 4, constantValue := 0 }, { name := "HOURS", type := (.object "java/util/concurrent/TimeUnit"), accessFlags := 16409, slot := 5, constantValue := 0 }, { name := "DAYS", type := (.object "java/util/concurrent/TimeUnit"), accessFlags := 16409, slot := 6, constantValue := 0 }, { name := "NANO_SCALE", type := .long, accessFlags := 26, slot := 7, constantValue := 0 }, { name := "MICRO_SCALE", type := .long, accessFlags := 26, slot := 8, constantValue := 0 }, { name := "MILLI_SCALE", type := .long, accessFlags := 26, slot := 9, constantValue := 0 }, { name := "SECOND_SCALE", type := .long, accessFlags := 26, slot := 10, constantValue := 0 }, { name := "MINUTE_SCALE", type := .long, accessFlags := 26, slot := 11, constantValue := 0 }, { name := "HOUR_SCALE", type := .long, accessFlags := 26, slot := 12, constantValue := 0 }, { name := "DAY_SCALE", type := .long, accessFlags := 26, slot := 13, constantValue := 0 }, { name := "scale", type := .long, accessFlags := 18, slot := 3, constantValue := 0 }, { name := "maxNanos", type := .long, accessFlags := 18, slot := 4, constantValue := 0 }, { name := "maxMicros", type := .long, accessFlags := 18, slot := 5, constantValue := 0 }, { name := "maxMillis", type := .long, accessFlags := 18, slot := 6, constantValue := 0 }, { name := "maxSecs", type := .long, accessFlags := 18, slot := 7, constantValue := 0 }, { name := "microRatio", type := .long, accessFlags := 18, slot := 8, constantValue := 0 }, { name := "milliRatio", type := .int, accessFlags := 18, slot := 9, constantValue := 0 }, { name := "secRatio", type := .int, accessFlags := 18, slot := 10, constantValue := 0 }, { name := "$VALUES", type := (.array (.object "java/util/concurrent/TimeUnit")), accessFlags := 4122, slot := 14, constantValue := 0 }]
  methods := #[k7m0]
  instanceTypes := #[(.object "java/lang/String"), .int, .int, .long, .long, .long, .long, .long, .long, .int, .int]
  staticTypes := #[(.object "java/util/concurrent/TimeUnit"), (.object "java/util/concurrent/TimeUnit"), (.object "java/util/concurrent/TimeUnit"), (.object "java/util/concurrent/TimeUnit"), (.object "java/util/concurrent/TimeUnit"), (.object "java/util/concurrent/TimeUnit"), (.object "java/util/concurrent/TimeUnit"), .long, .long, .long, .long, .long, .long, .long, (.array (.object "java/util/concurrent/TimeUnit"))]
  resolved := Array.replicate 283 none
  statics := some 0 }

def pool8 : Array CpInfo := pool [(1, .class_ 2), (0, u "java/lang/Math"), (1, .class_ 6), (1, u "java/lang/Object"), (0, u "<init>"), (0, u "()V"), (89, .class_ 100), (1, u "java/lang/Math$RandomNumberGeneratorHolder"), (71, u "negativeZeroFloatBits"), (0, u "J"), (2, u "negativeZeroDoubleBits"), (21, u "max"), (46, u "$assertionsDisabled"), (0, u "Z"), (88, u "(II)I"), (2, u "twoToTheDoubleScaleDown"), (0, u "D"), (4, u "twoToTheDoubleScaleUp"), (9, u "E"), (3, u "PI"), (2, u "TAU"), (2, u "DEGREES_TO_RADIANS"), (0, u "RADIANS_TO_DEGREES")] 94

def k8m0 : Method := { name := "<init>", desc := "()V", sig := { parameters := [], returnType := none }, accessFlags := 2, code := none }
def k8c1 : Code := { maxStack := 2, maxLocals := 2, code := jdk_29_method_65_code, exceptionTable := #[], attributes := #[] }
def k8m1 : Method := { name := "max", desc := "(II)I", sig := { parameters := [.int, .int], returnType := some .int }, accessFlags := 9, code := some k8c1 }
/-- java/lang/Math -/
def k8 : Class := { plain "java/lang/Math" (some 0) with
  accessFlags := 49
  interfaces := #[]
  cf := some (fileOf pool8 1 #[.nestMembers #[98]] #[{ accessFlags := 2, nameIndex := 7, descriptorIndex := 8, attributes := #[] }, { accessFlags := 9, nameIndex := 198, descriptorIndex := 335, attributes := #[] }] 49 4 #[] #[{ accessFlags := 25, nameIndex := 354, descriptorIndex := 339, attributes := #[] }, { accessFlags := 25, nameIndex := 358, descriptorIndex := 339, attributes := #[] }, { accessFlags := 25, nameIndex := 361, descriptorIndex := 339, attributes := #[] }, { accessFlags := 26, nameIndex := 364, descriptorIndex := 339, attributes := #[] }, { accessFlags := 26, nameIndex := 365, descriptorIndex := 339, attributes := #[] }, { accessFlags := 26, nameIndex := 172, descriptorIndex := 173, attributes := #[] }, { accessFlags := 26, nameIndex := 176, descriptorIndex := 173, attributes := #[] }, { accessFlags := 8, nameIndex := 344, descriptorIndex := 339, attributes := #[] }, { accessFlags := 8, nameIndex := 338, descriptorIndex := 339, attributes := #[] }, { accessFlags := 4120, nameIndex := 245, descriptorIndex := 246, attributes := #[] }])
  fields := #[{ name := "E", type := .double, accessFlags := 25, slot := 0, constantValue := 0 }, { name := "PI", type := .double, accessFlags := 25, slot := 1, constantValue := 0 }, { name := "TAU", type := .double, accessFlags := 25, slot := 2, constantValue := 0 }, { name := "DEGREES_TO_RADIANS", type := .double, accessFlags := 26, slot := 3, constantValue := 0 }, { name := "RADIANS_TO_DEGREES", type := .double, accessFlags := 26, slot := 4, constantValue := 0 }, { name := "negativeZeroFloatBits", type := .long, accessFlags := 26, slot := 5, constantValue := 0 }, { name := "negativeZeroDoubleBits", type := .long, accessFlags := 26, slot := 6, constantValue := 0 }, { name := "twoToTheDoubleScaleUp", type := .double, accessFlags := 8, slot := 7, constantValue := 0 }, { name := "twoToTheDoubleScaleDown", type := .double, accessFlags := 8, slot := 8, constantValue := 0 }, { name := "$assertionsDisabled", type := .boolean, accessFlags := 4120, slot := 9, constantValue := 0 }]
  methods := #[k8m0, k8m1]
  instanceTypes := #[]
  staticTypes := #[.double, .double, .double, .double, .double, .long, .long, .double, .double, .boolean]
  resolved := Array.replicate 460 none
  statics := none }

def pool9 : Array CpInfo := pool [(2, .class_ 4), (1, u "java/lang/CharSequence"), (42, .class_ 48), (0, u "java/lang/CharSequence$1CodePointIterator"), (10, .class_ 60), (0, u "java/lang/CharSequence$1CharIterator"), (5, .class_ 67), (0, u "java/lang/Object")] 63

/-- java/lang/CharSequence -/
def k9 : Class := { plain "java/lang/CharSequence" (some 0) with
  accessFlags := 1537
  interfaces := #[]
  cf := some (fileOf pool9 2 #[.nestMembers #[47, 59]] #[] 1537 66 #[] #[])
  fields := #[]
  methods := #[]
  instanceTypes := #[]
  staticTypes := #[]
  resolved := Array.replicate 131 none
  statics := none }

def pool10 : Array CpInfo := pool [(1, .class_ 2), (0, u "java/lang/constant/ConstantDesc"), (0, .class_ 4), (0, u "java/lang/Object")] 32

/-- java/lang/constant/ConstantDesc -/
def k10 : Class := { plain "java/lang/constant/ConstantDesc" (some 0) with
  accessFlags := 1537
  interfaces := #[]
  cf := some (fileOf pool10 1 #[] #[] 1537 3 #[] #[])
  fields := #[]
  methods := #[]
  instanceTypes := #[]
  staticTypes := #[]
  resolved := Array.replicate 37 none
  statics := none }

def pool11 : Array CpInfo := pool [(2, .class_ 4), (1, u "java/lang/Object"), (0, u "<init>"), (0, u "()V"), (3, .class_ 12), (1, u "java/lang/String"), (0, u "value"), (0, u "[B"), (2, u "coder"), (0, u "B"), (2, u "hash"), (0, u "I"), (2, u "hashIsZero"), (0, u "Z"), (13, u "COMPACT_STRINGS"), (534, .class_ 576), (0, u "java/lang/CharSequence"), (22, u "CASE_INSENSITIVE_ORDER"), (0, u "Ljava/util/Comparator;"), (500, u "serialPersistentFields"), (0, u "[Ljava/io/ObjectStreamField;"), (0, .class_ 1104), (0, u "java/lang/String$CaseInsensitiveComparator"), (1, .class_ 1107), (0, u "java/io/Serializable"), (0, .class_ 1109), (0, u "java/lang/Comparable"), (0, .class_ 1111), (0, u "java/lang/constant/Constable"), (0, .class_ 1113), (0, u "java/lang/constant/ConstantDesc"), (2, u "serialVersionUID"), (0, u "J"), (3, u "REPL"), (0, u "C"), (2, u "LATIN1"), (1, u "UTF16")] 323

def k11m0 : Method := { name := "<init>", desc := "()V", sig := { parameters := [], returnType := none }, accessFlags := 1, code := none }
/-- java/lang/String -/
def k11 : Class := { plain "java/lang/String" (some 0) with
  accessFlags := 49
  interfaces := #[5, 4, 9, 3, 10]
  cf := some (fileOf pool11 10 #[.nestMembers #[1103]] #[{ accessFlags := 1, nameIndex := 5, descriptorIndex := 6, attributes := #[] }] 49 2 #[1106, 1108, 575, 1110, 1112] #[{ accessFlags := 18, nameIndex := 13, descriptorIndex := 14, attributes := #[] }, { accessFlags := 18, nameIndex := 17, descriptorIndex := 18, attributes := #[] }, { accessFlags := 2, nameIndex := 21, descriptorIndex := 22, attributes := #[] }, { accessFlags := 2, nameIndex := 25, descriptorIndex := 26, attributes := #[] }, { accessFlags := 26, nameIndex := 1116, descriptorIndex := 1117, attributes := #[] }, { accessFlags := 24, nameIndex := 40, descriptorIndex := 26, attributes := #[] }, { accessFlags := 26, nameIndex := 1101, descriptorIndex := 1102, attributes := #[] }, { accessFlags := 26, nameIndex := 1121, descriptorIndex := 1122, attributes := #[] }, { accessFlags := 25, nameIndex := 599, descriptorIndex := 600, attributes := #[] }, { accessFlags := 24, nameIndex := 1125, descriptorIndex := 18, attributes := #[] }, { accessFlags := 24, nameIndex := 1127, descriptorIndex := 18, attributes := #[] }])
  fields := #[{ name := "value", type := (.array .byte), accessFlags := 18, slot := 0, constantValue := 0 }, { name := "coder", type := .byte, accessFlags := 18, slot := 1, constantValue := 0 }, { name := "hash", type := .int, accessFlags := 2, slot := 2, constantValue := 0 }, { name := "hashIsZero", type := .boolean, accessFlags := 2, slot := 3, constantValue := 0 }, { name := "serialVersionUID", type := .long, accessFlags := 26, slot := 0, constantValue := 0 }, { name := "COMPACT_STRINGS", type := .boolean, accessFlags := 24, slot := 1, constantValue := 0 }, { name := "serialPersistentFields", type := (.array (.object "java/io/ObjectStreamField")), accessFlags := 26, slot := 2, constantValue := 0 }, { name := "REPL", type := .char, accessFlags := 26, slot := 3, constantValue := 0 }, { name := "CASE_INSENSITIVE_ORDER", type := (.object "java/util/Comparator"), accessFlags := 25, slot := 4, constantValue := 0 }, { name := "LATIN1", type := .byte, accessFlags := 24, slot := 5, constantValue := 0 }, { name := "UTF16", type := .byte, accessFlags := 24, slot := 6, constantValue := 0 }]
  methods := #[k11m0]
  instanceTypes := #[(.array .byte), .byte, .int, .boolean]
  staticTypes := #[.long, .boolean, (.array (.object "java/io/ObjectStreamField")), .char, (.object "java/util/Comparator"), .byte, .byte]
  resolved := Array.replicate 1451 none
  statics := none }

def pool12 : Array CpInfo := pool [(1, u "java/lang/Cloneable"), (0, .class_ 1), (0, u "java/lang/Object"), (0, .class_ 3)] 3

/-- java/lang/Cloneable -/
def k12 : Class := { plain "java/lang/Cloneable" (some 0) with
  accessFlags := 1537
  interfaces := #[]
  cf := some (fileOf pool12 2 #[] #[] 1537 4 #[] #[])
  fields := #[]
  methods := #[]
  instanceTypes := #[]
  staticTypes := #[]
  resolved := Array.replicate 8 none
  statics := none }

/-- the primitive byte -/
def k13 : Class := { plain "byte" none with kind := .primitive 'B', accessFlags := 0x411 }
/-- [B -/
def k14 : Class := { plain "[B" (some 0) with kind := .array 13 .byte, interfaces := #[12, 5], accessFlags := 1041 }

/-- the primitive int -/
def k15 : Class := { plain "int" none with kind := .primitive 'I', accessFlags := 0x411 }
/-- [I -/
def k16 : Class := { plain "[I" (some 0) with kind := .array 15 .int, interfaces := #[12, 5], accessFlags := 1041 }

def heap : Heap := #[{ cls := 7, slots := #[.null, .null, .ref 2, .null, .null, .null, .null, .long 0, .long 0, .long 0, .long 0, .long 0, .long 0, .long 0, .null], vm := .statics 7 },
  { cls := 11, slots := #[.null, .int 0, .int 0, .int 0], vm := .none },
  { cls := 7, slots := #[.ref 1, .int 2, .int 0, .long 1000000, .long 9223372036854, .long 9223372036854775, .long 9223372036854775807, .long 9223372036854775, .long 1000, .int 1, .int 1000], vm := .none }]
def classes : Array Class := #[k0, k1, k2, k3, k4, k5, k6, k7, k8, k9, k10, k11, k12, k13, k14, k15, k16]
def interned : List (Array UInt16 × Addr) := []
def slotsUsed : Nat := 30
def theMethod : MethodId := ⟨1, 1⟩
def args0 : Array Value := #[.int 3, .long 4, .long 5, .long 6, .long 7]
def aboutOver (below : List Frame) : State where
  vm := { classes := classes, interned := interned.toArray }
  heap := heap
  slotsUsed := slotsUsed
  threads := #[{ frames := .invoking theMethod args0 :: below }]
def below0 : List Frame := [.native { method := ⟨0, 0⟩, args := #[] }]
def about1 : State := aboutOver below0
def p0 : Program := .bare "" "" ""
def e0 : Env := launch0.env 0 0 0
theorem w_frames : about1.frames = Frame.invoking theMethod args0 :: below0 := rfl
set_option maxRecDepth 65536 in
theorem w_args : argsFit about1.vm theMethod args0 = true := by decide +kernel
set_option maxRecDepth 65536 in
theorem w_heap : heapFits about1 = true := by decide +kernel
set_option maxRecDepth 65536 in
theorem w_runnable : about1.curStatus? = some .runnable := by decide +kernel
set_option maxRecDepth 65536 in
theorem w_alone : about1.alone = true := by decide +kernel
set_option maxRecDepth 65536 in
theorem w_named : about1.methodNamed? x = some theMethod := by decide +kernel
set_option maxRecDepth 65536 in
theorem w_hears : about1.hears theMethod below0 = true := by decide +kernel
set_option maxRecDepth 65536 in
theorem w_ripe : about1.ripe theMethod args0 below0 = true := by decide +kernel
theorem w_running : about1.status = .running := rfl
set_option maxRecDepth 65536 in
theorem w_room : about1.hasRoom e0.platform room_1 = true :=
  launch0.hasRoom_least _ room_1 (by decide +kernel) (by decide +kernel) (by decide +kernel) (by decide +kernel) (by decide +kernel) (by decide +kernel)
theorem allAtoms_all (ts : List Jvm.Cond) (a : Array Jvm.Value) (st : Jvm.State) : (allAtoms ts).before a st = ts.all (fun c => c.before a st) := by
  induction ts with
  | nil => rfl
  | cons c t ih =>
    show (Jvm.Cond.and c (allAtoms t)).before a st = _
    rw [Jvm.Cond.before_and, ih, List.all_cons]
def words1 : List Jvm.Cond := Jvm.Cond.code x code maxLocals ret :: tables_1
/-- a 'code' word, met by the world's own term for the bytes: nothing is compared byte by byte -/
theorem code_word {y : MethodName} {bytes : ByteArray} {mx : Nat} {rt : Option FieldType} {a : Array Value} {s : State} {m : MethodId} {meth : Method} {c : Code} (h1 : s.methodNamed? y = some m) (h2 : s.vm.method? m = some meth) (h3 : meth.code = some c) (h4 : c.code = bytes)
    (h5 : (c.maxLocals == mx && c.exceptionTable.isEmpty && decide (c.maxStack ≤ mostOperands) && decide (meth.sig.returnType = rt) && !meth.locks && decide (parseMethodDescriptor y.desc = some meth.sig)) = true) : (Jvm.Cond.code y bytes mx rt).before a s = true := by
  simp only [Bool.and_eq_true, beq_iff_eq, Bool.not_eq_true', decide_eq_true_eq] at h5
  obtain ⟨⟨⟨⟨⟨g1, g2⟩, g3⟩, g4⟩, g5⟩, g6⟩ := h5
  simp [Cond.before, Cond.holds, Cond.value, h1, h2, h3, h4, g1, g2, g3, g4, g5, g6]
def isCode : Jvm.Cond → Bool
  | .code _ _ _ _ => true
  | _ => false
theorem all_split {L : List Jvm.Cond} {P : Jvm.Cond → Bool} (h1 : L.all (fun c => isCode c || P c) = true) (h2 : ∀ c ∈ L.filter isCode, P c = true) : L.all P = true := by
  refine List.all_eq_true.mpr fun c hc => ?_
  have h := List.all_eq_true.mp h1 c hc
  rcases Bool.eq_false_or_eq_true (isCode c) with hi | hi
  · exact h2 c (List.mem_filter.mpr ⟨hc, hi⟩)
  · simpa [hi] using h
set_option maxRecDepth 65536 in
theorem w_c0 : (Jvm.Cond.code x code maxLocals ret).before args0 about1 = true := code_word (m := ⟨1, 1⟩) (meth := k1m1) (c := k1c1) (by decide +kernel) rfl rfl rfl (by decide +kernel)
set_option maxRecDepth 65536 in
theorem w_c1 : (Jvm.Cond.code ({ cls := "com/example/cluster_log/clusterlog/Lease", name := "<init>", desc := "(IJ)V" } : Jvm.MethodName) prog_8_method_1_code (4 : Nat) (Option.none : Option Jvm.ClassFile.FieldType)).before args0 about1 = true := code_word (m := ⟨2, 0⟩) (meth := k2m0) (c := k2c0) (by decide +kernel) rfl rfl rfl (by decide +kernel)
set_option maxRecDepth 65536 in
theorem w_c2 : (Jvm.Cond.code ({ cls := "java/lang/Object", name := "<init>", desc := "()V" } : Jvm.MethodName) object_method_1_code (1 : Nat) (Option.none : Option Jvm.ClassFile.FieldType)).before args0 about1 = true := code_word (m := ⟨0, 0⟩) (meth := k0m0) (c := k0c0) (by decide +kernel) rfl rfl rfl (by decide +kernel)
set_option maxRecDepth 65536 in
theorem w_c3 : (Jvm.Cond.code ({ cls := "java/util/concurrent/TimeUnit", name := "toNanos", desc := "(J)J" } : Jvm.MethodName) jdk_2799_method_7_code (7 : Nat) (Option.some Jvm.ClassFile.FieldType.long)).before args0 about1 = true := code_word (m := ⟨7, 0⟩) (meth := k7m0) (c := k7c0) (by decide +kernel) rfl rfl rfl (by decide +kernel)
set_option maxRecDepth 65536 in
theorem w_c4 : (Jvm.Cond.code ({ cls := "java/lang/Math", name := "max", desc := "(II)I" } : Jvm.MethodName) jdk_29_method_65_code (2 : Nat) (Option.some Jvm.ClassFile.FieldType.int)).before args0 about1 = true := code_word (m := ⟨8, 1⟩) (meth := k8m1) (c := k8c1) (by decide +kernel) rfl rfl rfl (by decide +kernel)
set_option maxRecDepth 65536 in
theorem w_c5 : (Jvm.Cond.code ({ cls := "com/example/cluster_log/clusterlog/Lease", name := "length", desc := "()J" } : Jvm.MethodName) prog_8_method_2_code (1 : Nat) (Option.some Jvm.ClassFile.FieldType.long)).before args0 about1 = true := code_word (m := ⟨2, 1⟩) (meth := k2m1) (c := k2c1) (by decide +kernel) rfl rfl rfl (by decide +kernel)
set_option maxRecDepth 65536 in
theorem w_c6 : (Jvm.Cond.code ({ cls := "com/example/cluster_log/clusterlog/Lease", name := "renew", desc := "(J)Z" } : Jvm.MethodName) prog_8_method_4_code (5 : Nat) (Option.some Jvm.ClassFile.FieldType.boolean)).before args0 about1 = true := code_word (m := ⟨2, 2⟩) (meth := k2m2) (c := k2c2) (by decide +kernel) rfl rfl rfl (by decide +kernel)
set_option maxRecDepth 65536 in
theorem w_c7 : (Jvm.Cond.code ({ cls := "com/example/cluster_log/clusterlog/Lease", name := "answeredSince", desc := "(J)Z" } : Jvm.MethodName) prog_8_method_6_code (3 : Nat) (Option.some Jvm.ClassFile.FieldType.boolean)).before args0 about1 = true := code_word (m := ⟨2, 4⟩) (meth := k2m4) (c := k2c4) (by decide +kernel) rfl rfl rfl (by decide +kernel)
set_option maxRecDepth 65536 in
theorem w_c8 : (Jvm.Cond.code ({ cls := "com/example/cluster_log/clusterlog/Lease", name := "left", desc := "(J)J" } : Jvm.MethodName) prog_8_method_5_code (3 : Nat) (Option.some Jvm.ClassFile.FieldType.long)).before args0 about1 = true := code_word (m := ⟨2, 3⟩) (meth := k2m3) (c := k2c3) (by decide +kernel) rfl rfl rfl (by decide +kernel)
def codes1 : List Jvm.Cond := [Jvm.Cond.code x code maxLocals ret, Jvm.Cond.code ({ cls := "com/example/cluster_log/clusterlog/Lease", name := "<init>", desc := "(IJ)V" } : Jvm.MethodName) prog_8_method_1_code (4 : Nat) (Option.none : Option Jvm.ClassFile.FieldType), Jvm.Cond.code ({ cls := "java/lang/Object", name := "<init>", desc := "()V" } : Jvm.MethodName) object_method_1_code (1 : Nat) (Option.none : Option Jvm.ClassFile.FieldType), Jvm.Cond.code ({ cls := "java/util/concurrent/TimeUnit", name := "toNanos", desc := "(J)J" } : Jvm.MethodName) jdk_2799_method_7_code (7 : Nat) (Option.some Jvm.ClassFile.FieldType.long), Jvm.Cond.code ({ cls := "java/lang/Math", name := "max", desc := "(II)I" } : Jvm.MethodName) jdk_29_method_65_code (2 : Nat) (Option.some Jvm.ClassFile.FieldType.int), Jvm.Cond.code ({ cls := "com/example/cluster_log/clusterlog/Lease", name := "length", desc := "()J" } : Jvm.MethodName) prog_8_method_2_code (1 : Nat) (Option.some Jvm.ClassFile.FieldType.long), Jvm.Cond.code ({ cls := "com/example/cluster_log/clusterlog/Lease", name := "renew", desc := "(J)Z" } : Jvm.MethodName) prog_8_method_4_code (5 : Nat) (Option.some Jvm.ClassFile.FieldType.boolean), Jvm.Cond.code ({ cls := "com/example/cluster_log/clusterlog/Lease", name := "answeredSince", desc := "(J)Z" } : Jvm.MethodName) prog_8_method_6_code (3 : Nat) (Option.some Jvm.ClassFile.FieldType.boolean), Jvm.Cond.code ({ cls := "com/example/cluster_log/clusterlog/Lease", name := "left", desc := "(J)J" } : Jvm.MethodName) prog_8_method_5_code (3 : Nat) (Option.some Jvm.ClassFile.FieldType.long)]
set_option maxRecDepth 65536 in
theorem codes_eq : words1.filter isCode = codes1 := rfl
theorem w_codes : ∀ c ∈ words1.filter isCode, c.before args0 about1 = true := by
  rw [codes_eq]
  intro c hc
  simp only [codes1, List.mem_cons, List.not_mem_nil, or_false] at hc
  rcases hc with rfl | rfl | rfl | rfl | rfl | rfl | rfl | rfl | rfl
  · exact w_c0
  · exact w_c1
  · exact w_c2
  · exact w_c3
  · exact w_c4
  · exact w_c5
  · exact w_c6
  · exact w_c7
  · exact w_c8
set_option maxRecDepth 65536 in
theorem w_t1 : (words1.take 24).all (fun c => isCode c || c.before args0 about1) = true := by decide +kernel
set_option maxRecDepth 65536 in
theorem w_t2 : ((words1.drop 24).take 24).all (fun c => isCode c || c.before args0 about1) = true := by decide +kernel
set_option maxRecDepth 65536 in
theorem w_t3 : ((words1.drop 24).drop 24).all (fun c => isCode c || c.before args0 about1) = true := by decide +kernel
theorem w_tables : (allAtoms (Jvm.Cond.code x code maxLocals ret :: tables_1)).before args0 about1 = true := by
  rw [allAtoms_all]
  show words1.all (fun c => c.before args0 about1) = true
  refine all_split ?_ w_codes
  rw [← List.take_append_drop 24 words1, List.all_append, w_t1, ← List.take_append_drop 24 (words1.drop 24), List.all_append, w_t2, w_t3]
  rfl
set_option maxRecDepth 65536 in
theorem w_rest : rest_1_c.before args0 about1 = true := by decide +kernel
set_option maxRecDepth 65536 in
theorem w_case : (Jvm.Cond.and given_1 narrow_1).before args0 about1 = true := by decide +kernel
theorem w_applies : (headSpec (Jvm.Cond.code x code maxLocals ret :: tables_1) room_1).applies x e0.platform about1 = true :=
  (Spec.applies_iff w_frames).mpr ⟨w_running, w_runnable, w_alone, w_named, w_hears, w_ripe, w_room, w_tables⟩
theorem atStart : AtStart classFile x code maxLocals ret World_1 tables_1 room_1 Calls_1 rest_1 Pre_1 launch0 p0 e0 about1 theMethod args0 below0 :=
  ⟨lists_1, trivial, launch0.admits_env _ _ _, launch0.least_env, fairChoices_fair.cas, fairChoices_fair.clock, w_frames, w_args, w_heap, w_applies, trivial, w_rest, w_case⟩
end start1
theorem witness_1 : WitnessClaimed_1 := ⟨start1.p0, start1.e0, start1.about1, start1.theMethod, start1.args0, start1.below0, start1.atStart⟩
end Jvm.Pilot.@@N@@
