import JvmDerived
import JvmDerived.Pilot.@@N@@Statement
import JvmDerived.Pilot.@@N@@Code
set_option linter.unusedVariables false
set_option linter.unusedSimpArgs false
namespace Jvm.RoadKit
open Sem ClassFile Op Lib Jvm.Stand Jvm.Free Jvm.LawKit
section New
variable {p : Program} {l : Launch} {e : Env} {R : Room} {s : State} {m : MethodId} {args : Array Value} {below : List Frame} {meth : Method} {c : Code} {T : State} {locs : List Loc} {cells slots : Nat}
theorem retI (X : Stand p l e R s m args below meth c T locs cells slots) (hx : p.tables.exec = Jvm.exec) {pc : Nat} {Ls : Array Slot} {z : Int32} {rest : List Value} (hret : meth.sig.returnType = some .int) (hd : decode c.code pc = .ok (.ireturn, 1)) {fs : List Frame}
    (hl : ∀ (f : JFrame) (acts : List Action), f.method = m → f.locked = none → f.entered = [] → (doReturn e (T.setTop f) acts (some (.int z))).1 = T.setFrames fs) : Steps p.tables e below (T.setTop (mkF m pc Ls (.int z :: rest))) (T.setFrames fs) := by
  have hm' : T.vm.method? m = some meth := X.method'
  have hn : narrow .int (.int z) = .int z := rfl
  show Steps p.tables e below (T.setTop { method := m, pc := pc, locals := Ls, stack := _ :: rest, locked := none }) _
  jvm_step X.here [X.here.top, hx, hd, hm', hret, hn]
  first | (intro acts; rw [hl _ acts rfl rfl rfl]) | rw [hl _ _ rfl rfl rfl]
  exact Steps.refl _
end New
end Jvm.RoadKit
namespace Jvm.Pilot.@@N@@
open Jvm Jvm.ClassFile Sem Op Lib Jvm.Free Jvm.Stand Jvm.LawKit Jvm.RoadKit Bundle Jvm.Pilot.@@N@@.Jvm.D
theorem own_eqI {t : Term} {args : Array Value} {first s : State} {o : Option Outcome} {idx : List Nat} {k : Int32} (h : (Jvm.Cond.eq t (.int k)).value args first o s idx = some true) : t.eval args first o idx s = some (.int k) := by
  cases ht : t.eval args first o idx s with
  | none => simp [Cond.value, ht] at h
  | some x => cases x <;> simp [Cond.value, ht, Term.eval] at h ⊢ <;> exact h
theorem own_eqJ {t : Term} {args : Array Value} {first s : State} {o : Option Outcome} {idx : List Nat} {k : Int64} (h : (Jvm.Cond.eq t (.long k)).value args first o s idx = some true) : t.eval args first o idx s = some (.long k) := by
  cases ht : t.eval args first o idx s with
  | none => simp [Cond.value, ht] at h
  | some x => cases x <;> simp [Cond.value, ht, Term.eval] at h ⊢ <;> exact h
theorem own_eqR {t u : Term} {args : Array Value} {first s : State} {o : Option Outcome} {idx : List Nat} {x : Addr} (h : (Jvm.Cond.eq t u).value args first o s idx = some true) (hu : u.eval args first o idx s = some (.ref x)) : t.eval args first o idx s = some (.ref x) := by
  cases ht : t.eval args first o idx s with
  | none => simp [Cond.value, ht] at h
  | some z => cases z <;> simp [Cond.value, ht, hu] at h ⊢ <;> exact h
theorem cat_of {v : Value} (h : v.isRef = true) : v.category = 1 := by rcases ref_cases h with rfl | ⟨a, rfl⟩ <;> rfl
theorem own_fits {n : String} {v : Value} (h : v.isRef = true) : fits (.object n) v = true := by rcases ref_cases h with rfl | ⟨a, rfl⟩ <;> rfl
theorem own_exa_ns {Z : State} {h : Heap} {a : Addr} {C : String} (E : Exa Z h a C) : ∀ c : Cell, h[a]? = some c → c.vm.isStatics = false := fun c hc => by
  obtain ⟨cell, k, h1, -, -, h4, -⟩ := E
  cases h1.symm.trans hc; exact h4
theorem own_sta_keep {Z : State} {h h' : Heap} {ws : List Addr} {C n d : String} {v : Value} (F : Sta Z h C n d v) (K : Keep h h' ws) (q : ∀ x ∈ ws, ∀ c : Cell, h[x]? = some c → c.vm.isStatics = false) : Sta Z h' C n d v := by
  obtain ⟨cf, i, k, f, st, cell, h1, h2, h3, h4, h5, h6, r⟩ := F
  refine ⟨cf, i, k, f, st, cell, h1, h2, h3, h4, K.2.1 st cell h5 (fun hm => ?_), h6, r⟩
  have := q st hm cell h5
  rw [h6] at this; cases this
theorem own_le (p : Int32) : ¬ ((9223372036854 : Int64) < (p.toInt64)) := by
  rw [Int64.lt_iff_toInt_lt, c_i2l]
  have : (9223372036854 : Int64).toInt = 9223372036854 := by decide
  have := rng32 p
  omega
theorem own_ge (p : Int32) : ¬ ((p.toInt64) < (-(9223372036854 : Int64))) := by
  rw [Int64.lt_iff_toInt_lt, c_i2l]
  have : (-(9223372036854 : Int64)).toInt = -9223372036854 := by decide
  have := rng32 p
  omega
theorem pn_0 : plainName "java/util/concurrent/TimeUnit" = true := by first | (simp [plainName, overriddenIn]; done) | decide +kernel
theorem d3_0 : decode jdk_2799_method_7_code 0 = .ok (.aload_n 0, 1) := by decide +kernel
theorem d3_1 : decode jdk_2799_method_7_code 1 = .ok (.getfield 44, 3) := by decide +kernel
theorem d3_4 : decode jdk_2799_method_7_code 4 = .ok (.dup2, 1) := by decide +kernel
theorem d3_5 : decode jdk_2799_method_7_code 5 = .ok (.lstore_n 3, 1) := by decide +kernel
theorem d3_6 : decode jdk_2799_method_7_code 6 = .ok (.lconst 1, 1) := by decide +kernel
theorem d3_7 : decode jdk_2799_method_7_code 7 = .ok (.lcmp, 1) := by decide +kernel
theorem d3_8 : decode jdk_2799_method_7_code 8 = .ok (.ifCond .ne 5, 3) := by decide +kernel
theorem d3_13 : decode jdk_2799_method_7_code 13 = .ok (.lload_n 1, 1) := by decide +kernel
theorem d3_14 : decode jdk_2799_method_7_code 14 = .ok (.aload_n 0, 1) := by decide +kernel
theorem d3_15 : decode jdk_2799_method_7_code 15 = .ok (.getfield 52, 3) := by decide +kernel
theorem d3_18 : decode jdk_2799_method_7_code 18 = .ok (.dup2, 1) := by decide +kernel
theorem d3_19 : decode jdk_2799_method_7_code 19 = .ok (.lstore 5, 2) := by decide +kernel
theorem d3_21 : decode jdk_2799_method_7_code 21 = .ok (.lcmp, 1) := by decide +kernel
theorem d3_22 : decode jdk_2799_method_7_code 22 = .ok (.ifCond .le 7, 3) := by decide +kernel
theorem d3_29 : decode jdk_2799_method_7_code 29 = .ok (.lload_n 1, 1) := by decide +kernel
theorem d3_30 : decode jdk_2799_method_7_code 30 = .ok (.lload 5, 2) := by decide +kernel
theorem d3_32 : decode jdk_2799_method_7_code 32 = .ok (.lneg, 1) := by decide +kernel
theorem d3_33 : decode jdk_2799_method_7_code 33 = .ok (.lcmp, 1) := by decide +kernel
theorem d3_34 : decode jdk_2799_method_7_code 34 = .ok (.ifCond .ge 7, 3) := by decide +kernel
theorem d3_41 : decode jdk_2799_method_7_code 41 = .ok (.lload_n 1, 1) := by decide +kernel
theorem d3_42 : decode jdk_2799_method_7_code 42 = .ok (.lload_n 3, 1) := by decide +kernel
theorem d3_43 : decode jdk_2799_method_7_code 43 = .ok (.lmul, 1) := by decide +kernel
theorem d3_44 : decode jdk_2799_method_7_code 44 = .ok (.lreturn, 1) := by decide +kernel
theorem ef_3 (m : MethodId) (x0 : Addr) (x1 : Int64)  : entryFrame m #[(.ref x0), (.long x1)] 7 = mkF m 0 #[.val (.ref x0), .val (.long x1), .second, .unset, .unset, .unset, .unset] [] := by first | (simp [entryFrame, mkF, argsToLocals, Value.category]; done) | rfl
def Q3 (Z : State) (a0 : Addr) (q1 : Int64) (h0 : Heap) (n0 : Nat) (v : Option Value) (h : Heap) (L : List Loc) : Prop := v = some (.long (q1 * (1000000 : Int64))) ∧ Fr n0 L ∧ h = h0
set_option maxRecDepth 65536 in
set_option maxHeartbeats 40000000 in
theorem rm3 (l : Launch) (Z : State) (aw : Array Value) (hw : ∀ d ∈ tables_1, d.before aw Z = true) (ws : List Jvm.Cond) (a0 : Addr) (q1 : Int64) (h0 : Heap) (n0 : Nat) (Z0 : n0 ≤ h0.size) (hle : ¬ ((9223372036854 : Int64) < q1)) (hge : ¬ (q1 < (-(9223372036854 : Int64)))) (Ff_scale_2 : Fld Z h0 a0 "java/util/concurrent/TimeUnit" "scale" "J" (.long (1000000 : Int64))) (Ff_maxNanos_3 : Fld Z h0 a0 "java/util/concurrent/TimeUnit" "maxNanos" "J" (.long (9223372036854 : Int64))) :
    MetFree l (⟨"java/util/concurrent/TimeUnit", "toNanos", "(J)J"⟩ : MethodName) (head1 (Jvm.Cond.code (⟨"java/util/concurrent/TimeUnit", "toNanos", "(J)J"⟩ : MethodName) jdk_2799_method_7_code 7 (some .long) :: ws) ({ frames := 0, cells := 0, slots := 0, locals := 0 } : Room)) (fun a U => a = #[(.ref a0), (.long q1)] ∧ Z.Warmed39 U.vm ∧ U.heap = h0) (fun _ _ _ _ _ => True) (fun _ U o U' => ∃ v L, o = .returned v ∧ Q3 Z a0 q1 h0 n0 v U'.heap L ∧ FrameEnd U o U' L ({ frames := 0, cells := 0, slots := 0, locals := 0 } : Room).cells ({ frames := 0, cells := 0, slots := 0, locals := 0 } : Room).slots) := by
  refine MetFree.of_bodySF (plainFor_of_name pn_0) hisR ?_
  intro p e s m args below meth c s₁ Bd hml0 hP hK
  obtain ⟨rfl, hZ, hh⟩ := hP
  have hx := Bd.exec
  have hby := Bd.bytes
  have hml : c.maxLocals = 7 := hml0
  have hown : s.vm.findClass "java/util/concurrent/TimeUnit" = some m.cls := findClass_of_methodNamed Bd.named
  have hnm := (name_of_methodNamed Bd.named Bd.method).1
  have X0 : Stand p l e ({ frames := 0, cells := 0, slots := 0, locals := 0 } : Room) s m #[(.ref a0), (.long q1)] below meth c s₁ [] 0 0 := Stand.of_body Bd
  have e0 : s₁.heap = h0 := by rw [← hh, Bd.state]; rfl
  have N0 := Fr.nil n0
  have pre0 : ∀ t, Steps p.tables e below (s₁.setTop (mkF m 0 #[.val (.ref a0), .val (.long q1), .second, .unset, .unset, .unset, .unset] [])) t → Steps p.tables e below (s₁.setTop (entryFrame m #[(.ref a0), (.long q1)] 7)) t := fun t k => castTop (ef_3 m a0 q1 ) k
  obtain ⟨T1, X1, e1, st1⟩ := getF X0 hx hZ hown (host := "") (Or.inl (hw _ (List.mem_of_getElem? (i := 16) rfl))) Via.refl e0 Ff_scale_2 (g := (mkF m 1 #[.val (.ref a0), .val (.long q1), .second, .unset, .unset, .unset, .unset] [(.ref a0)])) rfl rfl (hb hby d3_1)
  obtain ⟨T2, X2, e2, st2⟩ := getF X1 hx hZ hown (host := "") (Or.inl (hw _ (List.mem_of_getElem? (i := 18) rfl))) Via.refl e1 Ff_maxNanos_3 (g := (mkF m 15 #[.val (.ref a0), .val (.long q1), .second, .val (.long (1000000 : Int64)), .second, .unset, .unset] [(.ref a0), (.long q1)])) rfl rfl (hb hby d3_15)
  have pre3 : ∀ t, Steps p.tables e below (T2.setTop (mkF m 44 #[.val (.ref a0), .val (.long q1), .second, .val (.long (1000000 : Int64)), .second, .val (.long (9223372036854 : Int64)), .second] [(.long (q1 * (1000000 : Int64)))])) t → Steps p.tables e below (s₁.setTop (entryFrame m #[(.ref a0), (.long q1)] 7)) t := fun t kt => pre0 t (by
      show Steps p.tables e below (s₁.setTop (mkF m 0 #[.val (.ref a0), .val (.long q1), .second, .unset, .unset, .unset, .unset] [])) _
      refine XS.aloadN X0.here hx rfl (hb hby d3_0) rfl rfl ?_
      show Steps p.tables e below (s₁.setTop (mkF m 1 #[.val (.ref a0), .val (.long q1), .second, .unset, .unset, .unset, .unset] [(.ref a0)])) _
      refine st1 _ ?_
      show Steps p.tables e below (T1.setTop (mkF m 4 #[.val (.ref a0), .val (.long q1), .second, .unset, .unset, .unset, .unset] [(.long (1000000 : Int64))])) _
      refine Jvm.Free.XT.dup2L X1.here hx rfl (hb hby d3_4) rfl ?_
      show Steps p.tables e below (T1.setTop (mkF m 5 #[.val (.ref a0), .val (.long q1), .second, .unset, .unset, .unset, .unset] [(.long (1000000 : Int64)), (.long (1000000 : Int64))])) _
      refine XS.lstoreN X1.here hx rfl (hb hby d3_5) rfl (l' := #[.val (.ref a0), .val (.long q1), .second, .val (.long (1000000 : Int64)), .second, .unset, .unset]) rfl ?_
      show Steps p.tables e below (T1.setTop (mkF m 6 #[.val (.ref a0), .val (.long q1), .second, .val (.long (1000000 : Int64)), .second, .unset, .unset] [(.long (1000000 : Int64))])) _
      refine XS.lconst X1.here hx rfl (hb hby d3_6) ?_
      show Steps p.tables e below (T1.setTop (mkF m 7 #[.val (.ref a0), .val (.long q1), .second, .val (.long (1000000 : Int64)), .second, .unset, .unset] [(.long (1 : Int64)), (.long (1000000 : Int64))])) _
      refine XS.lcmp X1.here hx rfl (hb hby d3_7) rfl ?_
      show Steps p.tables e below (T1.setTop (mkF m 8 #[.val (.ref a0), .val (.long q1), .second, .val (.long (1000000 : Int64)), .second, .unset, .unset] [(.int (lcmpW (1000000 : Int64) (1 : Int64)))])) _
      refine XS.ifYes X1.here hx rfl (pc0 := 8) (pc' := 13) rfl (hb hby d3_8) rfl ((if0 _ _).trans (feq (by decide : ¬ (lcmpW (1000000 : Int64) (1 : Int64) = (0 : Int32)))).2) (by decide) (by decide) ?_
      show Steps p.tables e below (T1.setTop (mkF m 13 #[.val (.ref a0), .val (.long q1), .second, .val (.long (1000000 : Int64)), .second, .unset, .unset] [])) _
      refine XS.lloadN X1.here hx rfl (hb hby d3_13) rfl ?_
      show Steps p.tables e below (T1.setTop (mkF m 14 #[.val (.ref a0), .val (.long q1), .second, .val (.long (1000000 : Int64)), .second, .unset, .unset] [(.long q1)])) _
      refine XS.aloadN X1.here hx rfl (hb hby d3_14) rfl rfl ?_
      show Steps p.tables e below (T1.setTop (mkF m 15 #[.val (.ref a0), .val (.long q1), .second, .val (.long (1000000 : Int64)), .second, .unset, .unset] [(.ref a0), (.long q1)])) _
      refine st2 _ ?_
      show Steps p.tables e below (T2.setTop (mkF m 18 #[.val (.ref a0), .val (.long q1), .second, .val (.long (1000000 : Int64)), .second, .unset, .unset] [(.long (9223372036854 : Int64)), (.long q1)])) _
      refine Jvm.Free.XT.dup2L X2.here hx rfl (hb hby d3_18) rfl ?_
      show Steps p.tables e below (T2.setTop (mkF m 19 #[.val (.ref a0), .val (.long q1), .second, .val (.long (1000000 : Int64)), .second, .unset, .unset] [(.long (9223372036854 : Int64)), (.long (9223372036854 : Int64)), (.long q1)])) _
      refine XS.lstore X2.here hx rfl (hb hby d3_19) rfl (l' := #[.val (.ref a0), .val (.long q1), .second, .val (.long (1000000 : Int64)), .second, .val (.long (9223372036854 : Int64)), .second]) rfl ?_
      show Steps p.tables e below (T2.setTop (mkF m 21 #[.val (.ref a0), .val (.long q1), .second, .val (.long (1000000 : Int64)), .second, .val (.long (9223372036854 : Int64)), .second] [(.long (9223372036854 : Int64)), (.long q1)])) _
      refine XS.lcmp X2.here hx rfl (hb hby d3_21) rfl ?_
      show Steps p.tables e below (T2.setTop (mkF m 22 #[.val (.ref a0), .val (.long q1), .second, .val (.long (1000000 : Int64)), .second, .val (.long (9223372036854 : Int64)), .second] [(.int (lcmpW q1 (9223372036854 : Int64)))])) _
      refine XS.ifYes X2.here hx rfl (pc0 := 22) (pc' := 29) rfl (hb hby d3_22) rfl ((if0 _ _).trans (flt (fun z => hle ((lw_gt _ _).mp z))).2.2.2) (by decide) (by decide) ?_
      show Steps p.tables e below (T2.setTop (mkF m 29 #[.val (.ref a0), .val (.long q1), .second, .val (.long (1000000 : Int64)), .second, .val (.long (9223372036854 : Int64)), .second] [])) _
      refine XS.lloadN X2.here hx rfl (hb hby d3_29) rfl ?_
      show Steps p.tables e below (T2.setTop (mkF m 30 #[.val (.ref a0), .val (.long q1), .second, .val (.long (1000000 : Int64)), .second, .val (.long (9223372036854 : Int64)), .second] [(.long q1)])) _
      refine XS.lload X2.here hx rfl (hb hby d3_30) rfl ?_
      show Steps p.tables e below (T2.setTop (mkF m 32 #[.val (.ref a0), .val (.long q1), .second, .val (.long (1000000 : Int64)), .second, .val (.long (9223372036854 : Int64)), .second] [(.long (9223372036854 : Int64)), (.long q1)])) _
      refine XS.lneg X2.here hx rfl (hb hby d3_32) rfl ?_
      show Steps p.tables e below (T2.setTop (mkF m 33 #[.val (.ref a0), .val (.long q1), .second, .val (.long (1000000 : Int64)), .second, .val (.long (9223372036854 : Int64)), .second] [(.long (-(9223372036854 : Int64))), (.long q1)])) _
      refine XS.lcmp X2.here hx rfl (hb hby d3_33) rfl ?_
      show Steps p.tables e below (T2.setTop (mkF m 34 #[.val (.ref a0), .val (.long q1), .second, .val (.long (1000000 : Int64)), .second, .val (.long (9223372036854 : Int64)), .second] [(.int (lcmpW q1 (-(9223372036854 : Int64))))])) _
      refine XS.ifYes X2.here hx rfl (pc0 := 34) (pc' := 41) rfl (hb hby d3_34) rfl ((if0 _ _).trans (flt (fun z => hge ((lw_lt _ _).mp z))).2.1) (by decide) (by decide) ?_
      show Steps p.tables e below (T2.setTop (mkF m 41 #[.val (.ref a0), .val (.long q1), .second, .val (.long (1000000 : Int64)), .second, .val (.long (9223372036854 : Int64)), .second] [])) _
      refine XS.lloadN X2.here hx rfl (hb hby d3_41) rfl ?_
      show Steps p.tables e below (T2.setTop (mkF m 42 #[.val (.ref a0), .val (.long q1), .second, .val (.long (1000000 : Int64)), .second, .val (.long (9223372036854 : Int64)), .second] [(.long q1)])) _
      refine XS.lloadN X2.here hx rfl (hb hby d3_42) rfl ?_
      show Steps p.tables e below (T2.setTop (mkF m 43 #[.val (.ref a0), .val (.long q1), .second, .val (.long (1000000 : Int64)), .second, .val (.long (9223372036854 : Int64)), .second] [(.long (1000000 : Int64)), (.long q1)])) _
      refine XS.lmul X2.here hx rfl (hb hby d3_43) rfl ?_
      exact kt)
  obtain ⟨fs, hr, hrun, hended, hW, hsame⟩ := X2.leave (v := some (.long (q1 * (1000000 : Int64)))) (fun h => by rw [Bd.returns] at h; cases h)
  refine ⟨_, _, pre3 _ ?_, hrun, hended, _, _, rfl, ?_, ⟨_, rfl⟩, hW, hsame.mono (by decide) (by decide)⟩
  · show Steps p.tables e below (T2.setTop (mkF m 44 #[.val (.ref a0), .val (.long q1), .second, .val (.long (1000000 : Int64)), .second, .val (.long (9223372036854 : Int64)), .second] [(.long (q1 * (1000000 : Int64)))])) _
    jvm_step X2.here [X2.here.top, hx, (hb hby d3_44), X2.method', Bd.returns, narrow]
    first | (intro acts; rw [hr _ acts rfl rfl rfl]) | rw [hr _ _ rfl rfl rfl]
    exact Steps.refl _
  · show Q3 Z _ _ h0 n0 _ T2.heap _
    rw [e2]
    exact ⟨rfl, N0, rfl⟩
theorem d4_0 : decode jdk_29_method_65_code 0 = .ok (.iload_n 0, 1) := by decide +kernel
theorem d4_1 : decode jdk_29_method_65_code 1 = .ok (.iload_n 1, 1) := by decide +kernel
theorem d4_2 : decode jdk_29_method_65_code 2 = .ok (.if_icmp .lt 7, 3) := by decide +kernel
theorem d4_5 : decode jdk_29_method_65_code 5 = .ok (.iload_n 0, 1) := by decide +kernel
theorem d4_6 : decode jdk_29_method_65_code 6 = .ok (.goto 4, 3) := by decide +kernel
theorem d4_9 : decode jdk_29_method_65_code 9 = .ok (.iload_n 1, 1) := by decide +kernel
theorem d4_10 : decode jdk_29_method_65_code 10 = .ok (.ireturn, 1) := by decide +kernel
theorem ef_4 (m : MethodId) (x0 : Int32) (x1 : Int32)  : entryFrame m #[(.int x0), (.int x1)] 2 = mkF m 0 #[.val (.int x0), .val (.int x1)] [] := by first | (simp [entryFrame, mkF, argsToLocals, Value.category]; done) | rfl
def Q4 (Z : State) (p0 : Int32) (p1 : Int32) (h0 : Heap) (n0 : Nat) (v : Option Value) (h : Heap) (L : List Loc) : Prop := (∃ r : Int32, v = some (.int r) ∧ (True)) ∧ Fr n0 L ∧ h = h0
set_option maxRecDepth 65536 in
set_option maxHeartbeats 40000000 in
theorem rm4 (l : Launch) (Z : State) (aw : Array Value) (hw : ∀ d ∈ tables_1, d.before aw Z = true) (ws : List Jvm.Cond) (p0 : Int32) (p1 : Int32) (h0 : Heap) (n0 : Nat) (Z0 : n0 ≤ h0.size) :
    MetFree l (⟨"java/lang/Math", "max", "(II)I"⟩ : MethodName) (head1 (Jvm.Cond.code (⟨"java/lang/Math", "max", "(II)I"⟩ : MethodName) jdk_29_method_65_code 2 (some .int) :: ws) ({ frames := 0, cells := 0, slots := 0, locals := 0 } : Room)) (fun a U => a = #[(.int p0), (.int p1)] ∧ Z.Warmed39 U.vm ∧ U.heap = h0) (fun _ _ _ _ _ => True) (fun _ U o U' => ∃ v L, o = .returned v ∧ Q4 Z p0 p1 h0 n0 v U'.heap L ∧ FrameEnd U o U' L ({ frames := 0, cells := 0, slots := 0, locals := 0 } : Room).cells ({ frames := 0, cells := 0, slots := 0, locals := 0 } : Room).slots) := by
  refine MetFree.of_bodySF (Jvm.Free.JP.mathPlain rfl (by decide +kernel)) hisR ?_
  intro p e s m args below meth c s₁ Bd hml0 hP hK
  obtain ⟨rfl, hZ, hh⟩ := hP
  have hx := Bd.exec
  have hby := Bd.bytes
  have hml : c.maxLocals = 2 := hml0
  have hown : s.vm.findClass "java/lang/Math" = some m.cls := findClass_of_methodNamed Bd.named
  have hnm := (name_of_methodNamed Bd.named Bd.method).1
  have X0 : Stand p l e ({ frames := 0, cells := 0, slots := 0, locals := 0 } : Room) s m #[(.int p0), (.int p1)] below meth c s₁ [] 0 0 := Stand.of_body Bd
  have e0 : s₁.heap = h0 := by rw [← hh, Bd.state]; rfl
  have N0 := Fr.nil n0
  have pre0 : ∀ t, Steps p.tables e below (s₁.setTop (mkF m 0 #[.val (.int p0), .val (.int p1)] [])) t → Steps p.tables e below (s₁.setTop (entryFrame m #[(.int p0), (.int p1)] 2)) t := fun t k => castTop (ef_4 m p0 p1 ) k
  have pre1 : ∀ t, Steps p.tables e below (s₁.setTop (mkF m 2 #[.val (.int p0), .val (.int p1)] [(.int p1), (.int p0)])) t → Steps p.tables e below (s₁.setTop (entryFrame m #[(.int p0), (.int p1)] 2)) t := fun t kt => pre0 t (by
      show Steps p.tables e below (s₁.setTop (mkF m 0 #[.val (.int p0), .val (.int p1)] [])) _
      refine XS.iloadN X0.here hx rfl (hb hby d4_0) rfl ?_
      show Steps p.tables e below (s₁.setTop (mkF m 1 #[.val (.int p0), .val (.int p1)] [(.int p0)])) _
      refine XS.iloadN X0.here hx rfl (hb hby d4_1) rfl ?_
      exact kt)
  by_cases hc2 : p0 < p1
  · skip
    have pre3 : ∀ t, Steps p.tables e below (s₁.setTop (mkF m 10 #[.val (.int p0), .val (.int p1)] [(.int p1)])) t → Steps p.tables e below (s₁.setTop (entryFrame m #[(.int p0), (.int p1)] 2)) t := fun t kt => pre1 t (by
        show Steps p.tables e below (s₁.setTop (mkF m 2 #[.val (.int p0), .val (.int p1)] [(.int p1), (.int p0)])) _
        refine XS.icmpYes X0.here hx rfl (pc0 := 2) (pc' := 9) rfl (hb hby d4_2) rfl (tlt hc2).1 (by decide) (by decide) ?_
        show Steps p.tables e below (s₁.setTop (mkF m 9 #[.val (.int p0), .val (.int p1)] [])) _
        refine XS.iloadN X0.here hx rfl (hb hby d4_9) rfl ?_
        exact kt)
    obtain ⟨fs, hr, hrun, hended, hW, hsame⟩ := X0.leave (v := some (.int p1)) (fun h => by rw [Bd.returns] at h; cases h)
    refine ⟨_, _, pre3 _ ?_, hrun, hended, _, _, rfl, ?_, ⟨_, rfl⟩, hW, hsame.mono (by decide) (by decide)⟩
    · show Steps p.tables e below (s₁.setTop (mkF m 10 #[.val (.int p0), .val (.int p1)] [(.int p1)])) _
      exact retI X0 hx Bd.returns (hb hby d4_10) hr
    · show Q4 Z _ _ h0 n0 _ s₁.heap _
      rw [e0]
      exact ⟨⟨_, rfl, trivial⟩, N0, rfl⟩
  · skip
    have pre4 : ∀ t, Steps p.tables e below (s₁.setTop (mkF m 10 #[.val (.int p0), .val (.int p1)] [(.int p0)])) t → Steps p.tables e below (s₁.setTop (entryFrame m #[(.int p0), (.int p1)] 2)) t := fun t kt => pre1 t (by
        show Steps p.tables e below (s₁.setTop (mkF m 2 #[.val (.int p0), .val (.int p1)] [(.int p1), (.int p0)])) _
        refine XS.icmpNo X0.here hx rfl (hb hby d4_2) rfl (flt hc2).1 ?_
        show Steps p.tables e below (s₁.setTop (mkF m 5 #[.val (.int p0), .val (.int p1)] [])) _
        refine XS.iloadN X0.here hx rfl (hb hby d4_5) rfl ?_
        show Steps p.tables e below (s₁.setTop (mkF m 6 #[.val (.int p0), .val (.int p1)] [(.int p0)])) _
        refine XS.goto X0.here hx rfl (pc0 := 6) (pc' := 10) rfl (hb hby d4_6) (by decide) (by decide) ?_
        exact kt)
    obtain ⟨fs, hr, hrun, hended, hW, hsame⟩ := X0.leave (v := some (.int p0)) (fun h => by rw [Bd.returns] at h; cases h)
    refine ⟨_, _, pre4 _ ?_, hrun, hended, _, _, rfl, ?_, ⟨_, rfl⟩, hW, hsame.mono (by decide) (by decide)⟩
    · show Steps p.tables e below (s₁.setTop (mkF m 10 #[.val (.int p0), .val (.int p1)] [(.int p0)])) _
      exact retI X0 hx Bd.returns (hb hby d4_10) hr
    · show Q4 Z _ _ h0 n0 _ s₁.heap _
      rw [e0]
      exact ⟨⟨_, rfl, trivial⟩, N0, rfl⟩
theorem pd_0 : parseMethodDescriptor "(J)J" = some ⟨[.long], some .long⟩ := by decide +kernel
theorem pd_1 : parseMethodDescriptor "(II)I" = some ⟨[.int, .int], some .int⟩ := by decide +kernel
theorem pn_1 : plainName "com/example/cluster_log/clusterlog/Lease" = true := by first | (simp [plainName, overriddenIn]; done) | decide +kernel
theorem d1_0 : decode prog_8_method_1_code 0 = .ok (.aload_n 0, 1) := by decide +kernel
theorem d1_1 : decode prog_8_method_1_code 1 = .ok (.invokespecial 1, 3) := by decide +kernel
theorem d1_4 : decode prog_8_method_1_code 4 = .ok (.aload_n 0, 1) := by decide +kernel
theorem d1_5 : decode prog_8_method_1_code 5 = .ok (.getstatic 7, 3) := by decide +kernel
theorem d1_8 : decode prog_8_method_1_code 8 = .ok (.iload_n 1, 1) := by decide +kernel
theorem d1_9 : decode prog_8_method_1_code 9 = .ok (.i2l, 1) := by decide +kernel
theorem d1_10 : decode prog_8_method_1_code 10 = .ok (.invokevirtual 13, 3) := by decide +kernel
theorem d1_13 : decode prog_8_method_1_code 13 = .ok (.ldc2_w 19, 3) := by decide +kernel
theorem d1_16 : decode prog_8_method_1_code 16 = .ok (.lmul, 1) := by decide +kernel
theorem d1_17 : decode prog_8_method_1_code 17 = .ok (.ldc2_w 21, 3) := by decide +kernel
theorem d1_20 : decode prog_8_method_1_code 20 = .ok (.ldiv, 1) := by decide +kernel
theorem d1_21 : decode prog_8_method_1_code 21 = .ok (.putfield 23, 3) := by decide +kernel
theorem d1_24 : decode prog_8_method_1_code 24 = .ok (.aload_n 0, 1) := by decide +kernel
theorem d1_25 : decode prog_8_method_1_code 25 = .ok (.iconst 1, 1) := by decide +kernel
theorem d1_26 : decode prog_8_method_1_code 26 = .ok (.iload_n 1, 1) := by decide +kernel
theorem d1_27 : decode prog_8_method_1_code 27 = .ok (.iconst 3, 1) := by decide +kernel
theorem d1_28 : decode prog_8_method_1_code 28 = .ok (.idiv, 1) := by decide +kernel
theorem d1_29 : decode prog_8_method_1_code 29 = .ok (.invokestatic 27, 3) := by decide +kernel
theorem d1_32 : decode prog_8_method_1_code 32 = .ok (.i2l, 1) := by decide +kernel
theorem d1_33 : decode prog_8_method_1_code 33 = .ok (.putfield 33, 3) := by decide +kernel
theorem d1_36 : decode prog_8_method_1_code 36 = .ok (.aload_n 0, 1) := by decide +kernel
theorem d1_37 : decode prog_8_method_1_code 37 = .ok (.lload_n 2, 1) := by decide +kernel
theorem d1_38 : decode prog_8_method_1_code 38 = .ok (.putfield 36, 3) := by decide +kernel
theorem d1_41 : decode prog_8_method_1_code 41 = .ok (.return_, 1) := by decide +kernel
theorem ef_1 (m : MethodId) (x0 : Addr) (x1 : Int32) (x2 : Int64)  : entryFrame m #[(.ref x0), (.int x1), (.long x2)] 4 = mkF m 0 #[.val (.ref x0), .val (.int x1), .val (.long x2), .second] [] := by first | (simp [entryFrame, mkF, argsToLocals, Value.category]; done) | rfl
def Q1 (Z : State) (a0 : Addr) (p1 : Int32) (q2 : Int64) (w_MILLISECONDS_0 : Addr) (u_length_1 : Value) (u_heartbeatMs_2 : Value) (u_end_3 : Value) (h0 : Heap) (n0 : Nat) (v : Option Value) (h : Heap) (L : List Loc) : Prop := v = none ∧ Fr n0 L ∧ (Keep h0 h [a0]) ∧ (Exa Z h a0 "com/example/cluster_log/clusterlog/Lease") ∧ (Fld Z h a0 "com/example/cluster_log/clusterlog/Lease" "length" "J" (.long ((((p1.toInt64) * (1000000 : Int64)) * (9 : Int64)) / (10 : Int64)))) ∧ (Fld Z h a0 "com/example/cluster_log/clusterlog/Lease" "end" "J" (.long q2))
set_option maxRecDepth 65536 in
set_option maxHeartbeats 40000000 in
theorem rm1 (l : Launch) (Z : State) (aw : Array Value) (hw : ∀ d ∈ tables_1, d.before aw Z = true) (ws : List Jvm.Cond) (a0 : Addr) (p1 : Int32) (q2 : Int64) (w_MILLISECONDS_0 : Addr) (u_length_1 : Value) (u_heartbeatMs_2 : Value) (u_end_3 : Value) (h0 : Heap) (n0 : Nat) (Z0 : n0 ≤ h0.size) (Sf_MILLISECONDS_0 : Sta Z h0 "java/util/concurrent/TimeUnit" "MILLISECONDS" "Ljava/util/concurrent/TimeUnit;" (.ref w_MILLISECONDS_0)) (Ff_scale_1 : Fld Z h0 w_MILLISECONDS_0 "java/util/concurrent/TimeUnit" "scale" "J" (.long (1000000 : Int64))) (Ff_maxNanos_2 : Fld Z h0 w_MILLISECONDS_0 "java/util/concurrent/TimeUnit" "maxNanos" "J" (.long (9223372036854 : Int64))) (Exa_3 : Exa Z h0 w_MILLISECONDS_0 "java/util/concurrent/TimeUnit") (Exa_4 : Exa Z h0 a0 "com/example/cluster_log/clusterlog/Lease") (Fo_length_5 : Fld Z h0 a0 "com/example/cluster_log/clusterlog/Lease" "length" "J" u_length_1) (g_a0 : n0 ≤ a0) (Fo_heartbeatMs_7 : Fld Z h0 a0 "com/example/cluster_log/clusterlog/Lease" "heartbeatMs" "J" u_heartbeatMs_2) (Fo_end_8 : Fld Z h0 a0 "com/example/cluster_log/clusterlog/Lease" "end" "J" u_end_3) :
    MetFree l (⟨"com/example/cluster_log/clusterlog/Lease", "<init>", "(IJ)V"⟩ : MethodName) (head1 (Jvm.Cond.code (⟨"com/example/cluster_log/clusterlog/Lease", "<init>", "(IJ)V"⟩ : MethodName) prog_8_method_1_code 4 none :: ws) ({ frames := 1, cells := 0, slots := 0, locals := 19 } : Room)) (fun a U => a = #[(.ref a0), (.int p1), (.long q2)] ∧ Z.Warmed39 U.vm ∧ U.heap = h0) (fun _ _ _ _ _ => True) (fun _ U o U' => ∃ v L, o = .returned v ∧ Q1 Z a0 p1 q2 w_MILLISECONDS_0 u_length_1 u_heartbeatMs_2 u_end_3 h0 n0 v U'.heap L ∧ FrameEnd U o U' L ({ frames := 1, cells := 0, slots := 0, locals := 19 } : Room).cells ({ frames := 1, cells := 0, slots := 0, locals := 19 } : Room).slots) := by
  refine MetFree.of_bodySF (plainFor_of_name pn_1) hisR ?_
  intro p e s m args below meth c s₁ Bd hml0 hP hK
  obtain ⟨rfl, hZ, hh⟩ := hP
  have hx := Bd.exec
  have hby := Bd.bytes
  have hml : c.maxLocals = 4 := hml0
  have hown : s.vm.findClass "com/example/cluster_log/clusterlog/Lease" = some m.cls := findClass_of_methodNamed Bd.named
  have hnm := (name_of_methodNamed Bd.named Bd.method).1
  have X0 : Stand p l e ({ frames := 1, cells := 0, slots := 0, locals := 19 } : Room) s m #[(.ref a0), (.int p1), (.long q2)] below meth c s₁ [] 0 0 := Stand.of_body Bd
  have e0 : s₁.heap = h0 := by rw [← hh, Bd.state]; rfl
  have N0 := Fr.nil n0
  have pre0 : ∀ t, Steps p.tables e below (s₁.setTop (mkF m 0 #[.val (.ref a0), .val (.int p1), .val (.long q2), .second] [])) t → Steps p.tables e below (s₁.setTop (entryFrame m #[(.ref a0), (.int p1), (.long q2)] 4)) t := fun t k => castTop (ef_1 m a0 p1 q2 ) k
  obtain ⟨T1, X1, e1, st1⟩ := initO X0 hx hZ hown (hw _ (List.mem_of_getElem? (i := 6) rfl)) (hw _ (List.mem_of_getElem? (i := 7) rfl)) (hw _ (List.mem_of_getElem? (i := 8) rfl)) e0 (g := (mkF m 1 #[.val (.ref a0), .val (.int p1), .val (.long q2), .second] [(.ref a0)])) rfl (by rw [hml]; rfl) rfl (hb hby d1_1) (by decide) (W := 0) (by show 2 * 0 + _ ≤ _; exact Nat.le_of_eq rfl) (by decide)
  obtain ⟨T2, X2, e2, st2⟩ := getS2 X1 hx hZ hown (host := "") (Or.inl (hw _ (List.mem_of_getElem? (i := 9) rfl))) Via.refl e1 Sf_MILLISECONDS_0 (g := (mkF m 5 #[.val (.ref a0), .val (.int p1), .val (.long q2), .second] [(.ref a0)])) rfl (hb hby d1_5)
  obtain ⟨cq3, kq3, q3a, q3b, q3c⟩ := isOf hZ e2 Exa_3
  obtain ⟨_, _, ⟨T3, L3, k3, n3⟩, -, X3, ⟨Lc3, hQ3, l3, y3, z3⟩, st3⟩ := X2.virtualBack hx (y := (⟨"java/util/concurrent/TimeUnit", "toNanos", "(J)J"⟩ : MethodName)) (z := (⟨"java/util/concurrent/TimeUnit", "toNanos", "(J)J"⟩ : MethodName)) hown (mvT hZ (hw _ (List.mem_of_getElem? (i := 11) rfl))) (mvT hZ (hw _ (List.mem_of_getElem? (i := 12) rfl))) (notFace_of_selects (args := #[]) (mvT hZ (hw _ (List.mem_of_getElem? (i := 14) rfl)))) (mvT hZ (hw _ (List.mem_of_getElem? (i := 14) rfl))) (mvT hZ (hw _ (List.mem_of_getElem? (i := 13) rfl))) (by decide) (backOf (W := 1) (rm3 l Z aw hw [] w_MILLISECONDS_0 (p1.toInt64) h0 n0 Z0 (own_le _) (own_ge _) Ff_scale_1 Ff_maxNanos_2) hZ (hw _ (List.mem_of_getElem? (i := 15) rfl)) (hw _ (List.mem_of_getElem? (i := 10) rfl)) (by decide) (by decide)) q3a q3c (g := (mkF m 10 #[.val (.ref a0), .val (.int p1), .val (.long q2), .second] [(.long (p1.toInt64)), (.ref w_MILLISECONDS_0), (.ref a0)])) rfl (by rw [hml]; rfl) (Steps.refl _) (argsL := [(.long (p1.toInt64))]) (rest := [(.ref a0)]) (lenOf pd_0 rfl) rfl (by show 2 * 0 + _ ≤ _; exact Nat.le_of_eq rfl) (hb hby d1_10) (fun _ _ => ⟨rfl, e2, (by decide : 0 + 0 ≤ _), (by decide : 0 + 0 ≤ _)⟩)
  dsimp only [Pt.U, Pt.locs, Pt.cells, Pt.slots] at X3 l3 y3 z3 st3 hQ3
  subst l3 y3 z3
  obtain ⟨rfl, Nq3, e3⟩ := hQ3
  have N3 := Fr.app N0 Nq3
  obtain ⟨T4, h4, X4, e4, W4, st4⟩ := putF X3 hx hZ hown (host := "") (Or.inl (hw _ (List.mem_of_getElem? (i := 22) rfl))) Via.refl e3 Fo_length_5 Exa_4 (Or.inr ⟨(hw _ (List.mem_of_getElem? (i := 23) rfl)), rfl, hnm⟩) (hw _ (List.mem_of_getElem? (i := 1) rfl)) (ty := .long) (by decide) rfl rfl (g := (mkF m 21 #[.val (.ref a0), .val (.int p1), .val (.long q2), .second] [(.long ((((p1.toInt64) * (1000000 : Int64)) * (9 : Int64)) / (10 : Int64))), (.ref a0)])) rfl rfl (hb hby d1_21)
  have Fw4 := Fo_length_5.same W4
  have f5 := (Sf_MILLISECONDS_0.wr W4)
  have f6 := (Ff_scale_1.other W4 (Or.inl (ne_exa Exa_3 Exa_4 (by decide))))
  have f7 := (Ff_maxNanos_2.other W4 (Or.inl (ne_exa Exa_3 Exa_4 (by decide))))
  have f8 := (Exa_3.wr W4)
  have f9 := (Exa_4.wr W4)
  have N4 := Fr.snoc X4 N3 g_a0
  have K4 : Keep h0 h4 [a0] := Keep.wr (Keep.refl h0 [a0]) W4 (Or.inl (List.mem_of_getElem? (i := 0) rfl))
  obtain ⟨_, _, ⟨T10, L10, k10, n10⟩, -, X10, ⟨Lc10, hQ10, l10, y10, z10⟩, st10⟩ := Jvm.LawKit.callS X4 hx (y := (⟨"java/lang/Math", "max", "(II)I"⟩ : MethodName)) hown (mvT hZ (hw _ (List.mem_of_getElem? (i := 24) rfl))) (mvT hZ (hw _ (List.mem_of_getElem? (i := 25) rfl))) (mvT hZ (hw _ (List.mem_of_getElem? (i := 26) rfl))) (mvT hZ (hw _ (List.mem_of_getElem? (i := 27) rfl))) (by decide) (backOf (W := 1) (rm4 l Z aw hw [] (1 : Int32) (p1 / (3 : Int32)) h4 n0 (Nat.le_trans Z0 (Keep.of_wr W4).1) ) hZ (hw _ (List.mem_of_getElem? (i := 27) rfl)) (hw _ (List.mem_of_getElem? (i := 26) rfl)) (by decide) (by decide)) (g := (mkF m 29 #[.val (.ref a0), .val (.int p1), .val (.long q2), .second] [(.int (p1 / (3 : Int32))), (.int (1 : Int32)), (.ref a0)])) rfl (by rw [hml]; rfl) (argsL := [(.int (1 : Int32)), (.int (p1 / (3 : Int32)))]) (rest := [(.ref a0)]) (lenOf pd_1 rfl) rfl (by show 2 * 0 + _ ≤ _; exact Nat.le_of_eq rfl) (hb hby d1_29) (fun _ _ => ⟨rfl, e4, (by decide : 0 + 0 ≤ _), (by decide : 0 + 0 ≤ _)⟩)
  dsimp only [Pt.U, Pt.locs, Pt.cells, Pt.slots] at X10 l10 y10 z10 st10 hQ10
  subst l10 y10 z10
  obtain ⟨⟨r11, rfl, Pr11⟩, Nq10, e10⟩ := hQ10
  have N10 := Fr.app N4 Nq10
  obtain ⟨T12, h12, X12, e12, W12, st12⟩ := putF X10 hx hZ hown (host := "") (Or.inl (hw _ (List.mem_of_getElem? (i := 28) rfl))) Via.refl e10 (Fo_heartbeatMs_7.other W4 (Or.inr (slot_ne (Or.inr (hw _ (List.mem_of_getElem? (i := 29) rfl))) (Or.inr (hw _ (List.mem_of_getElem? (i := 23) rfl))) (by decide) (t := .long) (t' := .long) (by decide) (by decide)))) f9 (Or.inr ⟨(hw _ (List.mem_of_getElem? (i := 29) rfl)), rfl, hnm⟩) (hw _ (List.mem_of_getElem? (i := 1) rfl)) (ty := .long) (by decide) rfl rfl (g := (mkF m 33 #[.val (.ref a0), .val (.int p1), .val (.long q2), .second] [(.long (r11.toInt64)), (.ref a0)])) rfl rfl (hb hby d1_33)
  have Fw12 := (Fo_heartbeatMs_7.other W4 (Or.inr (slot_ne (Or.inr (hw _ (List.mem_of_getElem? (i := 29) rfl))) (Or.inr (hw _ (List.mem_of_getElem? (i := 23) rfl))) (by decide) (t := .long) (t' := .long) (by decide) (by decide)))).same W12
  have f13 := (f5.wr W12)
  have f14 := (f6.other W12 (Or.inl (ne_exa f8 f9 (by decide))))
  have f15 := (f7.other W12 (Or.inl (ne_exa f8 f9 (by decide))))
  have f16 := (f8.wr W12)
  have f17 := (f9.wr W12)
  have f18 := (Fw4.other W12 (Or.inr (slot_ne (Or.inr (hw _ (List.mem_of_getElem? (i := 23) rfl))) (Or.inr (hw _ (List.mem_of_getElem? (i := 29) rfl))) (by decide) (t := .long) (t' := .long) (by decide) (by decide))))
  have N12 := Fr.snoc X12 N10 g_a0
  have K12 : Keep h0 h12 [a0] := Keep.wr K4 W12 (Or.inl (List.mem_of_getElem? (i := 0) rfl))
  obtain ⟨T19, h19, X19, e19, W19, st19⟩ := putF X12 hx hZ hown (host := "") (Or.inl (hw _ (List.mem_of_getElem? (i := 30) rfl))) Via.refl e12 ((Fo_end_8.other W4 (Or.inr (slot_ne (Or.inl (hw _ (List.mem_of_getElem? (i := 31) rfl))) (Or.inr (hw _ (List.mem_of_getElem? (i := 23) rfl))) (by decide) (t := .long) (t' := .long) (by decide) (by decide)))).other W12 (Or.inr (slot_ne (Or.inl (hw _ (List.mem_of_getElem? (i := 31) rfl))) (Or.inr (hw _ (List.mem_of_getElem? (i := 29) rfl))) (by decide) (t := .long) (t' := .long) (by decide) (by decide)))) f17 (Or.inl (hw _ (List.mem_of_getElem? (i := 31) rfl))) (hw _ (List.mem_of_getElem? (i := 1) rfl)) (ty := .long) (by decide) rfl rfl (g := (mkF m 38 #[.val (.ref a0), .val (.int p1), .val (.long q2), .second] [(.long q2), (.ref a0)])) rfl rfl (hb hby d1_38)
  have Fw19 := ((Fo_end_8.other W4 (Or.inr (slot_ne (Or.inl (hw _ (List.mem_of_getElem? (i := 31) rfl))) (Or.inr (hw _ (List.mem_of_getElem? (i := 23) rfl))) (by decide) (t := .long) (t' := .long) (by decide) (by decide)))).other W12 (Or.inr (slot_ne (Or.inl (hw _ (List.mem_of_getElem? (i := 31) rfl))) (Or.inr (hw _ (List.mem_of_getElem? (i := 29) rfl))) (by decide) (t := .long) (t' := .long) (by decide) (by decide)))).same W19
  have f20 := (f13.wr W19)
  have f21 := (f14.other W19 (Or.inl (ne_exa f16 f17 (by decide))))
  have f22 := (f15.other W19 (Or.inl (ne_exa f16 f17 (by decide))))
  have f23 := (f16.wr W19)
  have f24 := (f17.wr W19)
  have f25 := (f18.other W19 (Or.inr (slot_ne (Or.inr (hw _ (List.mem_of_getElem? (i := 23) rfl))) (Or.inl (hw _ (List.mem_of_getElem? (i := 31) rfl))) (by decide) (t := .long) (t' := .long) (by decide) (by decide))))
  have f26 := (Fw12.other W19 (Or.inr (slot_ne (Or.inr (hw _ (List.mem_of_getElem? (i := 29) rfl))) (Or.inl (hw _ (List.mem_of_getElem? (i := 31) rfl))) (by decide) (t := .long) (t' := .long) (by decide) (by decide))))
  have N19 := Fr.snoc X19 N12 g_a0
  have K19 : Keep h0 h19 [a0] := Keep.wr K12 W19 (Or.inl (List.mem_of_getElem? (i := 0) rfl))
  have pre27 : ∀ t, Steps p.tables e below (T19.setTop (mkF m 41 #[.val (.ref a0), .val (.int p1), .val (.long q2), .second] [])) t → Steps p.tables e below (s₁.setTop (entryFrame m #[(.ref a0), (.int p1), (.long q2)] 4)) t := fun t kt => pre0 t (by
      show Steps p.tables e below (s₁.setTop (mkF m 0 #[.val (.ref a0), .val (.int p1), .val (.long q2), .second] [])) _
      refine XS.aloadN X0.here hx rfl (hb hby d1_0) rfl rfl ?_
      show Steps p.tables e below (s₁.setTop (mkF m 1 #[.val (.ref a0), .val (.int p1), .val (.long q2), .second] [(.ref a0)])) _
      refine st1 _ ?_
      show Steps p.tables e below (T1.setTop (mkF m 4 #[.val (.ref a0), .val (.int p1), .val (.long q2), .second] [])) _
      refine XS.aloadN X1.here hx rfl (hb hby d1_4) rfl rfl ?_
      show Steps p.tables e below (T1.setTop (mkF m 5 #[.val (.ref a0), .val (.int p1), .val (.long q2), .second] [(.ref a0)])) _
      refine st2 _ ?_
      show Steps p.tables e below (T2.setTop (mkF m 8 #[.val (.ref a0), .val (.int p1), .val (.long q2), .second] [(.ref w_MILLISECONDS_0), (.ref a0)])) _
      refine XS.iloadN X2.here hx rfl (hb hby d1_8) rfl ?_
      show Steps p.tables e below (T2.setTop (mkF m 9 #[.val (.ref a0), .val (.int p1), .val (.long q2), .second] [(.int p1), (.ref w_MILLISECONDS_0), (.ref a0)])) _
      refine XS.i2l X2.here hx rfl (hb hby d1_9) rfl ?_
      show Steps p.tables e below (T2.setTop (mkF m 10 #[.val (.ref a0), .val (.int p1), .val (.long q2), .second] [(.long (p1.toInt64)), (.ref w_MILLISECONDS_0), (.ref a0)])) _
      refine st3.trans ?_
      show Steps p.tables e below (T3.setTop (mkF m 13 #[.val (.ref a0), .val (.int p1), .val (.long q2), .second] [(.long ((p1.toInt64) * (1000000 : Int64))), (.ref a0)])) _
      refine X3.ldc2Long hx hown (mvT hZ (hw _ (List.mem_of_getElem? (i := 20) rfl))) (g := (mkF m 13 #[.val (.ref a0), .val (.int p1), .val (.long q2), .second] [(.long ((p1.toInt64) * (1000000 : Int64))), (.ref a0)])) rfl (hb hby d1_13) _ ?_
      show Steps p.tables e below (T3.setTop (mkF m 16 #[.val (.ref a0), .val (.int p1), .val (.long q2), .second] [(.long (9 : Int64)), (.long ((p1.toInt64) * (1000000 : Int64))), (.ref a0)])) _
      refine XS.lmul X3.here hx rfl (hb hby d1_16) rfl ?_
      show Steps p.tables e below (T3.setTop (mkF m 17 #[.val (.ref a0), .val (.int p1), .val (.long q2), .second] [(.long (((p1.toInt64) * (1000000 : Int64)) * (9 : Int64))), (.ref a0)])) _
      refine X3.ldc2Long hx hown (mvT hZ (hw _ (List.mem_of_getElem? (i := 21) rfl))) (g := (mkF m 17 #[.val (.ref a0), .val (.int p1), .val (.long q2), .second] [(.long (((p1.toInt64) * (1000000 : Int64)) * (9 : Int64))), (.ref a0)])) rfl (hb hby d1_17) _ ?_
      show Steps p.tables e below (T3.setTop (mkF m 20 #[.val (.ref a0), .val (.int p1), .val (.long q2), .second] [(.long (10 : Int64)), (.long (((p1.toInt64) * (1000000 : Int64)) * (9 : Int64))), (.ref a0)])) _
      refine XS.ldiv X3.here hx rfl (hb hby d1_20) rfl (by decide) ?_
      show Steps p.tables e below (T3.setTop (mkF m 21 #[.val (.ref a0), .val (.int p1), .val (.long q2), .second] [(.long ((((p1.toInt64) * (1000000 : Int64)) * (9 : Int64)) / (10 : Int64))), (.ref a0)])) _
      refine st4 _ ?_
      show Steps p.tables e below (T4.setTop (mkF m 24 #[.val (.ref a0), .val (.int p1), .val (.long q2), .second] [])) _
      refine XS.aloadN X4.here hx rfl (hb hby d1_24) rfl rfl ?_
      show Steps p.tables e below (T4.setTop (mkF m 25 #[.val (.ref a0), .val (.int p1), .val (.long q2), .second] [(.ref a0)])) _
      refine XS.iconst X4.here hx rfl (hb hby d1_25) ?_
      show Steps p.tables e below (T4.setTop (mkF m 26 #[.val (.ref a0), .val (.int p1), .val (.long q2), .second] [(.int (1 : Int32)), (.ref a0)])) _
      refine XS.iloadN X4.here hx rfl (hb hby d1_26) rfl ?_
      show Steps p.tables e below (T4.setTop (mkF m 27 #[.val (.ref a0), .val (.int p1), .val (.long q2), .second] [(.int p1), (.int (1 : Int32)), (.ref a0)])) _
      refine XS.iconst X4.here hx rfl (hb hby d1_27) ?_
      show Steps p.tables e below (T4.setTop (mkF m 28 #[.val (.ref a0), .val (.int p1), .val (.long q2), .second] [(.int (3 : Int32)), (.int p1), (.int (1 : Int32)), (.ref a0)])) _
      refine XS.idiv X4.here hx rfl (hb hby d1_28) rfl (by decide) ?_
      show Steps p.tables e below (T4.setTop (mkF m 29 #[.val (.ref a0), .val (.int p1), .val (.long q2), .second] [(.int (p1 / (3 : Int32))), (.int (1 : Int32)), (.ref a0)])) _
      refine st10 _ ?_
      show Steps p.tables e below (T10.setTop (mkF m 32 #[.val (.ref a0), .val (.int p1), .val (.long q2), .second] [(.int r11), (.ref a0)])) _
      refine XS.i2l X10.here hx rfl (hb hby d1_32) rfl ?_
      show Steps p.tables e below (T10.setTop (mkF m 33 #[.val (.ref a0), .val (.int p1), .val (.long q2), .second] [(.long (r11.toInt64)), (.ref a0)])) _
      refine st12 _ ?_
      show Steps p.tables e below (T12.setTop (mkF m 36 #[.val (.ref a0), .val (.int p1), .val (.long q2), .second] [])) _
      refine XS.aloadN X12.here hx rfl (hb hby d1_36) rfl rfl ?_
      show Steps p.tables e below (T12.setTop (mkF m 37 #[.val (.ref a0), .val (.int p1), .val (.long q2), .second] [(.ref a0)])) _
      refine XS.lloadN X12.here hx rfl (hb hby d1_37) rfl ?_
      show Steps p.tables e below (T12.setTop (mkF m 38 #[.val (.ref a0), .val (.int p1), .val (.long q2), .second] [(.long q2), (.ref a0)])) _
      refine st19 _ ?_
      exact kt)
  obtain ⟨fs, hr, hrun, hended, hW, hsame⟩ := X19.leave (v := none) (fun _ => rfl)
  refine ⟨_, _, pre27 _ ?_, hrun, hended, _, _, rfl, ?_, ⟨_, rfl⟩, hW, hsame.mono (by decide) (by decide)⟩
  · show Steps p.tables e below (T19.setTop (mkF m 41 #[.val (.ref a0), .val (.int p1), .val (.long q2), .second] [])) _
    exact X19.returnOut hx Bd.returns (hb hby d1_41) hr
  · show Q1 Z _ _ _ _ _ _ _ h0 n0 _ T19.heap _
    rw [e19]
    exact ⟨rfl, N19, K19, f24, f25, Fw19⟩
theorem d5_0 : decode prog_8_method_2_code 0 = .ok (.aload_n 0, 1) := by decide +kernel
theorem d5_1 : decode prog_8_method_2_code 1 = .ok (.getfield 23, 3) := by decide +kernel
theorem d5_4 : decode prog_8_method_2_code 4 = .ok (.lreturn, 1) := by decide +kernel
theorem ef_5 (m : MethodId) (x0 : Addr)  : entryFrame m #[(.ref x0)] 1 = mkF m 0 #[.val (.ref x0)] [] := by first | (simp [entryFrame, mkF, argsToLocals, Value.category]; done) | rfl
def Q5 (Z : State) (a0 : Addr) (w_length_0 : Int64) (h0 : Heap) (n0 : Nat) (v : Option Value) (h : Heap) (L : List Loc) : Prop := v = some (.long w_length_0) ∧ Fr n0 L ∧ h = h0
set_option maxRecDepth 65536 in
set_option maxHeartbeats 40000000 in
theorem rm5 (l : Launch) (Z : State) (aw : Array Value) (hw : ∀ d ∈ tables_1, d.before aw Z = true) (ws : List Jvm.Cond) (a0 : Addr) (w_length_0 : Int64) (h0 : Heap) (n0 : Nat) (Z0 : n0 ≤ h0.size) (Ff_length_0 : Fld Z h0 a0 "com/example/cluster_log/clusterlog/Lease" "length" "J" (.long w_length_0)) :
    MetFree l (⟨"com/example/cluster_log/clusterlog/Lease", "length", "()J"⟩ : MethodName) (head1 (Jvm.Cond.code (⟨"com/example/cluster_log/clusterlog/Lease", "length", "()J"⟩ : MethodName) prog_8_method_2_code 1 (some .long) :: ws) ({ frames := 0, cells := 0, slots := 0, locals := 0 } : Room)) (fun a U => a = #[(.ref a0)] ∧ Z.Warmed39 U.vm ∧ U.heap = h0) (fun _ _ _ _ _ => True) (fun _ U o U' => ∃ v L, o = .returned v ∧ Q5 Z a0 w_length_0 h0 n0 v U'.heap L ∧ FrameEnd U o U' L ({ frames := 0, cells := 0, slots := 0, locals := 0 } : Room).cells ({ frames := 0, cells := 0, slots := 0, locals := 0 } : Room).slots) := by
  refine MetFree.of_bodySF (plainFor_of_name pn_1) hisR ?_
  intro p e s m args below meth c s₁ Bd hml0 hP hK
  obtain ⟨rfl, hZ, hh⟩ := hP
  have hx := Bd.exec
  have hby := Bd.bytes
  have hml : c.maxLocals = 1 := hml0
  have hown : s.vm.findClass "com/example/cluster_log/clusterlog/Lease" = some m.cls := findClass_of_methodNamed Bd.named
  have hnm := (name_of_methodNamed Bd.named Bd.method).1
  have X0 : Stand p l e ({ frames := 0, cells := 0, slots := 0, locals := 0 } : Room) s m #[(.ref a0)] below meth c s₁ [] 0 0 := Stand.of_body Bd
  have e0 : s₁.heap = h0 := by rw [← hh, Bd.state]; rfl
  have N0 := Fr.nil n0
  have pre0 : ∀ t, Steps p.tables e below (s₁.setTop (mkF m 0 #[.val (.ref a0)] [])) t → Steps p.tables e below (s₁.setTop (entryFrame m #[(.ref a0)] 1)) t := fun t k => castTop (ef_5 m a0 ) k
  obtain ⟨T1, X1, e1, st1⟩ := getF X0 hx hZ hown (host := "") (Or.inl (hw _ (List.mem_of_getElem? (i := 22) rfl))) Via.refl e0 Ff_length_0 (g := (mkF m 1 #[.val (.ref a0)] [(.ref a0)])) rfl rfl (hb hby d5_1)
  have pre2 : ∀ t, Steps p.tables e below (T1.setTop (mkF m 4 #[.val (.ref a0)] [(.long w_length_0)])) t → Steps p.tables e below (s₁.setTop (entryFrame m #[(.ref a0)] 1)) t := fun t kt => pre0 t (by
      show Steps p.tables e below (s₁.setTop (mkF m 0 #[.val (.ref a0)] [])) _
      refine XS.aloadN X0.here hx rfl (hb hby d5_0) rfl rfl ?_
      show Steps p.tables e below (s₁.setTop (mkF m 1 #[.val (.ref a0)] [(.ref a0)])) _
      refine st1 _ ?_
      exact kt)
  obtain ⟨fs, hr, hrun, hended, hW, hsame⟩ := X1.leave (v := some (.long w_length_0)) (fun h => by rw [Bd.returns] at h; cases h)
  refine ⟨_, _, pre2 _ ?_, hrun, hended, _, _, rfl, ?_, ⟨_, rfl⟩, hW, hsame.mono (by decide) (by decide)⟩
  · show Steps p.tables e below (T1.setTop (mkF m 4 #[.val (.ref a0)] [(.long w_length_0)])) _
    jvm_step X1.here [X1.here.top, hx, (hb hby d5_4), X1.method', Bd.returns, narrow]
    first | (intro acts; rw [hr _ acts rfl rfl rfl]) | rw [hr _ _ rfl rfl rfl]
    exact Steps.refl _
  · show Q5 Z _ _ h0 n0 _ T1.heap _
    rw [e1]
    exact ⟨rfl, N0, rfl⟩
theorem d6_0 : decode prog_8_method_5_code 0 = .ok (.aload_n 0, 1) := by decide +kernel
theorem d6_1 : decode prog_8_method_5_code 1 = .ok (.getfield 36, 3) := by decide +kernel
theorem d6_4 : decode prog_8_method_5_code 4 = .ok (.lload_n 1, 1) := by decide +kernel
theorem d6_5 : decode prog_8_method_5_code 5 = .ok (.lsub, 1) := by decide +kernel
theorem d6_6 : decode prog_8_method_5_code 6 = .ok (.lreturn, 1) := by decide +kernel
theorem ef_6 (m : MethodId) (x0 : Addr) (x1 : Int64)  : entryFrame m #[(.ref x0), (.long x1)] 3 = mkF m 0 #[.val (.ref x0), .val (.long x1), .second] [] := by first | (simp [entryFrame, mkF, argsToLocals, Value.category]; done) | rfl
def Q6 (Z : State) (a0 : Addr) (q1 : Int64) (w_end_0 : Int64) (h0 : Heap) (n0 : Nat) (v : Option Value) (h : Heap) (L : List Loc) : Prop := v = some (.long (w_end_0 - q1)) ∧ Fr n0 L ∧ h = h0
set_option maxRecDepth 65536 in
set_option maxHeartbeats 40000000 in
theorem rm6 (l : Launch) (Z : State) (aw : Array Value) (hw : ∀ d ∈ tables_1, d.before aw Z = true) (ws : List Jvm.Cond) (a0 : Addr) (q1 : Int64) (w_end_0 : Int64) (h0 : Heap) (n0 : Nat) (Z0 : n0 ≤ h0.size) (Ff_end_0 : Fld Z h0 a0 "com/example/cluster_log/clusterlog/Lease" "end" "J" (.long w_end_0)) :
    MetFree l (⟨"com/example/cluster_log/clusterlog/Lease", "left", "(J)J"⟩ : MethodName) (head1 (Jvm.Cond.code (⟨"com/example/cluster_log/clusterlog/Lease", "left", "(J)J"⟩ : MethodName) prog_8_method_5_code 3 (some .long) :: ws) ({ frames := 0, cells := 0, slots := 0, locals := 0 } : Room)) (fun a U => a = #[(.ref a0), (.long q1)] ∧ Z.Warmed39 U.vm ∧ U.heap = h0) (fun _ _ _ _ _ => True) (fun _ U o U' => ∃ v L, o = .returned v ∧ Q6 Z a0 q1 w_end_0 h0 n0 v U'.heap L ∧ FrameEnd U o U' L ({ frames := 0, cells := 0, slots := 0, locals := 0 } : Room).cells ({ frames := 0, cells := 0, slots := 0, locals := 0 } : Room).slots) := by
  refine MetFree.of_bodySF (plainFor_of_name pn_1) hisR ?_
  intro p e s m args below meth c s₁ Bd hml0 hP hK
  obtain ⟨rfl, hZ, hh⟩ := hP
  have hx := Bd.exec
  have hby := Bd.bytes
  have hml : c.maxLocals = 3 := hml0
  have hown : s.vm.findClass "com/example/cluster_log/clusterlog/Lease" = some m.cls := findClass_of_methodNamed Bd.named
  have hnm := (name_of_methodNamed Bd.named Bd.method).1
  have X0 : Stand p l e ({ frames := 0, cells := 0, slots := 0, locals := 0 } : Room) s m #[(.ref a0), (.long q1)] below meth c s₁ [] 0 0 := Stand.of_body Bd
  have e0 : s₁.heap = h0 := by rw [← hh, Bd.state]; rfl
  have N0 := Fr.nil n0
  have pre0 : ∀ t, Steps p.tables e below (s₁.setTop (mkF m 0 #[.val (.ref a0), .val (.long q1), .second] [])) t → Steps p.tables e below (s₁.setTop (entryFrame m #[(.ref a0), (.long q1)] 3)) t := fun t k => castTop (ef_6 m a0 q1 ) k
  obtain ⟨T1, X1, e1, st1⟩ := getF X0 hx hZ hown (host := "") (Or.inl (hw _ (List.mem_of_getElem? (i := 30) rfl))) Via.refl e0 Ff_end_0 (g := (mkF m 1 #[.val (.ref a0), .val (.long q1), .second] [(.ref a0)])) rfl rfl (hb hby d6_1)
  have pre2 : ∀ t, Steps p.tables e below (T1.setTop (mkF m 6 #[.val (.ref a0), .val (.long q1), .second] [(.long (w_end_0 - q1))])) t → Steps p.tables e below (s₁.setTop (entryFrame m #[(.ref a0), (.long q1)] 3)) t := fun t kt => pre0 t (by
      show Steps p.tables e below (s₁.setTop (mkF m 0 #[.val (.ref a0), .val (.long q1), .second] [])) _
      refine XS.aloadN X0.here hx rfl (hb hby d6_0) rfl rfl ?_
      show Steps p.tables e below (s₁.setTop (mkF m 1 #[.val (.ref a0), .val (.long q1), .second] [(.ref a0)])) _
      refine st1 _ ?_
      show Steps p.tables e below (T1.setTop (mkF m 4 #[.val (.ref a0), .val (.long q1), .second] [(.long w_end_0)])) _
      refine XS.lloadN X1.here hx rfl (hb hby d6_4) rfl ?_
      show Steps p.tables e below (T1.setTop (mkF m 5 #[.val (.ref a0), .val (.long q1), .second] [(.long q1), (.long w_end_0)])) _
      refine XS.lsub X1.here hx rfl (hb hby d6_5) rfl ?_
      exact kt)
  obtain ⟨fs, hr, hrun, hended, hW, hsame⟩ := X1.leave (v := some (.long (w_end_0 - q1))) (fun h => by rw [Bd.returns] at h; cases h)
  refine ⟨_, _, pre2 _ ?_, hrun, hended, _, _, rfl, ?_, ⟨_, rfl⟩, hW, hsame.mono (by decide) (by decide)⟩
  · show Steps p.tables e below (T1.setTop (mkF m 6 #[.val (.ref a0), .val (.long q1), .second] [(.long (w_end_0 - q1))])) _
    jvm_step X1.here [X1.here.top, hx, (hb hby d6_6), X1.method', Bd.returns, narrow]
    first | (intro acts; rw [hr _ acts rfl rfl rfl]) | rw [hr _ _ rfl rfl rfl]
    exact Steps.refl _
  · show Q6 Z _ _ _ h0 n0 _ T1.heap _
    rw [e1]
    exact ⟨rfl, N0, rfl⟩
theorem d7_0 : decode prog_8_method_4_code 0 = .ok (.lload_n 1, 1) := by decide +kernel
theorem d7_1 : decode prog_8_method_4_code 1 = .ok (.aload_n 0, 1) := by decide +kernel
theorem d7_2 : decode prog_8_method_4_code 2 = .ok (.getfield 23, 3) := by decide +kernel
theorem d7_5 : decode prog_8_method_4_code 5 = .ok (.ladd, 1) := by decide +kernel
theorem d7_6 : decode prog_8_method_4_code 6 = .ok (.lstore_n 3, 1) := by decide +kernel
theorem d7_7 : decode prog_8_method_4_code 7 = .ok (.lload_n 3, 1) := by decide +kernel
theorem d7_8 : decode prog_8_method_4_code 8 = .ok (.aload_n 0, 1) := by decide +kernel
theorem d7_9 : decode prog_8_method_4_code 9 = .ok (.getfield 36, 3) := by decide +kernel
theorem d7_12 : decode prog_8_method_4_code 12 = .ok (.lsub, 1) := by decide +kernel
theorem d7_13 : decode prog_8_method_4_code 13 = .ok (.lconst 0, 1) := by decide +kernel
theorem d7_14 : decode prog_8_method_4_code 14 = .ok (.lcmp, 1) := by decide +kernel
theorem d7_15 : decode prog_8_method_4_code 15 = .ok (.ifCond .gt 5, 3) := by decide +kernel
theorem d7_20 : decode prog_8_method_4_code 20 = .ok (.aload_n 0, 1) := by decide +kernel
theorem d7_21 : decode prog_8_method_4_code 21 = .ok (.lload_n 3, 1) := by decide +kernel
theorem d7_22 : decode prog_8_method_4_code 22 = .ok (.putfield 36, 3) := by decide +kernel
theorem d7_25 : decode prog_8_method_4_code 25 = .ok (.iconst 1, 1) := by decide +kernel
theorem d7_26 : decode prog_8_method_4_code 26 = .ok (.ireturn, 1) := by decide +kernel
theorem ef_Y (m : MethodId) (x0 : Addr) (x1 : Int64)  : entryFrame m #[(.ref x0), (.long x1)] 5 = mkF m 0 #[.val (.ref x0), .val (.long x1), .second, .unset, .unset] [] := by first | (simp [entryFrame, mkF, argsToLocals, Value.category]; done) | rfl
def QY (Z : State) (a0 : Addr) (q1 : Int64) (ln : Int64) (en : Int64) (h0 : Heap) (n0 : Nat) (v : Option Value) (h : Heap) (L : List Loc) : Prop := v = some (.int (1 : Int32)) ∧ Fr n0 L ∧ (Keep h0 h [a0]) ∧ (Exa Z h a0 "com/example/cluster_log/clusterlog/Lease") ∧ (Fld Z h a0 "com/example/cluster_log/clusterlog/Lease" "length" "J" (.long ln)) ∧ (Fld Z h a0 "com/example/cluster_log/clusterlog/Lease" "end" "J" (.long (q1 + ln)))
set_option maxRecDepth 65536 in
set_option maxHeartbeats 40000000 in
theorem rmY (l : Launch) (Z : State) (aw : Array Value) (hw : ∀ d ∈ tables_1, d.before aw Z = true) (ws : List Jvm.Cond) (a0 : Addr) (q1 : Int64) (ln : Int64) (en : Int64) (h0 : Heap) (n0 : Nat) (Z0 : n0 ≤ h0.size) (hy : (0 : Int64) < ((q1 + ln) - en)) (Ff_length_1 : Fld Z h0 a0 "com/example/cluster_log/clusterlog/Lease" "length" "J" (.long ln)) (Ff_end_2 : Fld Z h0 a0 "com/example/cluster_log/clusterlog/Lease" "end" "J" (.long en)) (Exa_3 : Exa Z h0 a0 "com/example/cluster_log/clusterlog/Lease") (g_a0 : n0 ≤ a0) :
    MetFree l (⟨"com/example/cluster_log/clusterlog/Lease", "renew", "(J)Z"⟩ : MethodName) (head1 (Jvm.Cond.code (⟨"com/example/cluster_log/clusterlog/Lease", "renew", "(J)Z"⟩ : MethodName) prog_8_method_4_code 5 (some .boolean) :: ws) ({ frames := 0, cells := 0, slots := 0, locals := 0 } : Room)) (fun a U => a = #[(.ref a0), (.long q1)] ∧ Z.Warmed39 U.vm ∧ U.heap = h0) (fun _ _ _ _ _ => True) (fun _ U o U' => ∃ v L, o = .returned v ∧ QY Z a0 q1 ln en h0 n0 v U'.heap L ∧ FrameEnd U o U' L ({ frames := 0, cells := 0, slots := 0, locals := 0 } : Room).cells ({ frames := 0, cells := 0, slots := 0, locals := 0 } : Room).slots) := by
  refine MetFree.of_bodySF (plainFor_of_name pn_1) hisR ?_
  intro p e s m args below meth c s₁ Bd hml0 hP hK
  obtain ⟨rfl, hZ, hh⟩ := hP
  have hx := Bd.exec
  have hby := Bd.bytes
  have hml : c.maxLocals = 5 := hml0
  have hown : s.vm.findClass "com/example/cluster_log/clusterlog/Lease" = some m.cls := findClass_of_methodNamed Bd.named
  have hnm := (name_of_methodNamed Bd.named Bd.method).1
  have X0 : Stand p l e ({ frames := 0, cells := 0, slots := 0, locals := 0 } : Room) s m #[(.ref a0), (.long q1)] below meth c s₁ [] 0 0 := Stand.of_body Bd
  have e0 : s₁.heap = h0 := by rw [← hh, Bd.state]; rfl
  have N0 := Fr.nil n0
  have pre0 : ∀ t, Steps p.tables e below (s₁.setTop (mkF m 0 #[.val (.ref a0), .val (.long q1), .second, .unset, .unset] [])) t → Steps p.tables e below (s₁.setTop (entryFrame m #[(.ref a0), (.long q1)] 5)) t := fun t k => castTop (ef_Y m a0 q1 ) k
  obtain ⟨T1, X1, e1, st1⟩ := getF X0 hx hZ hown (host := "") (Or.inl (hw _ (List.mem_of_getElem? (i := 22) rfl))) Via.refl e0 Ff_length_1 (g := (mkF m 2 #[.val (.ref a0), .val (.long q1), .second, .unset, .unset] [(.ref a0), (.long q1)])) rfl rfl (hb hby d7_2)
  obtain ⟨T2, X2, e2, st2⟩ := getF X1 hx hZ hown (host := "") (Or.inl (hw _ (List.mem_of_getElem? (i := 30) rfl))) Via.refl e1 Ff_end_2 (g := (mkF m 9 #[.val (.ref a0), .val (.long q1), .second, .val (.long (q1 + ln)), .second] [(.ref a0), (.long (q1 + ln))])) rfl rfl (hb hby d7_9)
  obtain ⟨T3, h3, X3, e3, W3, st3⟩ := putF X2 hx hZ hown (host := "") (Or.inl (hw _ (List.mem_of_getElem? (i := 30) rfl))) Via.refl e2 Ff_end_2 Exa_3 (Or.inl (hw _ (List.mem_of_getElem? (i := 31) rfl))) (hw _ (List.mem_of_getElem? (i := 1) rfl)) (ty := .long) (by decide) rfl rfl (g := (mkF m 22 #[.val (.ref a0), .val (.long q1), .second, .val (.long (q1 + ln)), .second] [(.long (q1 + ln)), (.ref a0)])) rfl rfl (hb hby d7_22)
  have Fw3 := Ff_end_2.same W3
  have f4 := (Ff_length_1.other W3 (Or.inr (slot_ne (Or.inr (hw _ (List.mem_of_getElem? (i := 23) rfl))) (Or.inl (hw _ (List.mem_of_getElem? (i := 31) rfl))) (by decide) (t := .long) (t' := .long) (by decide) (by decide))))
  have f5 := (Exa_3.wr W3)
  have N3 := Fr.snoc X3 N0 g_a0
  have K3 : Keep h0 h3 [a0] := Keep.wr (Keep.refl h0 [a0]) W3 (Or.inl (List.mem_of_getElem? (i := 0) rfl))
  have pre6 : ∀ t, Steps p.tables e below (T3.setTop (mkF m 26 #[.val (.ref a0), .val (.long q1), .second, .val (.long (q1 + ln)), .second] [(.int (1 : Int32))])) t → Steps p.tables e below (s₁.setTop (entryFrame m #[(.ref a0), (.long q1)] 5)) t := fun t kt => pre0 t (by
      show Steps p.tables e below (s₁.setTop (mkF m 0 #[.val (.ref a0), .val (.long q1), .second, .unset, .unset] [])) _
      refine XS.lloadN X0.here hx rfl (hb hby d7_0) rfl ?_
      show Steps p.tables e below (s₁.setTop (mkF m 1 #[.val (.ref a0), .val (.long q1), .second, .unset, .unset] [(.long q1)])) _
      refine XS.aloadN X0.here hx rfl (hb hby d7_1) rfl rfl ?_
      show Steps p.tables e below (s₁.setTop (mkF m 2 #[.val (.ref a0), .val (.long q1), .second, .unset, .unset] [(.ref a0), (.long q1)])) _
      refine st1 _ ?_
      show Steps p.tables e below (T1.setTop (mkF m 5 #[.val (.ref a0), .val (.long q1), .second, .unset, .unset] [(.long ln), (.long q1)])) _
      refine XS.ladd X1.here hx rfl (hb hby d7_5) rfl ?_
      show Steps p.tables e below (T1.setTop (mkF m 6 #[.val (.ref a0), .val (.long q1), .second, .unset, .unset] [(.long (q1 + ln))])) _
      refine XS.lstoreN X1.here hx rfl (hb hby d7_6) rfl (l' := #[.val (.ref a0), .val (.long q1), .second, .val (.long (q1 + ln)), .second]) rfl ?_
      show Steps p.tables e below (T1.setTop (mkF m 7 #[.val (.ref a0), .val (.long q1), .second, .val (.long (q1 + ln)), .second] [])) _
      refine XS.lloadN X1.here hx rfl (hb hby d7_7) rfl ?_
      show Steps p.tables e below (T1.setTop (mkF m 8 #[.val (.ref a0), .val (.long q1), .second, .val (.long (q1 + ln)), .second] [(.long (q1 + ln))])) _
      refine XS.aloadN X1.here hx rfl (hb hby d7_8) rfl rfl ?_
      show Steps p.tables e below (T1.setTop (mkF m 9 #[.val (.ref a0), .val (.long q1), .second, .val (.long (q1 + ln)), .second] [(.ref a0), (.long (q1 + ln))])) _
      refine st2 _ ?_
      show Steps p.tables e below (T2.setTop (mkF m 12 #[.val (.ref a0), .val (.long q1), .second, .val (.long (q1 + ln)), .second] [(.long en), (.long (q1 + ln))])) _
      refine XS.lsub X2.here hx rfl (hb hby d7_12) rfl ?_
      show Steps p.tables e below (T2.setTop (mkF m 13 #[.val (.ref a0), .val (.long q1), .second, .val (.long (q1 + ln)), .second] [(.long ((q1 + ln) - en))])) _
      refine XS.lconst X2.here hx rfl (hb hby d7_13) ?_
      show Steps p.tables e below (T2.setTop (mkF m 14 #[.val (.ref a0), .val (.long q1), .second, .val (.long (q1 + ln)), .second] [(.long (0 : Int64)), (.long ((q1 + ln) - en))])) _
      refine XS.lcmp X2.here hx rfl (hb hby d7_14) rfl ?_
      show Steps p.tables e below (T2.setTop (mkF m 15 #[.val (.ref a0), .val (.long q1), .second, .val (.long (q1 + ln)), .second] [(.int (lcmpW ((q1 + ln) - en) (0 : Int64)))])) _
      refine XS.ifYes X2.here hx rfl (pc0 := 15) (pc' := 20) rfl (hb hby d7_15) rfl ((if0 _ _).trans (tlt ((lw_gt _ _).mpr hy)).2.2.1) (by decide) (by decide) ?_
      show Steps p.tables e below (T2.setTop (mkF m 20 #[.val (.ref a0), .val (.long q1), .second, .val (.long (q1 + ln)), .second] [])) _
      refine XS.aloadN X2.here hx rfl (hb hby d7_20) rfl rfl ?_
      show Steps p.tables e below (T2.setTop (mkF m 21 #[.val (.ref a0), .val (.long q1), .second, .val (.long (q1 + ln)), .second] [(.ref a0)])) _
      refine XS.lloadN X2.here hx rfl (hb hby d7_21) rfl ?_
      show Steps p.tables e below (T2.setTop (mkF m 22 #[.val (.ref a0), .val (.long q1), .second, .val (.long (q1 + ln)), .second] [(.long (q1 + ln)), (.ref a0)])) _
      refine st3 _ ?_
      show Steps p.tables e below (T3.setTop (mkF m 25 #[.val (.ref a0), .val (.long q1), .second, .val (.long (q1 + ln)), .second] [])) _
      refine XS.iconst X3.here hx rfl (hb hby d7_25) ?_
      exact kt)
  obtain ⟨fs, hr, hrun, hended, hW, hsame⟩ := X3.leave (v := some (.int (1 : Int32))) (fun h => by rw [Bd.returns] at h; cases h)
  refine ⟨_, _, pre6 _ ?_, hrun, hended, _, _, rfl, ?_, ⟨_, rfl⟩, hW, hsame.mono (by decide) (by decide)⟩
  · show Steps p.tables e below (T3.setTop (mkF m 26 #[.val (.ref a0), .val (.long q1), .second, .val (.long (q1 + ln)), .second] [(.int (1 : Int32))])) _
    exact retN X3 hx (t := .boolean) Bd.returns (by simp) (hb hby d7_26) hr
  · show QY Z _ _ _ _ h0 n0 _ T3.heap _
    rw [e3]
    exact ⟨rfl, N3, K3, f5, f4, Fw3⟩
theorem d7_18 : decode prog_8_method_4_code 18 = .ok (.iconst 0, 1) := by decide +kernel
theorem d7_19 : decode prog_8_method_4_code 19 = .ok (.ireturn, 1) := by decide +kernel
theorem ef_N (m : MethodId) (x0 : Addr) (x1 : Int64)  : entryFrame m #[(.ref x0), (.long x1)] 5 = mkF m 0 #[.val (.ref x0), .val (.long x1), .second, .unset, .unset] [] := by first | (simp [entryFrame, mkF, argsToLocals, Value.category]; done) | rfl
def QN (Z : State) (a0 : Addr) (q1 : Int64) (ln : Int64) (en : Int64) (h0 : Heap) (n0 : Nat) (v : Option Value) (h : Heap) (L : List Loc) : Prop := v = some (.int (0 : Int32)) ∧ Fr n0 L ∧ h = h0
set_option maxRecDepth 65536 in
set_option maxHeartbeats 40000000 in
theorem rmN (l : Launch) (Z : State) (aw : Array Value) (hw : ∀ d ∈ tables_1, d.before aw Z = true) (ws : List Jvm.Cond) (a0 : Addr) (q1 : Int64) (ln : Int64) (en : Int64) (h0 : Heap) (n0 : Nat) (Z0 : n0 ≤ h0.size) (hn : ¬ (0 : Int64) < ((q1 + ln) - en)) (Ff_length_1 : Fld Z h0 a0 "com/example/cluster_log/clusterlog/Lease" "length" "J" (.long ln)) (Ff_end_2 : Fld Z h0 a0 "com/example/cluster_log/clusterlog/Lease" "end" "J" (.long en)) :
    MetFree l (⟨"com/example/cluster_log/clusterlog/Lease", "renew", "(J)Z"⟩ : MethodName) (head1 (Jvm.Cond.code (⟨"com/example/cluster_log/clusterlog/Lease", "renew", "(J)Z"⟩ : MethodName) prog_8_method_4_code 5 (some .boolean) :: ws) ({ frames := 0, cells := 0, slots := 0, locals := 0 } : Room)) (fun a U => a = #[(.ref a0), (.long q1)] ∧ Z.Warmed39 U.vm ∧ U.heap = h0) (fun _ _ _ _ _ => True) (fun _ U o U' => ∃ v L, o = .returned v ∧ QN Z a0 q1 ln en h0 n0 v U'.heap L ∧ FrameEnd U o U' L ({ frames := 0, cells := 0, slots := 0, locals := 0 } : Room).cells ({ frames := 0, cells := 0, slots := 0, locals := 0 } : Room).slots) := by
  refine MetFree.of_bodySF (plainFor_of_name pn_1) hisR ?_
  intro p e s m args below meth c s₁ Bd hml0 hP hK
  obtain ⟨rfl, hZ, hh⟩ := hP
  have hx := Bd.exec
  have hby := Bd.bytes
  have hml : c.maxLocals = 5 := hml0
  have hown : s.vm.findClass "com/example/cluster_log/clusterlog/Lease" = some m.cls := findClass_of_methodNamed Bd.named
  have hnm := (name_of_methodNamed Bd.named Bd.method).1
  have X0 : Stand p l e ({ frames := 0, cells := 0, slots := 0, locals := 0 } : Room) s m #[(.ref a0), (.long q1)] below meth c s₁ [] 0 0 := Stand.of_body Bd
  have e0 : s₁.heap = h0 := by rw [← hh, Bd.state]; rfl
  have N0 := Fr.nil n0
  have pre0 : ∀ t, Steps p.tables e below (s₁.setTop (mkF m 0 #[.val (.ref a0), .val (.long q1), .second, .unset, .unset] [])) t → Steps p.tables e below (s₁.setTop (entryFrame m #[(.ref a0), (.long q1)] 5)) t := fun t k => castTop (ef_N m a0 q1 ) k
  obtain ⟨T1, X1, e1, st1⟩ := getF X0 hx hZ hown (host := "") (Or.inl (hw _ (List.mem_of_getElem? (i := 22) rfl))) Via.refl e0 Ff_length_1 (g := (mkF m 2 #[.val (.ref a0), .val (.long q1), .second, .unset, .unset] [(.ref a0), (.long q1)])) rfl rfl (hb hby d7_2)
  obtain ⟨T2, X2, e2, st2⟩ := getF X1 hx hZ hown (host := "") (Or.inl (hw _ (List.mem_of_getElem? (i := 30) rfl))) Via.refl e1 Ff_end_2 (g := (mkF m 9 #[.val (.ref a0), .val (.long q1), .second, .val (.long (q1 + ln)), .second] [(.ref a0), (.long (q1 + ln))])) rfl rfl (hb hby d7_9)
  have pre3 : ∀ t, Steps p.tables e below (T2.setTop (mkF m 19 #[.val (.ref a0), .val (.long q1), .second, .val (.long (q1 + ln)), .second] [(.int (0 : Int32))])) t → Steps p.tables e below (s₁.setTop (entryFrame m #[(.ref a0), (.long q1)] 5)) t := fun t kt => pre0 t (by
      show Steps p.tables e below (s₁.setTop (mkF m 0 #[.val (.ref a0), .val (.long q1), .second, .unset, .unset] [])) _
      refine XS.lloadN X0.here hx rfl (hb hby d7_0) rfl ?_
      show Steps p.tables e below (s₁.setTop (mkF m 1 #[.val (.ref a0), .val (.long q1), .second, .unset, .unset] [(.long q1)])) _
      refine XS.aloadN X0.here hx rfl (hb hby d7_1) rfl rfl ?_
      show Steps p.tables e below (s₁.setTop (mkF m 2 #[.val (.ref a0), .val (.long q1), .second, .unset, .unset] [(.ref a0), (.long q1)])) _
      refine st1 _ ?_
      show Steps p.tables e below (T1.setTop (mkF m 5 #[.val (.ref a0), .val (.long q1), .second, .unset, .unset] [(.long ln), (.long q1)])) _
      refine XS.ladd X1.here hx rfl (hb hby d7_5) rfl ?_
      show Steps p.tables e below (T1.setTop (mkF m 6 #[.val (.ref a0), .val (.long q1), .second, .unset, .unset] [(.long (q1 + ln))])) _
      refine XS.lstoreN X1.here hx rfl (hb hby d7_6) rfl (l' := #[.val (.ref a0), .val (.long q1), .second, .val (.long (q1 + ln)), .second]) rfl ?_
      show Steps p.tables e below (T1.setTop (mkF m 7 #[.val (.ref a0), .val (.long q1), .second, .val (.long (q1 + ln)), .second] [])) _
      refine XS.lloadN X1.here hx rfl (hb hby d7_7) rfl ?_
      show Steps p.tables e below (T1.setTop (mkF m 8 #[.val (.ref a0), .val (.long q1), .second, .val (.long (q1 + ln)), .second] [(.long (q1 + ln))])) _
      refine XS.aloadN X1.here hx rfl (hb hby d7_8) rfl rfl ?_
      show Steps p.tables e below (T1.setTop (mkF m 9 #[.val (.ref a0), .val (.long q1), .second, .val (.long (q1 + ln)), .second] [(.ref a0), (.long (q1 + ln))])) _
      refine st2 _ ?_
      show Steps p.tables e below (T2.setTop (mkF m 12 #[.val (.ref a0), .val (.long q1), .second, .val (.long (q1 + ln)), .second] [(.long en), (.long (q1 + ln))])) _
      refine XS.lsub X2.here hx rfl (hb hby d7_12) rfl ?_
      show Steps p.tables e below (T2.setTop (mkF m 13 #[.val (.ref a0), .val (.long q1), .second, .val (.long (q1 + ln)), .second] [(.long ((q1 + ln) - en))])) _
      refine XS.lconst X2.here hx rfl (hb hby d7_13) ?_
      show Steps p.tables e below (T2.setTop (mkF m 14 #[.val (.ref a0), .val (.long q1), .second, .val (.long (q1 + ln)), .second] [(.long (0 : Int64)), (.long ((q1 + ln) - en))])) _
      refine XS.lcmp X2.here hx rfl (hb hby d7_14) rfl ?_
      show Steps p.tables e below (T2.setTop (mkF m 15 #[.val (.ref a0), .val (.long q1), .second, .val (.long (q1 + ln)), .second] [(.int (lcmpW ((q1 + ln) - en) (0 : Int64)))])) _
      refine XS.ifNo X2.here hx rfl (hb hby d7_15) rfl ((if0 _ _).trans (flt (fun z => hn ((lw_gt _ _).mp z))).2.2.1) ?_
      show Steps p.tables e below (T2.setTop (mkF m 18 #[.val (.ref a0), .val (.long q1), .second, .val (.long (q1 + ln)), .second] [])) _
      refine XS.iconst X2.here hx rfl (hb hby d7_18) ?_
      exact kt)
  obtain ⟨fs, hr, hrun, hended, hW, hsame⟩ := X2.leave (v := some (.int (0 : Int32))) (fun h => by rw [Bd.returns] at h; cases h)
  refine ⟨_, _, pre3 _ ?_, hrun, hended, _, _, rfl, ?_, ⟨_, rfl⟩, hW, hsame.mono (by decide) (by decide)⟩
  · show Steps p.tables e below (T2.setTop (mkF m 19 #[.val (.ref a0), .val (.long q1), .second, .val (.long (q1 + ln)), .second] [(.int (0 : Int32))])) _
    exact retN X2 hx (t := .boolean) Bd.returns (by simp) (hb hby d7_19) hr
  · show QN Z _ _ _ _ h0 n0 _ T2.heap _
    rw [e2]
    exact ⟨rfl, N0, rfl⟩
theorem pn_2 : plainName "com/example/cluster_log/clusterlog/LeaseRenewPinLaw" = true := by first | (simp [plainName, overriddenIn]; done) | decide +kernel
theorem d8_0 : decode method_2_code 0 = .ok (.lload_n 0, 1) := by decide +kernel
theorem d8_1 : decode method_2_code 1 = .ok (.lload_n 2, 1) := by decide +kernel
theorem d8_2 : decode method_2_code 2 = .ok (.lsub, 1) := by decide +kernel
theorem d8_3 : decode method_2_code 3 = .ok (.lconst 0, 1) := by decide +kernel
theorem d8_4 : decode method_2_code 4 = .ok (.lcmp, 1) := by decide +kernel
theorem d8_5 : decode method_2_code 5 = .ok (.ifCond .le 7, 3) := by decide +kernel
theorem d8_8 : decode method_2_code 8 = .ok (.iconst 1, 1) := by decide +kernel
theorem d8_9 : decode method_2_code 9 = .ok (.goto 4, 3) := by decide +kernel
theorem d8_12 : decode method_2_code 12 = .ok (.iconst 0, 1) := by decide +kernel
theorem d8_13 : decode method_2_code 13 = .ok (.ireturn, 1) := by decide +kernel
theorem ef_8 (m : MethodId) (x0 : Int64) (x1 : Int64)  : entryFrame m #[(.long x0), (.long x1)] 4 = mkF m 0 #[.val (.long x0), .second, .val (.long x1), .second] [] := by first | (simp [entryFrame, mkF, argsToLocals, Value.category]; done) | rfl
def Q8 (Z : State) (q0 : Int64) (q1 : Int64) (h0 : Heap) (n0 : Nat) (v : Option Value) (h : Heap) (L : List Loc) : Prop := (∃ r : Int32, v = some (.int r) ∧ (((0 : Int64) < (q0 - q1) → (1 : Int32) = r) ∧ (¬ (0 : Int64) < (q0 - q1) → (0 : Int32) = r))) ∧ Fr n0 L ∧ h = h0
set_option maxRecDepth 65536 in
set_option maxHeartbeats 40000000 in
theorem rm8 (l : Launch) (Z : State) (aw : Array Value) (hw : ∀ d ∈ tables_1, d.before aw Z = true) (ws : List Jvm.Cond) (q0 : Int64) (q1 : Int64) (h0 : Heap) (n0 : Nat) (Z0 : n0 ≤ h0.size) :
    MetFree l (⟨"com/example/cluster_log/clusterlog/LeaseRenewPinLaw", "later", "(JJ)Z"⟩ : MethodName) (head1 (Jvm.Cond.code (⟨"com/example/cluster_log/clusterlog/LeaseRenewPinLaw", "later", "(JJ)Z"⟩ : MethodName) method_2_code 4 (some .boolean) :: ws) ({ frames := 0, cells := 0, slots := 0, locals := 0 } : Room)) (fun a U => a = #[(.long q0), (.long q1)] ∧ Z.Warmed39 U.vm ∧ U.heap = h0) (fun _ _ _ _ _ => True) (fun _ U o U' => ∃ v L, o = .returned v ∧ Q8 Z q0 q1 h0 n0 v U'.heap L ∧ FrameEnd U o U' L ({ frames := 0, cells := 0, slots := 0, locals := 0 } : Room).cells ({ frames := 0, cells := 0, slots := 0, locals := 0 } : Room).slots) := by
  refine MetFree.of_bodySF (plainFor_of_name pn_2) hisR ?_
  intro p e s m args below meth c s₁ Bd hml0 hP hK
  obtain ⟨rfl, hZ, hh⟩ := hP
  have hx := Bd.exec
  have hby := Bd.bytes
  have hml : c.maxLocals = 4 := hml0
  have hown : s.vm.findClass "com/example/cluster_log/clusterlog/LeaseRenewPinLaw" = some m.cls := findClass_of_methodNamed Bd.named
  have hnm := (name_of_methodNamed Bd.named Bd.method).1
  have X0 : Stand p l e ({ frames := 0, cells := 0, slots := 0, locals := 0 } : Room) s m #[(.long q0), (.long q1)] below meth c s₁ [] 0 0 := Stand.of_body Bd
  have e0 : s₁.heap = h0 := by rw [← hh, Bd.state]; rfl
  have N0 := Fr.nil n0
  have pre0 : ∀ t, Steps p.tables e below (s₁.setTop (mkF m 0 #[.val (.long q0), .second, .val (.long q1), .second] [])) t → Steps p.tables e below (s₁.setTop (entryFrame m #[(.long q0), (.long q1)] 4)) t := fun t k => castTop (ef_8 m q0 q1 ) k
  have pre1 : ∀ t, Steps p.tables e below (s₁.setTop (mkF m 5 #[.val (.long q0), .second, .val (.long q1), .second] [(.int (lcmpW (q0 - q1) (0 : Int64)))])) t → Steps p.tables e below (s₁.setTop (entryFrame m #[(.long q0), (.long q1)] 4)) t := fun t kt => pre0 t (by
      show Steps p.tables e below (s₁.setTop (mkF m 0 #[.val (.long q0), .second, .val (.long q1), .second] [])) _
      refine XS.lloadN X0.here hx rfl (hb hby d8_0) rfl ?_
      show Steps p.tables e below (s₁.setTop (mkF m 1 #[.val (.long q0), .second, .val (.long q1), .second] [(.long q0)])) _
      refine XS.lloadN X0.here hx rfl (hb hby d8_1) rfl ?_
      show Steps p.tables e below (s₁.setTop (mkF m 2 #[.val (.long q0), .second, .val (.long q1), .second] [(.long q1), (.long q0)])) _
      refine XS.lsub X0.here hx rfl (hb hby d8_2) rfl ?_
      show Steps p.tables e below (s₁.setTop (mkF m 3 #[.val (.long q0), .second, .val (.long q1), .second] [(.long (q0 - q1))])) _
      refine XS.lconst X0.here hx rfl (hb hby d8_3) ?_
      show Steps p.tables e below (s₁.setTop (mkF m 4 #[.val (.long q0), .second, .val (.long q1), .second] [(.long (0 : Int64)), (.long (q0 - q1))])) _
      refine XS.lcmp X0.here hx rfl (hb hby d8_4) rfl ?_
      exact kt)
  by_cases hc2 : (0 : Int32) < (lcmpW (q0 - q1) (0 : Int64))
  · skip
    have pre3 : ∀ t, Steps p.tables e below (s₁.setTop (mkF m 13 #[.val (.long q0), .second, .val (.long q1), .second] [(.int (1 : Int32))])) t → Steps p.tables e below (s₁.setTop (entryFrame m #[(.long q0), (.long q1)] 4)) t := fun t kt => pre1 t (by
        show Steps p.tables e below (s₁.setTop (mkF m 5 #[.val (.long q0), .second, .val (.long q1), .second] [(.int (lcmpW (q0 - q1) (0 : Int64)))])) _
        refine XS.ifNo X0.here hx rfl (hb hby d8_5) rfl ((if0 _ _).trans (tlt hc2).2.2.2) ?_
        show Steps p.tables e below (s₁.setTop (mkF m 8 #[.val (.long q0), .second, .val (.long q1), .second] [])) _
        refine XS.iconst X0.here hx rfl (hb hby d8_8) ?_
        show Steps p.tables e below (s₁.setTop (mkF m 9 #[.val (.long q0), .second, .val (.long q1), .second] [(.int (1 : Int32))])) _
        refine XS.goto X0.here hx rfl (pc0 := 9) (pc' := 13) rfl (hb hby d8_9) (by decide) (by decide) ?_
        exact kt)
    obtain ⟨fs, hr, hrun, hended, hW, hsame⟩ := X0.leave (v := some (.int (1 : Int32))) (fun h => by rw [Bd.returns] at h; cases h)
    refine ⟨_, _, pre3 _ ?_, hrun, hended, _, _, rfl, ?_, ⟨_, rfl⟩, hW, hsame.mono (by decide) (by decide)⟩
    · show Steps p.tables e below (s₁.setTop (mkF m 13 #[.val (.long q0), .second, .val (.long q1), .second] [(.int (1 : Int32))])) _
      exact retN X0 hx (t := .boolean) Bd.returns (by simp) (hb hby d8_13) hr
    · show Q8 Z _ _ h0 n0 _ s₁.heap _
      rw [e0]
      exact ⟨⟨_, rfl, ⟨fun _ => rfl, fun z => absurd ((lw_gt _ _).mp hc2) z⟩⟩, N0, rfl⟩
  · skip
    have pre4 : ∀ t, Steps p.tables e below (s₁.setTop (mkF m 13 #[.val (.long q0), .second, .val (.long q1), .second] [(.int (0 : Int32))])) t → Steps p.tables e below (s₁.setTop (entryFrame m #[(.long q0), (.long q1)] 4)) t := fun t kt => pre1 t (by
        show Steps p.tables e below (s₁.setTop (mkF m 5 #[.val (.long q0), .second, .val (.long q1), .second] [(.int (lcmpW (q0 - q1) (0 : Int64)))])) _
        refine XS.ifYes X0.here hx rfl (pc0 := 5) (pc' := 12) rfl (hb hby d8_5) rfl ((if0 _ _).trans (flt hc2).2.2.2) (by decide) (by decide) ?_
        show Steps p.tables e below (s₁.setTop (mkF m 12 #[.val (.long q0), .second, .val (.long q1), .second] [])) _
        refine XS.iconst X0.here hx rfl (hb hby d8_12) ?_
        exact kt)
    obtain ⟨fs, hr, hrun, hended, hW, hsame⟩ := X0.leave (v := some (.int (0 : Int32))) (fun h => by rw [Bd.returns] at h; cases h)
    refine ⟨_, _, pre4 _ ?_, hrun, hended, _, _, rfl, ?_, ⟨_, rfl⟩, hW, hsame.mono (by decide) (by decide)⟩
    · show Steps p.tables e below (s₁.setTop (mkF m 13 #[.val (.long q0), .second, .val (.long q1), .second] [(.int (0 : Int32))])) _
      exact retN X0 hx (t := .boolean) Bd.returns (by simp) (hb hby d8_13) hr
    · show Q8 Z _ _ h0 n0 _ s₁.heap _
      rw [e0]
      exact ⟨⟨_, rfl, ⟨fun z => absurd ((lw_gt _ _).mpr z) hc2, fun _ => rfl⟩⟩, N0, rfl⟩
theorem pd_2 : parseMethodDescriptor "(IJ)V" = some ⟨[.int, .long], none⟩ := by decide +kernel
theorem pd_3 : parseMethodDescriptor "()J" = some ⟨[], some .long⟩ := by decide +kernel
theorem pd_4 : parseMethodDescriptor "(J)Z" = some ⟨[.long], some .boolean⟩ := by decide +kernel
theorem pd_5 : parseMethodDescriptor "(JJ)Z" = some ⟨[.long, .long], some .boolean⟩ := by decide +kernel
theorem ef_0 (m : MethodId) (x0 : Int32) (x1 : Int64) (x2 : Int64) (x3 : Int64) (x4 : Int64) (x5 : Int32)  : entryFrame m #[(.int x0), (.long x1), (.long x2), (.long x3), (.long x4), (.int x5)] maxLocals = mkF m 0 #[.val (.int x0), .val (.long x1), .second, .val (.long x2), .second, .val (.long x3), .second, .val (.long x4), .second, .val (.int x5), .unset, .unset, .unset, .unset, .unset, .unset, .unset, .unset, .unset, .unset, .unset, .unset, .unset, .unset, .unset, .unset, .unset, .unset, .unset, .unset, .unset, .unset, .unset] [] := by first | (simp [entryFrame, mkF, argsToLocals, Value.category, maxLocals]; done) | rfl
def Q0 (Z : State) (p0 : Int32) (q1 : Int64) (q2 : Int64) (q3 : Int64) (q4 : Int64) (p5 : Int32) (w_MILLISECONDS_1 : Addr) (w_name_3 : Addr) (h0 : Heap) (n0 : Nat) (v : Option Value) (h : Heap) (L : List Loc) : Prop := v = some (.int (1 : Int32)) ∧ Fr n0 L ∧ (True)
set_option maxRecDepth 65536 in
set_option maxHeartbeats 40000000 in
theorem rm0 (l : Launch) (Z : State) (aw : Array Value) (hw : ∀ d ∈ tables_1, d.before aw Z = true) (ws : List Jvm.Cond) (p0 : Int32) (q1 : Int64) (q2 : Int64) (q3 : Int64) (q4 : Int64) (p5 : Int32) (w_MILLISECONDS_1 : Addr) (w_name_3 : Addr) (h0 : Heap) (n0 : Nat) (Z0 : n0 ≤ h0.size) (S_MILLISECONDS_0 : Sta Z h0 "java/util/concurrent/TimeUnit" "MILLISECONDS" "Ljava/util/concurrent/TimeUnit;" (.ref w_MILLISECONDS_1)) (E_1 : Exa Z h0 w_MILLISECONDS_1 "java/util/concurrent/TimeUnit") (F_name_2 : Fld Z h0 w_MILLISECONDS_1 "java/lang/Enum" "name" "Ljava/lang/String;" (.ref w_name_3)) (E_3 : Exa Z h0 w_name_3 "java/lang/String") (F_ordinal_4 : Fld Z h0 w_MILLISECONDS_1 "java/lang/Enum" "ordinal" "I" (.int (2 : Int32))) (F_scale_5 : Fld Z h0 w_MILLISECONDS_1 "java/util/concurrent/TimeUnit" "scale" "J" (.long (1000000 : Int64))) (F_maxNanos_6 : Fld Z h0 w_MILLISECONDS_1 "java/util/concurrent/TimeUnit" "maxNanos" "J" (.long (9223372036854 : Int64))) (F_microRatio_7 : Fld Z h0 w_MILLISECONDS_1 "java/util/concurrent/TimeUnit" "microRatio" "J" (.long (1000 : Int64))) (F_maxMicros_8 : Fld Z h0 w_MILLISECONDS_1 "java/util/concurrent/TimeUnit" "maxMicros" "J" (.long (9223372036854775 : Int64))) (F_milliRatio_9 : Fld Z h0 w_MILLISECONDS_1 "java/util/concurrent/TimeUnit" "milliRatio" "I" (.int (1 : Int32))) (F_maxMillis_10 : Fld Z h0 w_MILLISECONDS_1 "java/util/concurrent/TimeUnit" "maxMillis" "J" (.long (9223372036854775807 : Int64))) (F_secRatio_11 : Fld Z h0 w_MILLISECONDS_1 "java/util/concurrent/TimeUnit" "secRatio" "I" (.int (1000 : Int32))) (F_maxSecs_12 : Fld Z h0 w_MILLISECONDS_1 "java/util/concurrent/TimeUnit" "maxSecs" "J" (.long (9223372036854775 : Int64))) :
    MetFree l x (head1 (Jvm.Cond.code x code maxLocals ret :: ws) room_1) (fun a U => a = #[(.int p0), (.long q1), (.long q2), (.long q3), (.long q4), (.int p5)] ∧ Z.Warmed39 U.vm ∧ U.heap = h0) (fun _ _ _ _ _ => True) (fun _ U o U' => ∃ v L, o = .returned v ∧ Q0 Z p0 q1 q2 q3 q4 p5 w_MILLISECONDS_1 w_name_3 h0 n0 v U'.heap L ∧ FrameEnd U o U' L room_1.cells room_1.slots) := by
  refine MetFree.of_bodySF (plainFor_of_name pn_2) hisR ?_
  intro p e s m args below meth c s₁ Bd hml0 hP hK
  obtain ⟨rfl, hZ, hh⟩ := hP
  have hx := Bd.exec
  have hby := Bd.bytes
  have hml : c.maxLocals = 33 := hml0
  have hown : s.vm.findClass "com/example/cluster_log/clusterlog/LeaseRenewPinLaw" = some m.cls := findClass_of_methodNamed Bd.named
  have hnm := (name_of_methodNamed Bd.named Bd.method).1
  have X0 : Stand p l e room_1 s m #[(.int p0), (.long q1), (.long q2), (.long q3), (.long q4), (.int p5)] below meth c s₁ [] 0 0 := Stand.of_body Bd
  have e0 : s₁.heap = h0 := by rw [← hh, Bd.state]; rfl
  have N0 := Fr.nil n0
  have pre0 : ∀ t, Steps p.tables e below (s₁.setTop (mkF m 0 #[.val (.int p0), .val (.long q1), .second, .val (.long q2), .second, .val (.long q3), .second, .val (.long q4), .second, .val (.int p5), .unset, .unset, .unset, .unset, .unset, .unset, .unset, .unset, .unset, .unset, .unset, .unset, .unset, .unset, .unset, .unset, .unset, .unset, .unset, .unset, .unset, .unset, .unset] [])) t → Steps p.tables e below (s₁.setTop (entryFrame m #[(.int p0), (.long q1), (.long q2), (.long q3), (.long q4), (.int p5)] maxLocals)) t := fun t k => castTop (ef_0 m p0 q1 q2 q3 q4 p5 ) k
  obtain ⟨T1, h1, X1, e1, E1, A1, D1, -, st1⟩ := newO X0 hx hZ hown (hw _ (List.mem_of_getElem? (i := 0) rfl)) (hw _ (List.mem_of_getElem? (i := 1) rfl)) (hw _ (List.mem_of_getElem? (i := 2) rfl)) e0 (g := (mkF m 0 #[.val (.int p0), .val (.long q1), .second, .val (.long q2), .second, .val (.long q3), .second, .val (.long q4), .second, .val (.int p5), .unset, .unset, .unset, .unset, .unset, .unset, .unset, .unset, .unset, .unset, .unset, .unset, .unset, .unset, .unset, .unset, .unset, .unset, .unset, .unset, .unset, .unset, .unset] [])) rfl (hb hby at_0) (by decide) (by decide)
  obtain ⟨b1, g1⟩ : ∃ z, z = h0.size := ⟨_, rfl⟩
  rw [← g1] at A1 D1 st1
  have f2 := (S_MILLISECONDS_0.ext E1)
  have f3 := (E_1.ext E1)
  have f4 := (F_name_2.ext E1)
  have f5 := (E_3.ext E1)
  have f6 := (F_ordinal_4.ext E1)
  have f7 := (F_scale_5.ext E1)
  have f8 := (F_maxNanos_6.ext E1)
  have f9 := (F_microRatio_7.ext E1)
  have f10 := (F_maxMicros_8.ext E1)
  have f11 := (F_milliRatio_9.ext E1)
  have f12 := (F_maxMillis_10.ext E1)
  have f13 := (F_secRatio_11.ext E1)
  have f14 := (F_maxSecs_12.ext E1)
  have ne15 : w_MILLISECONDS_1 ≠ b1 := Nat.ne_of_lt (Nat.lt_of_lt_of_le E_1.lt (Nat.le_of_eq g1.symm))
  have ne16 : w_name_3 ≠ b1 := Nat.ne_of_lt (Nat.lt_of_lt_of_le E_3.lt (Nat.le_of_eq g1.symm))
  have ge_b1 : n0 ≤ b1 := Nat.le_trans Z0 (Nat.le_of_eq g1.symm)
  have sz_b1 : h0.size ≤ b1 := Nat.le_trans (Keep.refl h0 []).1 (Nat.le_of_eq g1.symm)
  have K1 : Keep h0 h1 [] := Keep.ext (Keep.refl h0 []) E1
  have F1_length : Fld Z h1 b1 "com/example/cluster_log/clusterlog/Lease" "length" "J" (.long (0 : Int64)) := D1 (Or.inr (hw _ (List.mem_of_getElem? (i := 23) rfl))) (ty := .long) (by decide)
  have F1_heartbeatMs : Fld Z h1 b1 "com/example/cluster_log/clusterlog/Lease" "heartbeatMs" "J" (.long (0 : Int64)) := D1 (Or.inr (hw _ (List.mem_of_getElem? (i := 29) rfl))) (ty := .long) (by decide)
  have F1_end : Fld Z h1 b1 "com/example/cluster_log/clusterlog/Lease" "end" "J" (.long (0 : Int64)) := D1 (Or.inl (hw _ (List.mem_of_getElem? (i := 31) rfl))) (ty := .long) (by decide)
  obtain ⟨_, _, ⟨T17, L17, k17, n17⟩, -, X17, ⟨Lc17, hQ17, l17, y17, z17⟩, st17⟩ := X1.specialBack hx (y := (⟨"com/example/cluster_log/clusterlog/Lease", "<init>", "(IJ)V"⟩ : MethodName)) rfl hown (mvT hZ (hw _ (List.mem_of_getElem? (i := 3) rfl))) (mvT hZ (hw _ (List.mem_of_getElem? (i := 4) rfl))) (mvT hZ (hw _ (List.mem_of_getElem? (i := 5) rfl))) (by decide) (backOf (W := 1) (rm1 l Z aw hw [] b1 p0 q1 w_MILLISECONDS_1 (.long (0 : Int64)) (.long (0 : Int64)) (.long (0 : Int64)) h1 n0 (Nat.le_trans Z0 E1.1) f2 f7 f8 f3 A1 F1_length ge_b1 F1_heartbeatMs F1_end) hZ (hw _ (List.mem_of_getElem? (i := 5) rfl)) (hw _ (List.mem_of_getElem? (i := 2) rfl)) (by decide) (by decide)) (g := (mkF m 6 #[.val (.int p0), .val (.long q1), .second, .val (.long q2), .second, .val (.long q3), .second, .val (.long q4), .second, .val (.int p5), .unset, .unset, .unset, .unset, .unset, .unset, .unset, .unset, .unset, .unset, .unset, .unset, .unset, .unset, .unset, .unset, .unset, .unset, .unset, .unset, .unset, .unset, .unset] [(.long q1), (.int p0), (.ref b1), (.ref b1)])) rfl (by rw [hml]; rfl) (Steps.refl _) (a := b1) (argsL := [(.int p0), (.long q1)]) (rest := [(.ref b1)]) (lenOf pd_2 rfl) rfl (by show 2 * 0 + _ ≤ _; exact Nat.le_of_eq rfl) (hb hby at_6) (fun _ _ => ⟨rfl, e1, (by decide : 1 + 0 ≤ _), (by decide : 3 + 0 ≤ _)⟩)
  dsimp only [Pt.U, Pt.locs, Pt.cells, Pt.slots] at X17 l17 y17 z17 st17 hQ17
  subst l17 y17 z17
  obtain ⟨rfl, Nq17, c17_0, c17_1, c17_2, c17_3⟩ := hQ17
  have N17 := Fr.app N0 Nq17
  have f18 := (own_sta_keep f2 c17_0 (allS (own_exa_ns A1) all0))
  have f19 := (f3.keep c17_0)
  have f20 := (f4.keep c17_0 (ninS ne15 nin0))
  have f21 := (f5.keep c17_0)
  have f22 := (f6.keep c17_0 (ninS ne15 nin0))
  have f23 := (f7.keep c17_0 (ninS ne15 nin0))
  have f24 := (f8.keep c17_0 (ninS ne15 nin0))
  have f25 := (f9.keep c17_0 (ninS ne15 nin0))
  have f26 := (f10.keep c17_0 (ninS ne15 nin0))
  have f27 := (f11.keep c17_0 (ninS ne15 nin0))
  have f28 := (f12.keep c17_0 (ninS ne15 nin0))
  have f29 := (f13.keep c17_0 (ninS ne15 nin0))
  have f30 := (f14.keep c17_0 (ninS ne15 nin0))
  have f31 := (A1.keep c17_0)
  have K32 : Keep h0 T17.heap [] := Keep.trans K1 c17_0 (allS (Or.inr sz_b1) all0)
  obtain ⟨cq33, kq33, q33a, q33b, q33c⟩ := isOf hZ rfl c17_1
  obtain ⟨_, _, ⟨T33, L33, k33, n33⟩, -, X33, ⟨Lc33, hQ33, l33, y33, z33⟩, st33⟩ := X17.virtualBack hx (y := (⟨"com/example/cluster_log/clusterlog/Lease", "length", "()J"⟩ : MethodName)) (z := (⟨"com/example/cluster_log/clusterlog/Lease", "length", "()J"⟩ : MethodName)) hown (mvT hZ (hw _ (List.mem_of_getElem? (i := 32) rfl))) (mvT hZ (hw _ (List.mem_of_getElem? (i := 33) rfl))) (notFace_of_selects (args := #[]) (mvT hZ (hw _ (List.mem_of_getElem? (i := 35) rfl)))) (mvT hZ (hw _ (List.mem_of_getElem? (i := 35) rfl))) (mvT hZ (hw _ (List.mem_of_getElem? (i := 34) rfl))) (by decide) (backOf (W := 0) (rm5 l Z aw hw [] b1 ((((p0.toInt64) * (1000000 : Int64)) * (9 : Int64)) / (10 : Int64)) T17.heap n0 (Nat.le_trans (Nat.le_trans Z0 E1.1) c17_0.1) c17_2) hZ (hw _ (List.mem_of_getElem? (i := 36) rfl)) (hw _ (List.mem_of_getElem? (i := 2) rfl)) (by decide) (by decide)) q33a q33c (g := (mkF m 13 #[.val (.int p0), .val (.long q1), .second, .val (.long q2), .second, .val (.long q3), .second, .val (.long q4), .second, .val (.int p5), .val (.ref b1), .unset, .unset, .unset, .unset, .unset, .unset, .unset, .unset, .unset, .unset, .unset, .unset, .unset, .unset, .unset, .unset, .unset, .unset, .unset, .unset, .unset, .unset] [(.ref b1)])) rfl (by rw [hml]; rfl) (Steps.refl _) (argsL := []) (rest := []) (lenOf pd_3 rfl) rfl (by show 2 * 0 + _ ≤ _; exact Nat.le_of_eq rfl) (hb hby at_13) (fun _ _ => ⟨rfl, rfl, (by decide : 1 + 0 ≤ _), (by decide : 3 + 0 ≤ _)⟩)
  dsimp only [Pt.U, Pt.locs, Pt.cells, Pt.slots] at X33 l33 y33 z33 st33 hQ33
  subst l33 y33 z33
  obtain ⟨rfl, Nq33, e33⟩ := hQ33
  have N33 := Fr.app N17 Nq33
  have pre34 : ∀ t, Steps p.tables e below (T33.setTop (mkF m 29 #[.val (.int p0), .val (.long q1), .second, .val (.long q2), .second, .val (.long q3), .second, .val (.long q4), .second, .val (.int p5), .val (.ref b1), .val (.long ((((p0.toInt64) * (1000000 : Int64)) * (9 : Int64)) / (10 : Int64))), .second, .val (.long ((((p5 >>> ((2 : Int32) &&& 31)) % (3 : Int32)).toInt64) - (1 : Int64))), .second, .unset, .unset, .unset, .unset, .unset, .unset, .unset, .unset, .unset, .unset, .unset, .unset, .unset, .unset, .unset, .unset, .unset, .unset] [])) t → Steps p.tables e below (s₁.setTop (entryFrame m #[(.int p0), (.long q1), (.long q2), (.long q3), (.long q4), (.int p5)] maxLocals)) t := fun t kt => pre0 t (by
      show Steps p.tables e below (s₁.setTop (mkF m 0 #[.val (.int p0), .val (.long q1), .second, .val (.long q2), .second, .val (.long q3), .second, .val (.long q4), .second, .val (.int p5), .unset, .unset, .unset, .unset, .unset, .unset, .unset, .unset, .unset, .unset, .unset, .unset, .unset, .unset, .unset, .unset, .unset, .unset, .unset, .unset, .unset, .unset, .unset] [])) _
      refine st1 _ ?_
      show Steps p.tables e below (T1.setTop (mkF m 3 #[.val (.int p0), .val (.long q1), .second, .val (.long q2), .second, .val (.long q3), .second, .val (.long q4), .second, .val (.int p5), .unset, .unset, .unset, .unset, .unset, .unset, .unset, .unset, .unset, .unset, .unset, .unset, .unset, .unset, .unset, .unset, .unset, .unset, .unset, .unset, .unset, .unset, .unset] [(.ref b1)])) _
      refine XS.dup X1.here hx rfl (hb hby at_3) rfl rfl ?_
      show Steps p.tables e below (T1.setTop (mkF m 4 #[.val (.int p0), .val (.long q1), .second, .val (.long q2), .second, .val (.long q3), .second, .val (.long q4), .second, .val (.int p5), .unset, .unset, .unset, .unset, .unset, .unset, .unset, .unset, .unset, .unset, .unset, .unset, .unset, .unset, .unset, .unset, .unset, .unset, .unset, .unset, .unset, .unset, .unset] [(.ref b1), (.ref b1)])) _
      refine XS.iloadN X1.here hx rfl (hb hby at_4) rfl ?_
      show Steps p.tables e below (T1.setTop (mkF m 5 #[.val (.int p0), .val (.long q1), .second, .val (.long q2), .second, .val (.long q3), .second, .val (.long q4), .second, .val (.int p5), .unset, .unset, .unset, .unset, .unset, .unset, .unset, .unset, .unset, .unset, .unset, .unset, .unset, .unset, .unset, .unset, .unset, .unset, .unset, .unset, .unset, .unset, .unset] [(.int p0), (.ref b1), (.ref b1)])) _
      refine XS.lloadN X1.here hx rfl (hb hby at_5) rfl ?_
      show Steps p.tables e below (T1.setTop (mkF m 6 #[.val (.int p0), .val (.long q1), .second, .val (.long q2), .second, .val (.long q3), .second, .val (.long q4), .second, .val (.int p5), .unset, .unset, .unset, .unset, .unset, .unset, .unset, .unset, .unset, .unset, .unset, .unset, .unset, .unset, .unset, .unset, .unset, .unset, .unset, .unset, .unset, .unset, .unset] [(.long q1), (.int p0), (.ref b1), (.ref b1)])) _
      refine st17.trans ?_
      show Steps p.tables e below (T17.setTop (mkF m 9 #[.val (.int p0), .val (.long q1), .second, .val (.long q2), .second, .val (.long q3), .second, .val (.long q4), .second, .val (.int p5), .unset, .unset, .unset, .unset, .unset, .unset, .unset, .unset, .unset, .unset, .unset, .unset, .unset, .unset, .unset, .unset, .unset, .unset, .unset, .unset, .unset, .unset, .unset] [(.ref b1)])) _
      refine XS.astore X17.here hx rfl (hb hby at_9) rfl rfl (l' := #[.val (.int p0), .val (.long q1), .second, .val (.long q2), .second, .val (.long q3), .second, .val (.long q4), .second, .val (.int p5), .val (.ref b1), .unset, .unset, .unset, .unset, .unset, .unset, .unset, .unset, .unset, .unset, .unset, .unset, .unset, .unset, .unset, .unset, .unset, .unset, .unset, .unset, .unset, .unset]) rfl ?_
      show Steps p.tables e below (T17.setTop (mkF m 11 #[.val (.int p0), .val (.long q1), .second, .val (.long q2), .second, .val (.long q3), .second, .val (.long q4), .second, .val (.int p5), .val (.ref b1), .unset, .unset, .unset, .unset, .unset, .unset, .unset, .unset, .unset, .unset, .unset, .unset, .unset, .unset, .unset, .unset, .unset, .unset, .unset, .unset, .unset, .unset] [])) _
      refine XS.aload X17.here hx rfl (hb hby at_11) rfl rfl ?_
      show Steps p.tables e below (T17.setTop (mkF m 13 #[.val (.int p0), .val (.long q1), .second, .val (.long q2), .second, .val (.long q3), .second, .val (.long q4), .second, .val (.int p5), .val (.ref b1), .unset, .unset, .unset, .unset, .unset, .unset, .unset, .unset, .unset, .unset, .unset, .unset, .unset, .unset, .unset, .unset, .unset, .unset, .unset, .unset, .unset, .unset] [(.ref b1)])) _
      refine st33.trans ?_
      show Steps p.tables e below (T33.setTop (mkF m 16 #[.val (.int p0), .val (.long q1), .second, .val (.long q2), .second, .val (.long q3), .second, .val (.long q4), .second, .val (.int p5), .val (.ref b1), .unset, .unset, .unset, .unset, .unset, .unset, .unset, .unset, .unset, .unset, .unset, .unset, .unset, .unset, .unset, .unset, .unset, .unset, .unset, .unset, .unset, .unset] [(.long ((((p0.toInt64) * (1000000 : Int64)) * (9 : Int64)) / (10 : Int64)))])) _
      refine XS.lstore X33.here hx rfl (hb hby at_16) rfl (l' := #[.val (.int p0), .val (.long q1), .second, .val (.long q2), .second, .val (.long q3), .second, .val (.long q4), .second, .val (.int p5), .val (.ref b1), .val (.long ((((p0.toInt64) * (1000000 : Int64)) * (9 : Int64)) / (10 : Int64))), .second, .unset, .unset, .unset, .unset, .unset, .unset, .unset, .unset, .unset, .unset, .unset, .unset, .unset, .unset, .unset, .unset, .unset, .unset, .unset, .unset]) rfl ?_
      show Steps p.tables e below (T33.setTop (mkF m 18 #[.val (.int p0), .val (.long q1), .second, .val (.long q2), .second, .val (.long q3), .second, .val (.long q4), .second, .val (.int p5), .val (.ref b1), .val (.long ((((p0.toInt64) * (1000000 : Int64)) * (9 : Int64)) / (10 : Int64))), .second, .unset, .unset, .unset, .unset, .unset, .unset, .unset, .unset, .unset, .unset, .unset, .unset, .unset, .unset, .unset, .unset, .unset, .unset, .unset, .unset] [])) _
      refine XS.iload X33.here hx rfl (hb hby at_18) rfl ?_
      show Steps p.tables e below (T33.setTop (mkF m 20 #[.val (.int p0), .val (.long q1), .second, .val (.long q2), .second, .val (.long q3), .second, .val (.long q4), .second, .val (.int p5), .val (.ref b1), .val (.long ((((p0.toInt64) * (1000000 : Int64)) * (9 : Int64)) / (10 : Int64))), .second, .unset, .unset, .unset, .unset, .unset, .unset, .unset, .unset, .unset, .unset, .unset, .unset, .unset, .unset, .unset, .unset, .unset, .unset, .unset, .unset] [(.int p5)])) _
      refine XS.iconst X33.here hx rfl (hb hby at_20) ?_
      show Steps p.tables e below (T33.setTop (mkF m 21 #[.val (.int p0), .val (.long q1), .second, .val (.long q2), .second, .val (.long q3), .second, .val (.long q4), .second, .val (.int p5), .val (.ref b1), .val (.long ((((p0.toInt64) * (1000000 : Int64)) * (9 : Int64)) / (10 : Int64))), .second, .unset, .unset, .unset, .unset, .unset, .unset, .unset, .unset, .unset, .unset, .unset, .unset, .unset, .unset, .unset, .unset, .unset, .unset, .unset, .unset] [(.int (2 : Int32)), (.int p5)])) _
      refine XS.ishr X33.here hx rfl (hb hby at_21) rfl ?_
      show Steps p.tables e below (T33.setTop (mkF m 22 #[.val (.int p0), .val (.long q1), .second, .val (.long q2), .second, .val (.long q3), .second, .val (.long q4), .second, .val (.int p5), .val (.ref b1), .val (.long ((((p0.toInt64) * (1000000 : Int64)) * (9 : Int64)) / (10 : Int64))), .second, .unset, .unset, .unset, .unset, .unset, .unset, .unset, .unset, .unset, .unset, .unset, .unset, .unset, .unset, .unset, .unset, .unset, .unset, .unset, .unset] [(.int (p5 >>> ((2 : Int32) &&& 31)))])) _
      refine XS.iconst X33.here hx rfl (hb hby at_22) ?_
      show Steps p.tables e below (T33.setTop (mkF m 23 #[.val (.int p0), .val (.long q1), .second, .val (.long q2), .second, .val (.long q3), .second, .val (.long q4), .second, .val (.int p5), .val (.ref b1), .val (.long ((((p0.toInt64) * (1000000 : Int64)) * (9 : Int64)) / (10 : Int64))), .second, .unset, .unset, .unset, .unset, .unset, .unset, .unset, .unset, .unset, .unset, .unset, .unset, .unset, .unset, .unset, .unset, .unset, .unset, .unset, .unset] [(.int (3 : Int32)), (.int (p5 >>> ((2 : Int32) &&& 31)))])) _
      refine iremM X33 hx rfl (hb hby at_23) rfl (by decide) ?_
      show Steps p.tables e below (T33.setTop (mkF m 24 #[.val (.int p0), .val (.long q1), .second, .val (.long q2), .second, .val (.long q3), .second, .val (.long q4), .second, .val (.int p5), .val (.ref b1), .val (.long ((((p0.toInt64) * (1000000 : Int64)) * (9 : Int64)) / (10 : Int64))), .second, .unset, .unset, .unset, .unset, .unset, .unset, .unset, .unset, .unset, .unset, .unset, .unset, .unset, .unset, .unset, .unset, .unset, .unset, .unset, .unset] [(.int ((p5 >>> ((2 : Int32) &&& 31)) % (3 : Int32)))])) _
      refine XS.i2l X33.here hx rfl (hb hby at_24) rfl ?_
      show Steps p.tables e below (T33.setTop (mkF m 25 #[.val (.int p0), .val (.long q1), .second, .val (.long q2), .second, .val (.long q3), .second, .val (.long q4), .second, .val (.int p5), .val (.ref b1), .val (.long ((((p0.toInt64) * (1000000 : Int64)) * (9 : Int64)) / (10 : Int64))), .second, .unset, .unset, .unset, .unset, .unset, .unset, .unset, .unset, .unset, .unset, .unset, .unset, .unset, .unset, .unset, .unset, .unset, .unset, .unset, .unset] [(.long (((p5 >>> ((2 : Int32) &&& 31)) % (3 : Int32)).toInt64))])) _
      refine XS.lconst X33.here hx rfl (hb hby at_25) ?_
      show Steps p.tables e below (T33.setTop (mkF m 26 #[.val (.int p0), .val (.long q1), .second, .val (.long q2), .second, .val (.long q3), .second, .val (.long q4), .second, .val (.int p5), .val (.ref b1), .val (.long ((((p0.toInt64) * (1000000 : Int64)) * (9 : Int64)) / (10 : Int64))), .second, .unset, .unset, .unset, .unset, .unset, .unset, .unset, .unset, .unset, .unset, .unset, .unset, .unset, .unset, .unset, .unset, .unset, .unset, .unset, .unset] [(.long (1 : Int64)), (.long (((p5 >>> ((2 : Int32) &&& 31)) % (3 : Int32)).toInt64))])) _
      refine XS.lsub X33.here hx rfl (hb hby at_26) rfl ?_
      show Steps p.tables e below (T33.setTop (mkF m 27 #[.val (.int p0), .val (.long q1), .second, .val (.long q2), .second, .val (.long q3), .second, .val (.long q4), .second, .val (.int p5), .val (.ref b1), .val (.long ((((p0.toInt64) * (1000000 : Int64)) * (9 : Int64)) / (10 : Int64))), .second, .unset, .unset, .unset, .unset, .unset, .unset, .unset, .unset, .unset, .unset, .unset, .unset, .unset, .unset, .unset, .unset, .unset, .unset, .unset, .unset] [(.long ((((p5 >>> ((2 : Int32) &&& 31)) % (3 : Int32)).toInt64) - (1 : Int64)))])) _
      refine XS.lstore X33.here hx rfl (hb hby at_27) rfl (l' := #[.val (.int p0), .val (.long q1), .second, .val (.long q2), .second, .val (.long q3), .second, .val (.long q4), .second, .val (.int p5), .val (.ref b1), .val (.long ((((p0.toInt64) * (1000000 : Int64)) * (9 : Int64)) / (10 : Int64))), .second, .val (.long ((((p5 >>> ((2 : Int32) &&& 31)) % (3 : Int32)).toInt64) - (1 : Int64))), .second, .unset, .unset, .unset, .unset, .unset, .unset, .unset, .unset, .unset, .unset, .unset, .unset, .unset, .unset, .unset, .unset, .unset, .unset]) rfl ?_
      exact kt)
  obtain ⟨ln, hln⟩ : ∃ z, z = ((((p0.toInt64) * (1000000 : Int64)) * (9 : Int64)) / (10 : Int64)) := ⟨_, rfl⟩
  rw [← hln] at pre34 c17_2
  refine cps (A := ∃ (sA : Int64) (sB : Int64), ∀ t, Steps p.tables e below (T33.setTop (mkF m 68 #[.val (.int p0), .val (.long q1), .second, .val (.long q2), .second, .val (.long q3), .second, .val (.long q4), .second, .val (.int p5), .val (.ref b1), .val (.long ln), .second, .val (.long ((((p5 >>> ((2 : Int32) &&& 31)) % (3 : Int32)).toInt64) - (1 : Int64))), .second, .val (.long sA), .second, .val (.long sB), .second, .unset, .unset, .unset, .unset, .unset, .unset, .unset, .unset, .unset, .unset, .unset, .unset, .unset, .unset] [])) t → Steps p.tables e below (s₁.setTop (entryFrame m #[(.int p0), (.long q1), (.long q2), (.long q3), (.long q4), (.int p5)] maxLocals)) t) (fun kk35 => ?_) (fun hA => ?_)
  · skip
    have pre36 : ∀ t, Steps p.tables e below (T33.setTop (mkF m 33 #[.val (.int p0), .val (.long q1), .second, .val (.long q2), .second, .val (.long q3), .second, .val (.long q4), .second, .val (.int p5), .val (.ref b1), .val (.long ln), .second, .val (.long ((((p5 >>> ((2 : Int32) &&& 31)) % (3 : Int32)).toInt64) - (1 : Int64))), .second, .unset, .unset, .unset, .unset, .unset, .unset, .unset, .unset, .unset, .unset, .unset, .unset, .unset, .unset, .unset, .unset, .unset, .unset] [(.int (p5 &&& (1 : Int32)))])) t → Steps p.tables e below (s₁.setTop (entryFrame m #[(.int p0), (.long q1), (.long q2), (.long q3), (.long q4), (.int p5)] maxLocals)) t := fun t kt => pre34 t (by
        show Steps p.tables e below (T33.setTop (mkF m 29 #[.val (.int p0), .val (.long q1), .second, .val (.long q2), .second, .val (.long q3), .second, .val (.long q4), .second, .val (.int p5), .val (.ref b1), .val (.long ln), .second, .val (.long ((((p5 >>> ((2 : Int32) &&& 31)) % (3 : Int32)).toInt64) - (1 : Int64))), .second, .unset, .unset, .unset, .unset, .unset, .unset, .unset, .unset, .unset, .unset, .unset, .unset, .unset, .unset, .unset, .unset, .unset, .unset] [])) _
        refine XS.iload X33.here hx rfl (hb hby at_29) rfl ?_
        show Steps p.tables e below (T33.setTop (mkF m 31 #[.val (.int p0), .val (.long q1), .second, .val (.long q2), .second, .val (.long q3), .second, .val (.long q4), .second, .val (.int p5), .val (.ref b1), .val (.long ln), .second, .val (.long ((((p5 >>> ((2 : Int32) &&& 31)) % (3 : Int32)).toInt64) - (1 : Int64))), .second, .unset, .unset, .unset, .unset, .unset, .unset, .unset, .unset, .unset, .unset, .unset, .unset, .unset, .unset, .unset, .unset, .unset, .unset] [(.int p5)])) _
        refine XS.iconst X33.here hx rfl (hb hby at_31) ?_
        show Steps p.tables e below (T33.setTop (mkF m 32 #[.val (.int p0), .val (.long q1), .second, .val (.long q2), .second, .val (.long q3), .second, .val (.long q4), .second, .val (.int p5), .val (.ref b1), .val (.long ln), .second, .val (.long ((((p5 >>> ((2 : Int32) &&& 31)) % (3 : Int32)).toInt64) - (1 : Int64))), .second, .unset, .unset, .unset, .unset, .unset, .unset, .unset, .unset, .unset, .unset, .unset, .unset, .unset, .unset, .unset, .unset, .unset, .unset] [(.int (1 : Int32)), (.int p5)])) _
        refine XS.iand X33.here hx rfl (hb hby at_32) rfl ?_
        exact kt)
    by_cases hc37 : (p5 &&& (1 : Int32)) = (0 : Int32)
    · skip
      have pre38 : ∀ t, Steps p.tables e below (T33.setTop (mkF m 53 #[.val (.int p0), .val (.long q1), .second, .val (.long q2), .second, .val (.long q3), .second, .val (.long q4), .second, .val (.int p5), .val (.ref b1), .val (.long ln), .second, .val (.long ((((p5 >>> ((2 : Int32) &&& 31)) % (3 : Int32)).toInt64) - (1 : Int64))), .second, .val (.long q2), .second, .unset, .unset, .unset, .unset, .unset, .unset, .unset, .unset, .unset, .unset, .unset, .unset, .unset, .unset, .unset, .unset] [(.int (p5 &&& (2 : Int32)))])) t → Steps p.tables e below (s₁.setTop (entryFrame m #[(.int p0), (.long q1), (.long q2), (.long q3), (.long q4), (.int p5)] maxLocals)) t := fun t kt => pre36 t (by
          show Steps p.tables e below (T33.setTop (mkF m 33 #[.val (.int p0), .val (.long q1), .second, .val (.long q2), .second, .val (.long q3), .second, .val (.long q4), .second, .val (.int p5), .val (.ref b1), .val (.long ln), .second, .val (.long ((((p5 >>> ((2 : Int32) &&& 31)) % (3 : Int32)).toInt64) - (1 : Int64))), .second, .unset, .unset, .unset, .unset, .unset, .unset, .unset, .unset, .unset, .unset, .unset, .unset, .unset, .unset, .unset, .unset, .unset, .unset] [(.int (p5 &&& (1 : Int32)))])) _
          refine XS.ifYes X33.here hx rfl (pc0 := 33) (pc' := 46) rfl (hb hby at_33) rfl ((if0 _ _).trans (teq hc37).1) (by decide) (by decide) ?_
          show Steps p.tables e below (T33.setTop (mkF m 46 #[.val (.int p0), .val (.long q1), .second, .val (.long q2), .second, .val (.long q3), .second, .val (.long q4), .second, .val (.int p5), .val (.ref b1), .val (.long ln), .second, .val (.long ((((p5 >>> ((2 : Int32) &&& 31)) % (3 : Int32)).toInt64) - (1 : Int64))), .second, .unset, .unset, .unset, .unset, .unset, .unset, .unset, .unset, .unset, .unset, .unset, .unset, .unset, .unset, .unset, .unset, .unset, .unset] [])) _
          refine XS.lloadN X33.here hx rfl (hb hby at_46) rfl ?_
          show Steps p.tables e below (T33.setTop (mkF m 47 #[.val (.int p0), .val (.long q1), .second, .val (.long q2), .second, .val (.long q3), .second, .val (.long q4), .second, .val (.int p5), .val (.ref b1), .val (.long ln), .second, .val (.long ((((p5 >>> ((2 : Int32) &&& 31)) % (3 : Int32)).toInt64) - (1 : Int64))), .second, .unset, .unset, .unset, .unset, .unset, .unset, .unset, .unset, .unset, .unset, .unset, .unset, .unset, .unset, .unset, .unset, .unset, .unset] [(.long q2)])) _
          refine XS.lstore X33.here hx rfl (hb hby at_47) rfl (l' := #[.val (.int p0), .val (.long q1), .second, .val (.long q2), .second, .val (.long q3), .second, .val (.long q4), .second, .val (.int p5), .val (.ref b1), .val (.long ln), .second, .val (.long ((((p5 >>> ((2 : Int32) &&& 31)) % (3 : Int32)).toInt64) - (1 : Int64))), .second, .val (.long q2), .second, .unset, .unset, .unset, .unset, .unset, .unset, .unset, .unset, .unset, .unset, .unset, .unset, .unset, .unset, .unset, .unset]) rfl ?_
          show Steps p.tables e below (T33.setTop (mkF m 49 #[.val (.int p0), .val (.long q1), .second, .val (.long q2), .second, .val (.long q3), .second, .val (.long q4), .second, .val (.int p5), .val (.ref b1), .val (.long ln), .second, .val (.long ((((p5 >>> ((2 : Int32) &&& 31)) % (3 : Int32)).toInt64) - (1 : Int64))), .second, .val (.long q2), .second, .unset, .unset, .unset, .unset, .unset, .unset, .unset, .unset, .unset, .unset, .unset, .unset, .unset, .unset, .unset, .unset] [])) _
          refine XS.iload X33.here hx rfl (hb hby at_49) rfl ?_
          show Steps p.tables e below (T33.setTop (mkF m 51 #[.val (.int p0), .val (.long q1), .second, .val (.long q2), .second, .val (.long q3), .second, .val (.long q4), .second, .val (.int p5), .val (.ref b1), .val (.long ln), .second, .val (.long ((((p5 >>> ((2 : Int32) &&& 31)) % (3 : Int32)).toInt64) - (1 : Int64))), .second, .val (.long q2), .second, .unset, .unset, .unset, .unset, .unset, .unset, .unset, .unset, .unset, .unset, .unset, .unset, .unset, .unset, .unset, .unset] [(.int p5)])) _
          refine XS.iconst X33.here hx rfl (hb hby at_51) ?_
          show Steps p.tables e below (T33.setTop (mkF m 52 #[.val (.int p0), .val (.long q1), .second, .val (.long q2), .second, .val (.long q3), .second, .val (.long q4), .second, .val (.int p5), .val (.ref b1), .val (.long ln), .second, .val (.long ((((p5 >>> ((2 : Int32) &&& 31)) % (3 : Int32)).toInt64) - (1 : Int64))), .second, .val (.long q2), .second, .unset, .unset, .unset, .unset, .unset, .unset, .unset, .unset, .unset, .unset, .unset, .unset, .unset, .unset, .unset, .unset] [(.int (2 : Int32)), (.int p5)])) _
          refine XS.iand X33.here hx rfl (hb hby at_52) rfl ?_
          exact kt)
      by_cases hc39 : (p5 &&& (2 : Int32)) = (0 : Int32)
      · skip
        have pre40 : ∀ t, Steps p.tables e below (T33.setTop (mkF m 68 #[.val (.int p0), .val (.long q1), .second, .val (.long q2), .second, .val (.long q3), .second, .val (.long q4), .second, .val (.int p5), .val (.ref b1), .val (.long ln), .second, .val (.long ((((p5 >>> ((2 : Int32) &&& 31)) % (3 : Int32)).toInt64) - (1 : Int64))), .second, .val (.long q2), .second, .val (.long q3), .second, .unset, .unset, .unset, .unset, .unset, .unset, .unset, .unset, .unset, .unset, .unset, .unset, .unset, .unset] [])) t → Steps p.tables e below (s₁.setTop (entryFrame m #[(.int p0), (.long q1), (.long q2), (.long q3), (.long q4), (.int p5)] maxLocals)) t := fun t kt => pre38 t (by
            show Steps p.tables e below (T33.setTop (mkF m 53 #[.val (.int p0), .val (.long q1), .second, .val (.long q2), .second, .val (.long q3), .second, .val (.long q4), .second, .val (.int p5), .val (.ref b1), .val (.long ln), .second, .val (.long ((((p5 >>> ((2 : Int32) &&& 31)) % (3 : Int32)).toInt64) - (1 : Int64))), .second, .val (.long q2), .second, .unset, .unset, .unset, .unset, .unset, .unset, .unset, .unset, .unset, .unset, .unset, .unset, .unset, .unset, .unset, .unset] [(.int (p5 &&& (2 : Int32)))])) _
            refine XS.ifYes X33.here hx rfl (pc0 := 53) (pc' := 64) rfl (hb hby at_53) rfl ((if0 _ _).trans (teq hc39).1) (by decide) (by decide) ?_
            show Steps p.tables e below (T33.setTop (mkF m 64 #[.val (.int p0), .val (.long q1), .second, .val (.long q2), .second, .val (.long q3), .second, .val (.long q4), .second, .val (.int p5), .val (.ref b1), .val (.long ln), .second, .val (.long ((((p5 >>> ((2 : Int32) &&& 31)) % (3 : Int32)).toInt64) - (1 : Int64))), .second, .val (.long q2), .second, .unset, .unset, .unset, .unset, .unset, .unset, .unset, .unset, .unset, .unset, .unset, .unset, .unset, .unset, .unset, .unset] [])) _
            refine XS.lload X33.here hx rfl (hb hby at_64) rfl ?_
            show Steps p.tables e below (T33.setTop (mkF m 66 #[.val (.int p0), .val (.long q1), .second, .val (.long q2), .second, .val (.long q3), .second, .val (.long q4), .second, .val (.int p5), .val (.ref b1), .val (.long ln), .second, .val (.long ((((p5 >>> ((2 : Int32) &&& 31)) % (3 : Int32)).toInt64) - (1 : Int64))), .second, .val (.long q2), .second, .unset, .unset, .unset, .unset, .unset, .unset, .unset, .unset, .unset, .unset, .unset, .unset, .unset, .unset, .unset, .unset] [(.long q3)])) _
            refine XS.lstore X33.here hx rfl (hb hby at_66) rfl (l' := #[.val (.int p0), .val (.long q1), .second, .val (.long q2), .second, .val (.long q3), .second, .val (.long q4), .second, .val (.int p5), .val (.ref b1), .val (.long ln), .second, .val (.long ((((p5 >>> ((2 : Int32) &&& 31)) % (3 : Int32)).toInt64) - (1 : Int64))), .second, .val (.long q2), .second, .val (.long q3), .second, .unset, .unset, .unset, .unset, .unset, .unset, .unset, .unset, .unset, .unset, .unset, .unset, .unset, .unset]) rfl ?_
            exact kt)
        exact kk35 ⟨q2, q3, pre40⟩
      · skip
        have pre41 : ∀ t, Steps p.tables e below (T33.setTop (mkF m 68 #[.val (.int p0), .val (.long q1), .second, .val (.long q2), .second, .val (.long q3), .second, .val (.long q4), .second, .val (.int p5), .val (.ref b1), .val (.long ln), .second, .val (.long ((((p5 >>> ((2 : Int32) &&& 31)) % (3 : Int32)).toInt64) - (1 : Int64))), .second, .val (.long q2), .second, .val (.long (q2 + ((((p5 >>> ((2 : Int32) &&& 31)) % (3 : Int32)).toInt64) - (1 : Int64)))), .second, .unset, .unset, .unset, .unset, .unset, .unset, .unset, .unset, .unset, .unset, .unset, .unset, .unset, .unset] [])) t → Steps p.tables e below (s₁.setTop (entryFrame m #[(.int p0), (.long q1), (.long q2), (.long q3), (.long q4), (.int p5)] maxLocals)) t := fun t kt => pre38 t (by
            show Steps p.tables e below (T33.setTop (mkF m 53 #[.val (.int p0), .val (.long q1), .second, .val (.long q2), .second, .val (.long q3), .second, .val (.long q4), .second, .val (.int p5), .val (.ref b1), .val (.long ln), .second, .val (.long ((((p5 >>> ((2 : Int32) &&& 31)) % (3 : Int32)).toInt64) - (1 : Int64))), .second, .val (.long q2), .second, .unset, .unset, .unset, .unset, .unset, .unset, .unset, .unset, .unset, .unset, .unset, .unset, .unset, .unset, .unset, .unset] [(.int (p5 &&& (2 : Int32)))])) _
            refine XS.ifNo X33.here hx rfl (hb hby at_53) rfl ((if0 _ _).trans (feq hc39).1) ?_
            show Steps p.tables e below (T33.setTop (mkF m 56 #[.val (.int p0), .val (.long q1), .second, .val (.long q2), .second, .val (.long q3), .second, .val (.long q4), .second, .val (.int p5), .val (.ref b1), .val (.long ln), .second, .val (.long ((((p5 >>> ((2 : Int32) &&& 31)) % (3 : Int32)).toInt64) - (1 : Int64))), .second, .val (.long q2), .second, .unset, .unset, .unset, .unset, .unset, .unset, .unset, .unset, .unset, .unset, .unset, .unset, .unset, .unset, .unset, .unset] [])) _
            refine XS.lload X33.here hx rfl (hb hby at_56) rfl ?_
            show Steps p.tables e below (T33.setTop (mkF m 58 #[.val (.int p0), .val (.long q1), .second, .val (.long q2), .second, .val (.long q3), .second, .val (.long q4), .second, .val (.int p5), .val (.ref b1), .val (.long ln), .second, .val (.long ((((p5 >>> ((2 : Int32) &&& 31)) % (3 : Int32)).toInt64) - (1 : Int64))), .second, .val (.long q2), .second, .unset, .unset, .unset, .unset, .unset, .unset, .unset, .unset, .unset, .unset, .unset, .unset, .unset, .unset, .unset, .unset] [(.long q2)])) _
            refine XS.lload X33.here hx rfl (hb hby at_58) rfl ?_
            show Steps p.tables e below (T33.setTop (mkF m 60 #[.val (.int p0), .val (.long q1), .second, .val (.long q2), .second, .val (.long q3), .second, .val (.long q4), .second, .val (.int p5), .val (.ref b1), .val (.long ln), .second, .val (.long ((((p5 >>> ((2 : Int32) &&& 31)) % (3 : Int32)).toInt64) - (1 : Int64))), .second, .val (.long q2), .second, .unset, .unset, .unset, .unset, .unset, .unset, .unset, .unset, .unset, .unset, .unset, .unset, .unset, .unset, .unset, .unset] [(.long ((((p5 >>> ((2 : Int32) &&& 31)) % (3 : Int32)).toInt64) - (1 : Int64))), (.long q2)])) _
            refine XS.ladd X33.here hx rfl (hb hby at_60) rfl ?_
            show Steps p.tables e below (T33.setTop (mkF m 61 #[.val (.int p0), .val (.long q1), .second, .val (.long q2), .second, .val (.long q3), .second, .val (.long q4), .second, .val (.int p5), .val (.ref b1), .val (.long ln), .second, .val (.long ((((p5 >>> ((2 : Int32) &&& 31)) % (3 : Int32)).toInt64) - (1 : Int64))), .second, .val (.long q2), .second, .unset, .unset, .unset, .unset, .unset, .unset, .unset, .unset, .unset, .unset, .unset, .unset, .unset, .unset, .unset, .unset] [(.long (q2 + ((((p5 >>> ((2 : Int32) &&& 31)) % (3 : Int32)).toInt64) - (1 : Int64))))])) _
            refine XS.goto X33.here hx rfl (pc0 := 61) (pc' := 66) rfl (hb hby at_61) (by decide) (by decide) ?_
            show Steps p.tables e below (T33.setTop (mkF m 66 #[.val (.int p0), .val (.long q1), .second, .val (.long q2), .second, .val (.long q3), .second, .val (.long q4), .second, .val (.int p5), .val (.ref b1), .val (.long ln), .second, .val (.long ((((p5 >>> ((2 : Int32) &&& 31)) % (3 : Int32)).toInt64) - (1 : Int64))), .second, .val (.long q2), .second, .unset, .unset, .unset, .unset, .unset, .unset, .unset, .unset, .unset, .unset, .unset, .unset, .unset, .unset, .unset, .unset] [(.long (q2 + ((((p5 >>> ((2 : Int32) &&& 31)) % (3 : Int32)).toInt64) - (1 : Int64))))])) _
            refine XS.lstore X33.here hx rfl (hb hby at_66) rfl (l' := #[.val (.int p0), .val (.long q1), .second, .val (.long q2), .second, .val (.long q3), .second, .val (.long q4), .second, .val (.int p5), .val (.ref b1), .val (.long ln), .second, .val (.long ((((p5 >>> ((2 : Int32) &&& 31)) % (3 : Int32)).toInt64) - (1 : Int64))), .second, .val (.long q2), .second, .val (.long (q2 + ((((p5 >>> ((2 : Int32) &&& 31)) % (3 : Int32)).toInt64) - (1 : Int64)))), .second, .unset, .unset, .unset, .unset, .unset, .unset, .unset, .unset, .unset, .unset, .unset, .unset, .unset, .unset]) rfl ?_
            exact kt)
        exact kk35 ⟨q2, (q2 + ((((p5 >>> ((2 : Int32) &&& 31)) % (3 : Int32)).toInt64) - (1 : Int64))), pre41⟩
    · skip
      have pre42 : ∀ t, Steps p.tables e below (T33.setTop (mkF m 53 #[.val (.int p0), .val (.long q1), .second, .val (.long q2), .second, .val (.long q3), .second, .val (.long q4), .second, .val (.int p5), .val (.ref b1), .val (.long ln), .second, .val (.long ((((p5 >>> ((2 : Int32) &&& 31)) % (3 : Int32)).toInt64) - (1 : Int64))), .second, .val (.long ((q1 - ln) + ((((p5 >>> ((2 : Int32) &&& 31)) % (3 : Int32)).toInt64) - (1 : Int64)))), .second, .unset, .unset, .unset, .unset, .unset, .unset, .unset, .unset, .unset, .unset, .unset, .unset, .unset, .unset, .unset, .unset] [(.int (p5 &&& (2 : Int32)))])) t → Steps p.tables e below (s₁.setTop (entryFrame m #[(.int p0), (.long q1), (.long q2), (.long q3), (.long q4), (.int p5)] maxLocals)) t := fun t kt => pre36 t (by
          show Steps p.tables e below (T33.setTop (mkF m 33 #[.val (.int p0), .val (.long q1), .second, .val (.long q2), .second, .val (.long q3), .second, .val (.long q4), .second, .val (.int p5), .val (.ref b1), .val (.long ln), .second, .val (.long ((((p5 >>> ((2 : Int32) &&& 31)) % (3 : Int32)).toInt64) - (1 : Int64))), .second, .unset, .unset, .unset, .unset, .unset, .unset, .unset, .unset, .unset, .unset, .unset, .unset, .unset, .unset, .unset, .unset, .unset, .unset] [(.int (p5 &&& (1 : Int32)))])) _
          refine XS.ifNo X33.here hx rfl (hb hby at_33) rfl ((if0 _ _).trans (feq hc37).1) ?_
          show Steps p.tables e below (T33.setTop (mkF m 36 #[.val (.int p0), .val (.long q1), .second, .val (.long q2), .second, .val (.long q3), .second, .val (.long q4), .second, .val (.int p5), .val (.ref b1), .val (.long ln), .second, .val (.long ((((p5 >>> ((2 : Int32) &&& 31)) % (3 : Int32)).toInt64) - (1 : Int64))), .second, .unset, .unset, .unset, .unset, .unset, .unset, .unset, .unset, .unset, .unset, .unset, .unset, .unset, .unset, .unset, .unset, .unset, .unset] [])) _
          refine XS.lloadN X33.here hx rfl (hb hby at_36) rfl ?_
          show Steps p.tables e below (T33.setTop (mkF m 37 #[.val (.int p0), .val (.long q1), .second, .val (.long q2), .second, .val (.long q3), .second, .val (.long q4), .second, .val (.int p5), .val (.ref b1), .val (.long ln), .second, .val (.long ((((p5 >>> ((2 : Int32) &&& 31)) % (3 : Int32)).toInt64) - (1 : Int64))), .second, .unset, .unset, .unset, .unset, .unset, .unset, .unset, .unset, .unset, .unset, .unset, .unset, .unset, .unset, .unset, .unset, .unset, .unset] [(.long q1)])) _
          refine XS.lload X33.here hx rfl (hb hby at_37) rfl ?_
          show Steps p.tables e below (T33.setTop (mkF m 39 #[.val (.int p0), .val (.long q1), .second, .val (.long q2), .second, .val (.long q3), .second, .val (.long q4), .second, .val (.int p5), .val (.ref b1), .val (.long ln), .second, .val (.long ((((p5 >>> ((2 : Int32) &&& 31)) % (3 : Int32)).toInt64) - (1 : Int64))), .second, .unset, .unset, .unset, .unset, .unset, .unset, .unset, .unset, .unset, .unset, .unset, .unset, .unset, .unset, .unset, .unset, .unset, .unset] [(.long ln), (.long q1)])) _
          refine XS.lsub X33.here hx rfl (hb hby at_39) rfl ?_
          show Steps p.tables e below (T33.setTop (mkF m 40 #[.val (.int p0), .val (.long q1), .second, .val (.long q2), .second, .val (.long q3), .second, .val (.long q4), .second, .val (.int p5), .val (.ref b1), .val (.long ln), .second, .val (.long ((((p5 >>> ((2 : Int32) &&& 31)) % (3 : Int32)).toInt64) - (1 : Int64))), .second, .unset, .unset, .unset, .unset, .unset, .unset, .unset, .unset, .unset, .unset, .unset, .unset, .unset, .unset, .unset, .unset, .unset, .unset] [(.long (q1 - ln))])) _
          refine XS.lload X33.here hx rfl (hb hby at_40) rfl ?_
          show Steps p.tables e below (T33.setTop (mkF m 42 #[.val (.int p0), .val (.long q1), .second, .val (.long q2), .second, .val (.long q3), .second, .val (.long q4), .second, .val (.int p5), .val (.ref b1), .val (.long ln), .second, .val (.long ((((p5 >>> ((2 : Int32) &&& 31)) % (3 : Int32)).toInt64) - (1 : Int64))), .second, .unset, .unset, .unset, .unset, .unset, .unset, .unset, .unset, .unset, .unset, .unset, .unset, .unset, .unset, .unset, .unset, .unset, .unset] [(.long ((((p5 >>> ((2 : Int32) &&& 31)) % (3 : Int32)).toInt64) - (1 : Int64))), (.long (q1 - ln))])) _
          refine XS.ladd X33.here hx rfl (hb hby at_42) rfl ?_
          show Steps p.tables e below (T33.setTop (mkF m 43 #[.val (.int p0), .val (.long q1), .second, .val (.long q2), .second, .val (.long q3), .second, .val (.long q4), .second, .val (.int p5), .val (.ref b1), .val (.long ln), .second, .val (.long ((((p5 >>> ((2 : Int32) &&& 31)) % (3 : Int32)).toInt64) - (1 : Int64))), .second, .unset, .unset, .unset, .unset, .unset, .unset, .unset, .unset, .unset, .unset, .unset, .unset, .unset, .unset, .unset, .unset, .unset, .unset] [(.long ((q1 - ln) + ((((p5 >>> ((2 : Int32) &&& 31)) % (3 : Int32)).toInt64) - (1 : Int64))))])) _
          refine XS.goto X33.here hx rfl (pc0 := 43) (pc' := 47) rfl (hb hby at_43) (by decide) (by decide) ?_
          show Steps p.tables e below (T33.setTop (mkF m 47 #[.val (.int p0), .val (.long q1), .second, .val (.long q2), .second, .val (.long q3), .second, .val (.long q4), .second, .val (.int p5), .val (.ref b1), .val (.long ln), .second, .val (.long ((((p5 >>> ((2 : Int32) &&& 31)) % (3 : Int32)).toInt64) - (1 : Int64))), .second, .unset, .unset, .unset, .unset, .unset, .unset, .unset, .unset, .unset, .unset, .unset, .unset, .unset, .unset, .unset, .unset, .unset, .unset] [(.long ((q1 - ln) + ((((p5 >>> ((2 : Int32) &&& 31)) % (3 : Int32)).toInt64) - (1 : Int64))))])) _
          refine XS.lstore X33.here hx rfl (hb hby at_47) rfl (l' := #[.val (.int p0), .val (.long q1), .second, .val (.long q2), .second, .val (.long q3), .second, .val (.long q4), .second, .val (.int p5), .val (.ref b1), .val (.long ln), .second, .val (.long ((((p5 >>> ((2 : Int32) &&& 31)) % (3 : Int32)).toInt64) - (1 : Int64))), .second, .val (.long ((q1 - ln) + ((((p5 >>> ((2 : Int32) &&& 31)) % (3 : Int32)).toInt64) - (1 : Int64)))), .second, .unset, .unset, .unset, .unset, .unset, .unset, .unset, .unset, .unset, .unset, .unset, .unset, .unset, .unset, .unset, .unset]) rfl ?_
          show Steps p.tables e below (T33.setTop (mkF m 49 #[.val (.int p0), .val (.long q1), .second, .val (.long q2), .second, .val (.long q3), .second, .val (.long q4), .second, .val (.int p5), .val (.ref b1), .val (.long ln), .second, .val (.long ((((p5 >>> ((2 : Int32) &&& 31)) % (3 : Int32)).toInt64) - (1 : Int64))), .second, .val (.long ((q1 - ln) + ((((p5 >>> ((2 : Int32) &&& 31)) % (3 : Int32)).toInt64) - (1 : Int64)))), .second, .unset, .unset, .unset, .unset, .unset, .unset, .unset, .unset, .unset, .unset, .unset, .unset, .unset, .unset, .unset, .unset] [])) _
          refine XS.iload X33.here hx rfl (hb hby at_49) rfl ?_
          show Steps p.tables e below (T33.setTop (mkF m 51 #[.val (.int p0), .val (.long q1), .second, .val (.long q2), .second, .val (.long q3), .second, .val (.long q4), .second, .val (.int p5), .val (.ref b1), .val (.long ln), .second, .val (.long ((((p5 >>> ((2 : Int32) &&& 31)) % (3 : Int32)).toInt64) - (1 : Int64))), .second, .val (.long ((q1 - ln) + ((((p5 >>> ((2 : Int32) &&& 31)) % (3 : Int32)).toInt64) - (1 : Int64)))), .second, .unset, .unset, .unset, .unset, .unset, .unset, .unset, .unset, .unset, .unset, .unset, .unset, .unset, .unset, .unset, .unset] [(.int p5)])) _
          refine XS.iconst X33.here hx rfl (hb hby at_51) ?_
          show Steps p.tables e below (T33.setTop (mkF m 52 #[.val (.int p0), .val (.long q1), .second, .val (.long q2), .second, .val (.long q3), .second, .val (.long q4), .second, .val (.int p5), .val (.ref b1), .val (.long ln), .second, .val (.long ((((p5 >>> ((2 : Int32) &&& 31)) % (3 : Int32)).toInt64) - (1 : Int64))), .second, .val (.long ((q1 - ln) + ((((p5 >>> ((2 : Int32) &&& 31)) % (3 : Int32)).toInt64) - (1 : Int64)))), .second, .unset, .unset, .unset, .unset, .unset, .unset, .unset, .unset, .unset, .unset, .unset, .unset, .unset, .unset, .unset, .unset] [(.int (2 : Int32)), (.int p5)])) _
          refine XS.iand X33.here hx rfl (hb hby at_52) rfl ?_
          exact kt)
      by_cases hc43 : (p5 &&& (2 : Int32)) = (0 : Int32)
      · skip
        have pre44 : ∀ t, Steps p.tables e below (T33.setTop (mkF m 68 #[.val (.int p0), .val (.long q1), .second, .val (.long q2), .second, .val (.long q3), .second, .val (.long q4), .second, .val (.int p5), .val (.ref b1), .val (.long ln), .second, .val (.long ((((p5 >>> ((2 : Int32) &&& 31)) % (3 : Int32)).toInt64) - (1 : Int64))), .second, .val (.long ((q1 - ln) + ((((p5 >>> ((2 : Int32) &&& 31)) % (3 : Int32)).toInt64) - (1 : Int64)))), .second, .val (.long q3), .second, .unset, .unset, .unset, .unset, .unset, .unset, .unset, .unset, .unset, .unset, .unset, .unset, .unset, .unset] [])) t → Steps p.tables e below (s₁.setTop (entryFrame m #[(.int p0), (.long q1), (.long q2), (.long q3), (.long q4), (.int p5)] maxLocals)) t := fun t kt => pre42 t (by
            show Steps p.tables e below (T33.setTop (mkF m 53 #[.val (.int p0), .val (.long q1), .second, .val (.long q2), .second, .val (.long q3), .second, .val (.long q4), .second, .val (.int p5), .val (.ref b1), .val (.long ln), .second, .val (.long ((((p5 >>> ((2 : Int32) &&& 31)) % (3 : Int32)).toInt64) - (1 : Int64))), .second, .val (.long ((q1 - ln) + ((((p5 >>> ((2 : Int32) &&& 31)) % (3 : Int32)).toInt64) - (1 : Int64)))), .second, .unset, .unset, .unset, .unset, .unset, .unset, .unset, .unset, .unset, .unset, .unset, .unset, .unset, .unset, .unset, .unset] [(.int (p5 &&& (2 : Int32)))])) _
            refine XS.ifYes X33.here hx rfl (pc0 := 53) (pc' := 64) rfl (hb hby at_53) rfl ((if0 _ _).trans (teq hc43).1) (by decide) (by decide) ?_
            show Steps p.tables e below (T33.setTop (mkF m 64 #[.val (.int p0), .val (.long q1), .second, .val (.long q2), .second, .val (.long q3), .second, .val (.long q4), .second, .val (.int p5), .val (.ref b1), .val (.long ln), .second, .val (.long ((((p5 >>> ((2 : Int32) &&& 31)) % (3 : Int32)).toInt64) - (1 : Int64))), .second, .val (.long ((q1 - ln) + ((((p5 >>> ((2 : Int32) &&& 31)) % (3 : Int32)).toInt64) - (1 : Int64)))), .second, .unset, .unset, .unset, .unset, .unset, .unset, .unset, .unset, .unset, .unset, .unset, .unset, .unset, .unset, .unset, .unset] [])) _
            refine XS.lload X33.here hx rfl (hb hby at_64) rfl ?_
            show Steps p.tables e below (T33.setTop (mkF m 66 #[.val (.int p0), .val (.long q1), .second, .val (.long q2), .second, .val (.long q3), .second, .val (.long q4), .second, .val (.int p5), .val (.ref b1), .val (.long ln), .second, .val (.long ((((p5 >>> ((2 : Int32) &&& 31)) % (3 : Int32)).toInt64) - (1 : Int64))), .second, .val (.long ((q1 - ln) + ((((p5 >>> ((2 : Int32) &&& 31)) % (3 : Int32)).toInt64) - (1 : Int64)))), .second, .unset, .unset, .unset, .unset, .unset, .unset, .unset, .unset, .unset, .unset, .unset, .unset, .unset, .unset, .unset, .unset] [(.long q3)])) _
            refine XS.lstore X33.here hx rfl (hb hby at_66) rfl (l' := #[.val (.int p0), .val (.long q1), .second, .val (.long q2), .second, .val (.long q3), .second, .val (.long q4), .second, .val (.int p5), .val (.ref b1), .val (.long ln), .second, .val (.long ((((p5 >>> ((2 : Int32) &&& 31)) % (3 : Int32)).toInt64) - (1 : Int64))), .second, .val (.long ((q1 - ln) + ((((p5 >>> ((2 : Int32) &&& 31)) % (3 : Int32)).toInt64) - (1 : Int64)))), .second, .val (.long q3), .second, .unset, .unset, .unset, .unset, .unset, .unset, .unset, .unset, .unset, .unset, .unset, .unset, .unset, .unset]) rfl ?_
            exact kt)
        exact kk35 ⟨((q1 - ln) + ((((p5 >>> ((2 : Int32) &&& 31)) % (3 : Int32)).toInt64) - (1 : Int64))), q3, pre44⟩
      · skip
        have pre45 : ∀ t, Steps p.tables e below (T33.setTop (mkF m 68 #[.val (.int p0), .val (.long q1), .second, .val (.long q2), .second, .val (.long q3), .second, .val (.long q4), .second, .val (.int p5), .val (.ref b1), .val (.long ln), .second, .val (.long ((((p5 >>> ((2 : Int32) &&& 31)) % (3 : Int32)).toInt64) - (1 : Int64))), .second, .val (.long ((q1 - ln) + ((((p5 >>> ((2 : Int32) &&& 31)) % (3 : Int32)).toInt64) - (1 : Int64)))), .second, .val (.long (((q1 - ln) + ((((p5 >>> ((2 : Int32) &&& 31)) % (3 : Int32)).toInt64) - (1 : Int64))) + ((((p5 >>> ((2 : Int32) &&& 31)) % (3 : Int32)).toInt64) - (1 : Int64)))), .second, .unset, .unset, .unset, .unset, .unset, .unset, .unset, .unset, .unset, .unset, .unset, .unset, .unset, .unset] [])) t → Steps p.tables e below (s₁.setTop (entryFrame m #[(.int p0), (.long q1), (.long q2), (.long q3), (.long q4), (.int p5)] maxLocals)) t := fun t kt => pre42 t (by
            show Steps p.tables e below (T33.setTop (mkF m 53 #[.val (.int p0), .val (.long q1), .second, .val (.long q2), .second, .val (.long q3), .second, .val (.long q4), .second, .val (.int p5), .val (.ref b1), .val (.long ln), .second, .val (.long ((((p5 >>> ((2 : Int32) &&& 31)) % (3 : Int32)).toInt64) - (1 : Int64))), .second, .val (.long ((q1 - ln) + ((((p5 >>> ((2 : Int32) &&& 31)) % (3 : Int32)).toInt64) - (1 : Int64)))), .second, .unset, .unset, .unset, .unset, .unset, .unset, .unset, .unset, .unset, .unset, .unset, .unset, .unset, .unset, .unset, .unset] [(.int (p5 &&& (2 : Int32)))])) _
            refine XS.ifNo X33.here hx rfl (hb hby at_53) rfl ((if0 _ _).trans (feq hc43).1) ?_
            show Steps p.tables e below (T33.setTop (mkF m 56 #[.val (.int p0), .val (.long q1), .second, .val (.long q2), .second, .val (.long q3), .second, .val (.long q4), .second, .val (.int p5), .val (.ref b1), .val (.long ln), .second, .val (.long ((((p5 >>> ((2 : Int32) &&& 31)) % (3 : Int32)).toInt64) - (1 : Int64))), .second, .val (.long ((q1 - ln) + ((((p5 >>> ((2 : Int32) &&& 31)) % (3 : Int32)).toInt64) - (1 : Int64)))), .second, .unset, .unset, .unset, .unset, .unset, .unset, .unset, .unset, .unset, .unset, .unset, .unset, .unset, .unset, .unset, .unset] [])) _
            refine XS.lload X33.here hx rfl (hb hby at_56) rfl ?_
            show Steps p.tables e below (T33.setTop (mkF m 58 #[.val (.int p0), .val (.long q1), .second, .val (.long q2), .second, .val (.long q3), .second, .val (.long q4), .second, .val (.int p5), .val (.ref b1), .val (.long ln), .second, .val (.long ((((p5 >>> ((2 : Int32) &&& 31)) % (3 : Int32)).toInt64) - (1 : Int64))), .second, .val (.long ((q1 - ln) + ((((p5 >>> ((2 : Int32) &&& 31)) % (3 : Int32)).toInt64) - (1 : Int64)))), .second, .unset, .unset, .unset, .unset, .unset, .unset, .unset, .unset, .unset, .unset, .unset, .unset, .unset, .unset, .unset, .unset] [(.long ((q1 - ln) + ((((p5 >>> ((2 : Int32) &&& 31)) % (3 : Int32)).toInt64) - (1 : Int64))))])) _
            refine XS.lload X33.here hx rfl (hb hby at_58) rfl ?_
            show Steps p.tables e below (T33.setTop (mkF m 60 #[.val (.int p0), .val (.long q1), .second, .val (.long q2), .second, .val (.long q3), .second, .val (.long q4), .second, .val (.int p5), .val (.ref b1), .val (.long ln), .second, .val (.long ((((p5 >>> ((2 : Int32) &&& 31)) % (3 : Int32)).toInt64) - (1 : Int64))), .second, .val (.long ((q1 - ln) + ((((p5 >>> ((2 : Int32) &&& 31)) % (3 : Int32)).toInt64) - (1 : Int64)))), .second, .unset, .unset, .unset, .unset, .unset, .unset, .unset, .unset, .unset, .unset, .unset, .unset, .unset, .unset, .unset, .unset] [(.long ((((p5 >>> ((2 : Int32) &&& 31)) % (3 : Int32)).toInt64) - (1 : Int64))), (.long ((q1 - ln) + ((((p5 >>> ((2 : Int32) &&& 31)) % (3 : Int32)).toInt64) - (1 : Int64))))])) _
            refine XS.ladd X33.here hx rfl (hb hby at_60) rfl ?_
            show Steps p.tables e below (T33.setTop (mkF m 61 #[.val (.int p0), .val (.long q1), .second, .val (.long q2), .second, .val (.long q3), .second, .val (.long q4), .second, .val (.int p5), .val (.ref b1), .val (.long ln), .second, .val (.long ((((p5 >>> ((2 : Int32) &&& 31)) % (3 : Int32)).toInt64) - (1 : Int64))), .second, .val (.long ((q1 - ln) + ((((p5 >>> ((2 : Int32) &&& 31)) % (3 : Int32)).toInt64) - (1 : Int64)))), .second, .unset, .unset, .unset, .unset, .unset, .unset, .unset, .unset, .unset, .unset, .unset, .unset, .unset, .unset, .unset, .unset] [(.long (((q1 - ln) + ((((p5 >>> ((2 : Int32) &&& 31)) % (3 : Int32)).toInt64) - (1 : Int64))) + ((((p5 >>> ((2 : Int32) &&& 31)) % (3 : Int32)).toInt64) - (1 : Int64))))])) _
            refine XS.goto X33.here hx rfl (pc0 := 61) (pc' := 66) rfl (hb hby at_61) (by decide) (by decide) ?_
            show Steps p.tables e below (T33.setTop (mkF m 66 #[.val (.int p0), .val (.long q1), .second, .val (.long q2), .second, .val (.long q3), .second, .val (.long q4), .second, .val (.int p5), .val (.ref b1), .val (.long ln), .second, .val (.long ((((p5 >>> ((2 : Int32) &&& 31)) % (3 : Int32)).toInt64) - (1 : Int64))), .second, .val (.long ((q1 - ln) + ((((p5 >>> ((2 : Int32) &&& 31)) % (3 : Int32)).toInt64) - (1 : Int64)))), .second, .unset, .unset, .unset, .unset, .unset, .unset, .unset, .unset, .unset, .unset, .unset, .unset, .unset, .unset, .unset, .unset] [(.long (((q1 - ln) + ((((p5 >>> ((2 : Int32) &&& 31)) % (3 : Int32)).toInt64) - (1 : Int64))) + ((((p5 >>> ((2 : Int32) &&& 31)) % (3 : Int32)).toInt64) - (1 : Int64))))])) _
            refine XS.lstore X33.here hx rfl (hb hby at_66) rfl (l' := #[.val (.int p0), .val (.long q1), .second, .val (.long q2), .second, .val (.long q3), .second, .val (.long q4), .second, .val (.int p5), .val (.ref b1), .val (.long ln), .second, .val (.long ((((p5 >>> ((2 : Int32) &&& 31)) % (3 : Int32)).toInt64) - (1 : Int64))), .second, .val (.long ((q1 - ln) + ((((p5 >>> ((2 : Int32) &&& 31)) % (3 : Int32)).toInt64) - (1 : Int64)))), .second, .val (.long (((q1 - ln) + ((((p5 >>> ((2 : Int32) &&& 31)) % (3 : Int32)).toInt64) - (1 : Int64))) + ((((p5 >>> ((2 : Int32) &&& 31)) % (3 : Int32)).toInt64) - (1 : Int64)))), .second, .unset, .unset, .unset, .unset, .unset, .unset, .unset, .unset, .unset, .unset, .unset, .unset, .unset, .unset]) rfl ?_
            exact kt)
        exact kk35 ⟨((q1 - ln) + ((((p5 >>> ((2 : Int32) &&& 31)) % (3 : Int32)).toInt64) - (1 : Int64))), (((q1 - ln) + ((((p5 >>> ((2 : Int32) &&& 31)) % (3 : Int32)).toInt64) - (1 : Int64))) + ((((p5 >>> ((2 : Int32) &&& 31)) % (3 : Int32)).toInt64) - (1 : Int64))), pre45⟩
  · skip
    obtain ⟨sA, sB, pre46⟩ := hA
    obtain ⟨cq47, kq47, q47a, q47b, q47c⟩ := isOf hZ e33 c17_1
    obtain ⟨_, _, ⟨T47, L47, k47, n47⟩, -, X47, ⟨Lc47, hQ47, l47, y47, z47⟩, st47⟩ := X33.virtualBack hx (y := (⟨"com/example/cluster_log/clusterlog/Lease", "left", "(J)J"⟩ : MethodName)) (z := (⟨"com/example/cluster_log/clusterlog/Lease", "left", "(J)J"⟩ : MethodName)) hown (mvT hZ (hw _ (List.mem_of_getElem? (i := 37) rfl))) (mvT hZ (hw _ (List.mem_of_getElem? (i := 38) rfl))) (notFace_of_selects (args := #[]) (mvT hZ (hw _ (List.mem_of_getElem? (i := 40) rfl)))) (mvT hZ (hw _ (List.mem_of_getElem? (i := 40) rfl))) (mvT hZ (hw _ (List.mem_of_getElem? (i := 39) rfl))) (by decide) (backOf (W := 0) (rm6 l Z aw hw [] b1 q4 q1 T17.heap n0 (Nat.le_trans (Nat.le_trans Z0 E1.1) c17_0.1) c17_3) hZ (hw _ (List.mem_of_getElem? (i := 41) rfl)) (hw _ (List.mem_of_getElem? (i := 2) rfl)) (by decide) (by decide)) q47a q47c (g := (mkF m 72 #[.val (.int p0), .val (.long q1), .second, .val (.long q2), .second, .val (.long q3), .second, .val (.long q4), .second, .val (.int p5), .val (.ref b1), .val (.long ln), .second, .val (.long ((((p5 >>> ((2 : Int32) &&& 31)) % (3 : Int32)).toInt64) - (1 : Int64))), .second, .val (.long sA), .second, .val (.long sB), .second, .unset, .unset, .unset, .unset, .unset, .unset, .unset, .unset, .unset, .unset, .unset, .unset, .unset, .unset] [(.long q4), (.ref b1)])) rfl (by rw [hml]; rfl) (Steps.refl _) (argsL := [(.long q4)]) (rest := []) (lenOf pd_0 rfl) rfl (by show 2 * 0 + _ ≤ _; exact Nat.le_of_eq rfl) (hb hby at_72) (fun _ _ => ⟨rfl, e33, (by decide : 1 + 0 ≤ _), (by decide : 3 + 0 ≤ _)⟩)
    dsimp only [Pt.U, Pt.locs, Pt.cells, Pt.slots] at X47 l47 y47 z47 st47 hQ47
    subst l47 y47 z47
    obtain ⟨rfl, Nq47, e47⟩ := hQ47
    have N47 := Fr.app N33 Nq47
    have pre48 : ∀ t, Steps p.tables e below (T47.setTop (mkF m 93 #[.val (.int p0), .val (.long q1), .second, .val (.long q2), .second, .val (.long q3), .second, .val (.long q4), .second, .val (.int p5), .val (.ref b1), .val (.long ln), .second, .val (.long ((((p5 >>> ((2 : Int32) &&& 31)) % (3 : Int32)).toInt64) - (1 : Int64))), .second, .val (.long sA), .second, .val (.long sB), .second, .val (.long (q1 - q4)), .second, .unset, .unset, .unset, .unset, .unset, .unset, .unset, .unset, .unset, .unset, .unset, .unset] [(.long sA), (.ref b1)])) t → Steps p.tables e below (s₁.setTop (entryFrame m #[(.int p0), (.long q1), (.long q2), (.long q3), (.long q4), (.int p5)] maxLocals)) t := fun t kt => pre46 t (by
        show Steps p.tables e below (T33.setTop (mkF m 68 #[.val (.int p0), .val (.long q1), .second, .val (.long q2), .second, .val (.long q3), .second, .val (.long q4), .second, .val (.int p5), .val (.ref b1), .val (.long ln), .second, .val (.long ((((p5 >>> ((2 : Int32) &&& 31)) % (3 : Int32)).toInt64) - (1 : Int64))), .second, .val (.long sA), .second, .val (.long sB), .second, .unset, .unset, .unset, .unset, .unset, .unset, .unset, .unset, .unset, .unset, .unset, .unset, .unset, .unset] [])) _
        refine XS.aload X33.here hx rfl (hb hby at_68) rfl rfl ?_
        show Steps p.tables e below (T33.setTop (mkF m 70 #[.val (.int p0), .val (.long q1), .second, .val (.long q2), .second, .val (.long q3), .second, .val (.long q4), .second, .val (.int p5), .val (.ref b1), .val (.long ln), .second, .val (.long ((((p5 >>> ((2 : Int32) &&& 31)) % (3 : Int32)).toInt64) - (1 : Int64))), .second, .val (.long sA), .second, .val (.long sB), .second, .unset, .unset, .unset, .unset, .unset, .unset, .unset, .unset, .unset, .unset, .unset, .unset, .unset, .unset] [(.ref b1)])) _
        refine XS.lload X33.here hx rfl (hb hby at_70) rfl ?_
        show Steps p.tables e below (T33.setTop (mkF m 72 #[.val (.int p0), .val (.long q1), .second, .val (.long q2), .second, .val (.long q3), .second, .val (.long q4), .second, .val (.int p5), .val (.ref b1), .val (.long ln), .second, .val (.long ((((p5 >>> ((2 : Int32) &&& 31)) % (3 : Int32)).toInt64) - (1 : Int64))), .second, .val (.long sA), .second, .val (.long sB), .second, .unset, .unset, .unset, .unset, .unset, .unset, .unset, .unset, .unset, .unset, .unset, .unset, .unset, .unset] [(.long q4), (.ref b1)])) _
        refine st47.trans ?_
        show Steps p.tables e below (T47.setTop (mkF m 75 #[.val (.int p0), .val (.long q1), .second, .val (.long q2), .second, .val (.long q3), .second, .val (.long q4), .second, .val (.int p5), .val (.ref b1), .val (.long ln), .second, .val (.long ((((p5 >>> ((2 : Int32) &&& 31)) % (3 : Int32)).toInt64) - (1 : Int64))), .second, .val (.long sA), .second, .val (.long sB), .second, .unset, .unset, .unset, .unset, .unset, .unset, .unset, .unset, .unset, .unset, .unset, .unset, .unset, .unset] [(.long (q1 - q4))])) _
        refine XS.lstore X47.here hx rfl (hb hby at_75) rfl (l' := #[.val (.int p0), .val (.long q1), .second, .val (.long q2), .second, .val (.long q3), .second, .val (.long q4), .second, .val (.int p5), .val (.ref b1), .val (.long ln), .second, .val (.long ((((p5 >>> ((2 : Int32) &&& 31)) % (3 : Int32)).toInt64) - (1 : Int64))), .second, .val (.long sA), .second, .val (.long sB), .second, .val (.long (q1 - q4)), .second, .unset, .unset, .unset, .unset, .unset, .unset, .unset, .unset, .unset, .unset, .unset, .unset]) rfl ?_
        show Steps p.tables e below (T47.setTop (mkF m 77 #[.val (.int p0), .val (.long q1), .second, .val (.long q2), .second, .val (.long q3), .second, .val (.long q4), .second, .val (.int p5), .val (.ref b1), .val (.long ln), .second, .val (.long ((((p5 >>> ((2 : Int32) &&& 31)) % (3 : Int32)).toInt64) - (1 : Int64))), .second, .val (.long sA), .second, .val (.long sB), .second, .val (.long (q1 - q4)), .second, .unset, .unset, .unset, .unset, .unset, .unset, .unset, .unset, .unset, .unset, .unset, .unset] [])) _
        refine XS.lload X47.here hx rfl (hb hby at_77) rfl ?_
        show Steps p.tables e below (T47.setTop (mkF m 79 #[.val (.int p0), .val (.long q1), .second, .val (.long q2), .second, .val (.long q3), .second, .val (.long q4), .second, .val (.int p5), .val (.ref b1), .val (.long ln), .second, .val (.long ((((p5 >>> ((2 : Int32) &&& 31)) % (3 : Int32)).toInt64) - (1 : Int64))), .second, .val (.long sA), .second, .val (.long sB), .second, .val (.long (q1 - q4)), .second, .unset, .unset, .unset, .unset, .unset, .unset, .unset, .unset, .unset, .unset, .unset, .unset] [(.long (q1 - q4))])) _
        refine XS.lloadN X47.here hx rfl (hb hby at_79) rfl ?_
        show Steps p.tables e below (T47.setTop (mkF m 80 #[.val (.int p0), .val (.long q1), .second, .val (.long q2), .second, .val (.long q3), .second, .val (.long q4), .second, .val (.int p5), .val (.ref b1), .val (.long ln), .second, .val (.long ((((p5 >>> ((2 : Int32) &&& 31)) % (3 : Int32)).toInt64) - (1 : Int64))), .second, .val (.long sA), .second, .val (.long sB), .second, .val (.long (q1 - q4)), .second, .unset, .unset, .unset, .unset, .unset, .unset, .unset, .unset, .unset, .unset, .unset, .unset] [(.long q1), (.long (q1 - q4))])) _
        refine XS.lload X47.here hx rfl (hb hby at_80) rfl ?_
        show Steps p.tables e below (T47.setTop (mkF m 82 #[.val (.int p0), .val (.long q1), .second, .val (.long q2), .second, .val (.long q3), .second, .val (.long q4), .second, .val (.int p5), .val (.ref b1), .val (.long ln), .second, .val (.long ((((p5 >>> ((2 : Int32) &&& 31)) % (3 : Int32)).toInt64) - (1 : Int64))), .second, .val (.long sA), .second, .val (.long sB), .second, .val (.long (q1 - q4)), .second, .unset, .unset, .unset, .unset, .unset, .unset, .unset, .unset, .unset, .unset, .unset, .unset] [(.long q4), (.long q1), (.long (q1 - q4))])) _
        refine XS.lsub X47.here hx rfl (hb hby at_82) rfl ?_
        show Steps p.tables e below (T47.setTop (mkF m 83 #[.val (.int p0), .val (.long q1), .second, .val (.long q2), .second, .val (.long q3), .second, .val (.long q4), .second, .val (.int p5), .val (.ref b1), .val (.long ln), .second, .val (.long ((((p5 >>> ((2 : Int32) &&& 31)) % (3 : Int32)).toInt64) - (1 : Int64))), .second, .val (.long sA), .second, .val (.long sB), .second, .val (.long (q1 - q4)), .second, .unset, .unset, .unset, .unset, .unset, .unset, .unset, .unset, .unset, .unset, .unset, .unset] [(.long (q1 - q4)), (.long (q1 - q4))])) _
        refine XS.lcmp X47.here hx rfl (hb hby at_83) rfl ?_
        show Steps p.tables e below (T47.setTop (mkF m 84 #[.val (.int p0), .val (.long q1), .second, .val (.long q2), .second, .val (.long q3), .second, .val (.long q4), .second, .val (.int p5), .val (.ref b1), .val (.long ln), .second, .val (.long ((((p5 >>> ((2 : Int32) &&& 31)) % (3 : Int32)).toInt64) - (1 : Int64))), .second, .val (.long sA), .second, .val (.long sB), .second, .val (.long (q1 - q4)), .second, .unset, .unset, .unset, .unset, .unset, .unset, .unset, .unset, .unset, .unset, .unset, .unset] [(.int (lcmpW (q1 - q4) (q1 - q4)))])) _
        refine XS.ifYes X47.here hx rfl (pc0 := 84) (pc' := 89) rfl (hb hby at_84) rfl ((if0 _ _).trans (teq ((lw_eq _ _).mpr rfl)).1) (by decide) (by decide) ?_
        show Steps p.tables e below (T47.setTop (mkF m 89 #[.val (.int p0), .val (.long q1), .second, .val (.long q2), .second, .val (.long q3), .second, .val (.long q4), .second, .val (.int p5), .val (.ref b1), .val (.long ln), .second, .val (.long ((((p5 >>> ((2 : Int32) &&& 31)) % (3 : Int32)).toInt64) - (1 : Int64))), .second, .val (.long sA), .second, .val (.long sB), .second, .val (.long (q1 - q4)), .second, .unset, .unset, .unset, .unset, .unset, .unset, .unset, .unset, .unset, .unset, .unset, .unset] [])) _
        refine XS.aload X47.here hx rfl (hb hby at_89) rfl rfl ?_
        show Steps p.tables e below (T47.setTop (mkF m 91 #[.val (.int p0), .val (.long q1), .second, .val (.long q2), .second, .val (.long q3), .second, .val (.long q4), .second, .val (.int p5), .val (.ref b1), .val (.long ln), .second, .val (.long ((((p5 >>> ((2 : Int32) &&& 31)) % (3 : Int32)).toInt64) - (1 : Int64))), .second, .val (.long sA), .second, .val (.long sB), .second, .val (.long (q1 - q4)), .second, .unset, .unset, .unset, .unset, .unset, .unset, .unset, .unset, .unset, .unset, .unset, .unset] [(.ref b1)])) _
        refine XS.lload X47.here hx rfl (hb hby at_91) rfl ?_
        exact kt)
    by_cases hs49 : (0 : Int64) < ((sA + ln) - q1)
    · skip
      obtain ⟨cq50, kq50, q50a, q50b, q50c⟩ := isOf hZ e47 c17_1
      obtain ⟨_, _, ⟨T50, L50, k50, n50⟩, -, X50, ⟨Lc50, hQ50, l50, y50, z50⟩, st50⟩ := X47.virtualBack hx (y := (⟨"com/example/cluster_log/clusterlog/Lease", "renew", "(J)Z"⟩ : MethodName)) (z := (⟨"com/example/cluster_log/clusterlog/Lease", "renew", "(J)Z"⟩ : MethodName)) hown (mvT hZ (hw _ (List.mem_of_getElem? (i := 42) rfl))) (mvT hZ (hw _ (List.mem_of_getElem? (i := 43) rfl))) (notFace_of_selects (args := #[]) (mvT hZ (hw _ (List.mem_of_getElem? (i := 45) rfl)))) (mvT hZ (hw _ (List.mem_of_getElem? (i := 45) rfl))) (mvT hZ (hw _ (List.mem_of_getElem? (i := 44) rfl))) (by decide) (backOf (W := 0) (rmY l Z aw hw [] b1 sA ln q1 T17.heap n0 (Nat.le_trans (Nat.le_trans Z0 E1.1) c17_0.1) hs49 c17_2 c17_3 c17_1 ge_b1) hZ (hw _ (List.mem_of_getElem? (i := 46) rfl)) (hw _ (List.mem_of_getElem? (i := 2) rfl)) (by decide) (by decide)) q50a q50c (g := (mkF m 93 #[.val (.int p0), .val (.long q1), .second, .val (.long q2), .second, .val (.long q3), .second, .val (.long q4), .second, .val (.int p5), .val (.ref b1), .val (.long ln), .second, .val (.long ((((p5 >>> ((2 : Int32) &&& 31)) % (3 : Int32)).toInt64) - (1 : Int64))), .second, .val (.long sA), .second, .val (.long sB), .second, .val (.long (q1 - q4)), .second, .unset, .unset, .unset, .unset, .unset, .unset, .unset, .unset, .unset, .unset, .unset, .unset] [(.long sA), (.ref b1)])) rfl (by rw [hml]; rfl) (Steps.refl _) (argsL := [(.long sA)]) (rest := []) (lenOf pd_4 rfl) rfl (by show 2 * 0 + _ ≤ _; exact Nat.le_of_eq rfl) (hb hby at_93) (fun _ _ => ⟨rfl, e47, (by decide : 1 + 0 ≤ _), (by decide : 3 + 0 ≤ _)⟩)
      dsimp only [Pt.U, Pt.locs, Pt.cells, Pt.slots] at X50 l50 y50 z50 st50 hQ50
      subst l50 y50 z50
      obtain ⟨rfl, Nq50, c50_0, c50_1, c50_2, c50_3⟩ := hQ50
      have N50 := Fr.app N47 Nq50
      have f51 := (own_sta_keep f18 c50_0 (allS (own_exa_ns c17_1) all0))
      have f52 := (f19.keep c50_0)
      have f53 := (f20.keep c50_0 (ninS ne15 nin0))
      have f54 := (f21.keep c50_0)
      have f55 := (f22.keep c50_0 (ninS ne15 nin0))
      have f56 := (f23.keep c50_0 (ninS ne15 nin0))
      have f57 := (f24.keep c50_0 (ninS ne15 nin0))
      have f58 := (f25.keep c50_0 (ninS ne15 nin0))
      have f59 := (f26.keep c50_0 (ninS ne15 nin0))
      have f60 := (f27.keep c50_0 (ninS ne15 nin0))
      have f61 := (f28.keep c50_0 (ninS ne15 nin0))
      have f62 := (f29.keep c50_0 (ninS ne15 nin0))
      have f63 := (f30.keep c50_0 (ninS ne15 nin0))
      have f64 := (c17_1.keep c50_0)
      have K65 : Keep h0 T50.heap [] := Keep.trans K32 c50_0 (allS (Or.inr sz_b1) all0)
      obtain ⟨_, _, ⟨T66, L66, k66, n66⟩, -, X66, ⟨Lc66, hQ66, l66, y66, z66⟩, st66⟩ := Jvm.LawKit.callS X50 hx (y := (⟨"com/example/cluster_log/clusterlog/LeaseRenewPinLaw", "later", "(JJ)Z"⟩ : MethodName)) hown (mvT hZ (hw _ (List.mem_of_getElem? (i := 47) rfl))) (mvT hZ (hw _ (List.mem_of_getElem? (i := 48) rfl))) (mvT hZ (hw _ (List.mem_of_getElem? (i := 49) rfl))) (mvT hZ (hw _ (List.mem_of_getElem? (i := 50) rfl))) (by decide) (backOf (W := 0) (rm8 l Z aw hw [] (sA + ln) q1 T50.heap n0 (Nat.le_trans (Nat.le_trans (Nat.le_trans Z0 E1.1) c17_0.1) c50_0.1) ) hZ (hw _ (List.mem_of_getElem? (i := 50) rfl)) (hw _ (List.mem_of_getElem? (i := 49) rfl)) (by decide) (by decide)) (g := (mkF m 108 #[.val (.int p0), .val (.long q1), .second, .val (.long q2), .second, .val (.long q3), .second, .val (.long q4), .second, .val (.int p5), .val (.ref b1), .val (.long ln), .second, .val (.long ((((p5 >>> ((2 : Int32) &&& 31)) % (3 : Int32)).toInt64) - (1 : Int64))), .second, .val (.long sA), .second, .val (.long sB), .second, .val (.long (q1 - q4)), .second, .val (.int (1 : Int32)), .val (.long (sA + ln)), .second, .unset, .unset, .unset, .unset, .unset, .unset, .unset, .unset, .unset] [(.long q1), (.long (sA + ln))])) rfl (by rw [hml]; rfl) (argsL := [(.long (sA + ln)), (.long q1)]) (rest := []) (lenOf pd_5 rfl) rfl (by show 2 * 0 + _ ≤ _; exact Nat.le_of_eq rfl) (hb hby at_108) (fun _ _ => ⟨rfl, rfl, (by decide : 1 + 0 ≤ _), (by decide : 3 + 0 ≤ _)⟩)
      dsimp only [Pt.U, Pt.locs, Pt.cells, Pt.slots] at X66 l66 y66 z66 st66 hQ66
      subst l66 y66 z66
      obtain ⟨⟨r67, rfl, Pr67⟩, Nq66, e66⟩ := hQ66
      have N66 := Fr.app N50 Nq66
      have pre68 : ∀ t, Steps p.tables e below (T66.setTop (mkF m 111 #[.val (.int p0), .val (.long q1), .second, .val (.long q2), .second, .val (.long q3), .second, .val (.long q4), .second, .val (.int p5), .val (.ref b1), .val (.long ln), .second, .val (.long ((((p5 >>> ((2 : Int32) &&& 31)) % (3 : Int32)).toInt64) - (1 : Int64))), .second, .val (.long sA), .second, .val (.long sB), .second, .val (.long (q1 - q4)), .second, .val (.int (1 : Int32)), .val (.long (sA + ln)), .second, .unset, .unset, .unset, .unset, .unset, .unset, .unset, .unset, .unset] [(.int r67)])) t → Steps p.tables e below (s₁.setTop (entryFrame m #[(.int p0), (.long q1), (.long q2), (.long q3), (.long q4), (.int p5)] maxLocals)) t := fun t kt => pre48 t (by
          show Steps p.tables e below (T47.setTop (mkF m 93 #[.val (.int p0), .val (.long q1), .second, .val (.long q2), .second, .val (.long q3), .second, .val (.long q4), .second, .val (.int p5), .val (.ref b1), .val (.long ln), .second, .val (.long ((((p5 >>> ((2 : Int32) &&& 31)) % (3 : Int32)).toInt64) - (1 : Int64))), .second, .val (.long sA), .second, .val (.long sB), .second, .val (.long (q1 - q4)), .second, .unset, .unset, .unset, .unset, .unset, .unset, .unset, .unset, .unset, .unset, .unset, .unset] [(.long sA), (.ref b1)])) _
          refine st50.trans ?_
          show Steps p.tables e below (T50.setTop (mkF m 96 #[.val (.int p0), .val (.long q1), .second, .val (.long q2), .second, .val (.long q3), .second, .val (.long q4), .second, .val (.int p5), .val (.ref b1), .val (.long ln), .second, .val (.long ((((p5 >>> ((2 : Int32) &&& 31)) % (3 : Int32)).toInt64) - (1 : Int64))), .second, .val (.long sA), .second, .val (.long sB), .second, .val (.long (q1 - q4)), .second, .unset, .unset, .unset, .unset, .unset, .unset, .unset, .unset, .unset, .unset, .unset, .unset] [(.int (1 : Int32))])) _
          refine XS.istore X50.here hx rfl (hb hby at_96) rfl (l' := #[.val (.int p0), .val (.long q1), .second, .val (.long q2), .second, .val (.long q3), .second, .val (.long q4), .second, .val (.int p5), .val (.ref b1), .val (.long ln), .second, .val (.long ((((p5 >>> ((2 : Int32) &&& 31)) % (3 : Int32)).toInt64) - (1 : Int64))), .second, .val (.long sA), .second, .val (.long sB), .second, .val (.long (q1 - q4)), .second, .val (.int (1 : Int32)), .unset, .unset, .unset, .unset, .unset, .unset, .unset, .unset, .unset, .unset, .unset]) rfl ?_
          show Steps p.tables e below (T50.setTop (mkF m 98 #[.val (.int p0), .val (.long q1), .second, .val (.long q2), .second, .val (.long q3), .second, .val (.long q4), .second, .val (.int p5), .val (.ref b1), .val (.long ln), .second, .val (.long ((((p5 >>> ((2 : Int32) &&& 31)) % (3 : Int32)).toInt64) - (1 : Int64))), .second, .val (.long sA), .second, .val (.long sB), .second, .val (.long (q1 - q4)), .second, .val (.int (1 : Int32)), .unset, .unset, .unset, .unset, .unset, .unset, .unset, .unset, .unset, .unset, .unset] [])) _
          refine XS.lload X50.here hx rfl (hb hby at_98) rfl ?_
          show Steps p.tables e below (T50.setTop (mkF m 100 #[.val (.int p0), .val (.long q1), .second, .val (.long q2), .second, .val (.long q3), .second, .val (.long q4), .second, .val (.int p5), .val (.ref b1), .val (.long ln), .second, .val (.long ((((p5 >>> ((2 : Int32) &&& 31)) % (3 : Int32)).toInt64) - (1 : Int64))), .second, .val (.long sA), .second, .val (.long sB), .second, .val (.long (q1 - q4)), .second, .val (.int (1 : Int32)), .unset, .unset, .unset, .unset, .unset, .unset, .unset, .unset, .unset, .unset, .unset] [(.long sA)])) _
          refine XS.lload X50.here hx rfl (hb hby at_100) rfl ?_
          show Steps p.tables e below (T50.setTop (mkF m 102 #[.val (.int p0), .val (.long q1), .second, .val (.long q2), .second, .val (.long q3), .second, .val (.long q4), .second, .val (.int p5), .val (.ref b1), .val (.long ln), .second, .val (.long ((((p5 >>> ((2 : Int32) &&& 31)) % (3 : Int32)).toInt64) - (1 : Int64))), .second, .val (.long sA), .second, .val (.long sB), .second, .val (.long (q1 - q4)), .second, .val (.int (1 : Int32)), .unset, .unset, .unset, .unset, .unset, .unset, .unset, .unset, .unset, .unset, .unset] [(.long ln), (.long sA)])) _
          refine XS.ladd X50.here hx rfl (hb hby at_102) rfl ?_
          show Steps p.tables e below (T50.setTop (mkF m 103 #[.val (.int p0), .val (.long q1), .second, .val (.long q2), .second, .val (.long q3), .second, .val (.long q4), .second, .val (.int p5), .val (.ref b1), .val (.long ln), .second, .val (.long ((((p5 >>> ((2 : Int32) &&& 31)) % (3 : Int32)).toInt64) - (1 : Int64))), .second, .val (.long sA), .second, .val (.long sB), .second, .val (.long (q1 - q4)), .second, .val (.int (1 : Int32)), .unset, .unset, .unset, .unset, .unset, .unset, .unset, .unset, .unset, .unset, .unset] [(.long (sA + ln))])) _
          refine XS.lstore X50.here hx rfl (hb hby at_103) rfl (l' := #[.val (.int p0), .val (.long q1), .second, .val (.long q2), .second, .val (.long q3), .second, .val (.long q4), .second, .val (.int p5), .val (.ref b1), .val (.long ln), .second, .val (.long ((((p5 >>> ((2 : Int32) &&& 31)) % (3 : Int32)).toInt64) - (1 : Int64))), .second, .val (.long sA), .second, .val (.long sB), .second, .val (.long (q1 - q4)), .second, .val (.int (1 : Int32)), .val (.long (sA + ln)), .second, .unset, .unset, .unset, .unset, .unset, .unset, .unset, .unset, .unset]) rfl ?_
          show Steps p.tables e below (T50.setTop (mkF m 105 #[.val (.int p0), .val (.long q1), .second, .val (.long q2), .second, .val (.long q3), .second, .val (.long q4), .second, .val (.int p5), .val (.ref b1), .val (.long ln), .second, .val (.long ((((p5 >>> ((2 : Int32) &&& 31)) % (3 : Int32)).toInt64) - (1 : Int64))), .second, .val (.long sA), .second, .val (.long sB), .second, .val (.long (q1 - q4)), .second, .val (.int (1 : Int32)), .val (.long (sA + ln)), .second, .unset, .unset, .unset, .unset, .unset, .unset, .unset, .unset, .unset] [])) _
          refine XS.lload X50.here hx rfl (hb hby at_105) rfl ?_
          show Steps p.tables e below (T50.setTop (mkF m 107 #[.val (.int p0), .val (.long q1), .second, .val (.long q2), .second, .val (.long q3), .second, .val (.long q4), .second, .val (.int p5), .val (.ref b1), .val (.long ln), .second, .val (.long ((((p5 >>> ((2 : Int32) &&& 31)) % (3 : Int32)).toInt64) - (1 : Int64))), .second, .val (.long sA), .second, .val (.long sB), .second, .val (.long (q1 - q4)), .second, .val (.int (1 : Int32)), .val (.long (sA + ln)), .second, .unset, .unset, .unset, .unset, .unset, .unset, .unset, .unset, .unset] [(.long (sA + ln))])) _
          refine XS.lloadN X50.here hx rfl (hb hby at_107) rfl ?_
          show Steps p.tables e below (T50.setTop (mkF m 108 #[.val (.int p0), .val (.long q1), .second, .val (.long q2), .second, .val (.long q3), .second, .val (.long q4), .second, .val (.int p5), .val (.ref b1), .val (.long ln), .second, .val (.long ((((p5 >>> ((2 : Int32) &&& 31)) % (3 : Int32)).toInt64) - (1 : Int64))), .second, .val (.long sA), .second, .val (.long sB), .second, .val (.long (q1 - q4)), .second, .val (.int (1 : Int32)), .val (.long (sA + ln)), .second, .unset, .unset, .unset, .unset, .unset, .unset, .unset, .unset, .unset] [(.long q1), (.long (sA + ln))])) _
          refine st66 _ ?_
          exact kt)
      obtain rfl : (1 : Int32) = r67 := Pr67.1 hs49
      obtain ⟨cq69, kq69, q69a, q69b, q69c⟩ := isOf hZ e66 c50_1
      obtain ⟨_, _, ⟨T69, L69, k69, n69⟩, -, X69, ⟨Lc69, hQ69, l69, y69, z69⟩, st69⟩ := X66.virtualBack hx (y := (⟨"com/example/cluster_log/clusterlog/Lease", "left", "(J)J"⟩ : MethodName)) (z := (⟨"com/example/cluster_log/clusterlog/Lease", "left", "(J)J"⟩ : MethodName)) hown (mvT hZ (hw _ (List.mem_of_getElem? (i := 37) rfl))) (mvT hZ (hw _ (List.mem_of_getElem? (i := 38) rfl))) (notFace_of_selects (args := #[]) (mvT hZ (hw _ (List.mem_of_getElem? (i := 40) rfl)))) (mvT hZ (hw _ (List.mem_of_getElem? (i := 40) rfl))) (mvT hZ (hw _ (List.mem_of_getElem? (i := 39) rfl))) (by decide) (backOf (W := 0) (rm6 l Z aw hw [] b1 q4 (sA + ln) T50.heap n0 (Nat.le_trans (Nat.le_trans (Nat.le_trans Z0 E1.1) c17_0.1) c50_0.1) c50_3) hZ (hw _ (List.mem_of_getElem? (i := 41) rfl)) (hw _ (List.mem_of_getElem? (i := 2) rfl)) (by decide) (by decide)) q69a q69c (g := (mkF m 139 #[.val (.int p0), .val (.long q1), .second, .val (.long q2), .second, .val (.long q3), .second, .val (.long q4), .second, .val (.int p5), .val (.ref b1), .val (.long ln), .second, .val (.long ((((p5 >>> ((2 : Int32) &&& 31)) % (3 : Int32)).toInt64) - (1 : Int64))), .second, .val (.long sA), .second, .val (.long sB), .second, .val (.long (q1 - q4)), .second, .val (.int (1 : Int32)), .val (.long (sA + ln)), .second, .val (.int (1 : Int32)), .val (.long (sA + ln)), .second, .unset, .unset, .unset, .unset, .unset, .unset] [(.long q4), (.ref b1)])) rfl (by rw [hml]; rfl) (Steps.refl _) (argsL := [(.long q4)]) (rest := []) (lenOf pd_0 rfl) rfl (by show 2 * 0 + _ ≤ _; exact Nat.le_of_eq rfl) (hb hby at_139) (fun _ _ => ⟨rfl, e66, (by decide : 1 + 0 ≤ _), (by decide : 3 + 0 ≤ _)⟩)
      dsimp only [Pt.U, Pt.locs, Pt.cells, Pt.slots] at X69 l69 y69 z69 st69 hQ69
      subst l69 y69 z69
      obtain ⟨rfl, Nq69, e69⟩ := hQ69
      have N69 := Fr.app N66 Nq69
      have pre70 : ∀ t, Steps p.tables e below (T69.setTop (mkF m 157 #[.val (.int p0), .val (.long q1), .second, .val (.long q2), .second, .val (.long q3), .second, .val (.long q4), .second, .val (.int p5), .val (.ref b1), .val (.long ln), .second, .val (.long ((((p5 >>> ((2 : Int32) &&& 31)) % (3 : Int32)).toInt64) - (1 : Int64))), .second, .val (.long sA), .second, .val (.long sB), .second, .val (.long (q1 - q4)), .second, .val (.int (1 : Int32)), .val (.long (sA + ln)), .second, .val (.int (1 : Int32)), .val (.long (sA + ln)), .second, .unset, .unset, .unset, .unset, .unset, .unset] [(.long sB), (.ref b1)])) t → Steps p.tables e below (s₁.setTop (entryFrame m #[(.int p0), (.long q1), (.long q2), (.long q3), (.long q4), (.int p5)] maxLocals)) t := fun t kt => pre68 t (by
          show Steps p.tables e below (T66.setTop (mkF m 111 #[.val (.int p0), .val (.long q1), .second, .val (.long q2), .second, .val (.long q3), .second, .val (.long q4), .second, .val (.int p5), .val (.ref b1), .val (.long ln), .second, .val (.long ((((p5 >>> ((2 : Int32) &&& 31)) % (3 : Int32)).toInt64) - (1 : Int64))), .second, .val (.long sA), .second, .val (.long sB), .second, .val (.long (q1 - q4)), .second, .val (.int (1 : Int32)), .val (.long (sA + ln)), .second, .unset, .unset, .unset, .unset, .unset, .unset, .unset, .unset, .unset] [(.int (1 : Int32))])) _
          refine XS.istore X66.here hx rfl (hb hby at_111) rfl (l' := #[.val (.int p0), .val (.long q1), .second, .val (.long q2), .second, .val (.long q3), .second, .val (.long q4), .second, .val (.int p5), .val (.ref b1), .val (.long ln), .second, .val (.long ((((p5 >>> ((2 : Int32) &&& 31)) % (3 : Int32)).toInt64) - (1 : Int64))), .second, .val (.long sA), .second, .val (.long sB), .second, .val (.long (q1 - q4)), .second, .val (.int (1 : Int32)), .val (.long (sA + ln)), .second, .val (.int (1 : Int32)), .unset, .unset, .unset, .unset, .unset, .unset, .unset, .unset]) rfl ?_
          show Steps p.tables e below (T66.setTop (mkF m 113 #[.val (.int p0), .val (.long q1), .second, .val (.long q2), .second, .val (.long q3), .second, .val (.long q4), .second, .val (.int p5), .val (.ref b1), .val (.long ln), .second, .val (.long ((((p5 >>> ((2 : Int32) &&& 31)) % (3 : Int32)).toInt64) - (1 : Int64))), .second, .val (.long sA), .second, .val (.long sB), .second, .val (.long (q1 - q4)), .second, .val (.int (1 : Int32)), .val (.long (sA + ln)), .second, .val (.int (1 : Int32)), .unset, .unset, .unset, .unset, .unset, .unset, .unset, .unset] [])) _
          refine XS.iload X66.here hx rfl (hb hby at_113) rfl ?_
          show Steps p.tables e below (T66.setTop (mkF m 115 #[.val (.int p0), .val (.long q1), .second, .val (.long q2), .second, .val (.long q3), .second, .val (.long q4), .second, .val (.int p5), .val (.ref b1), .val (.long ln), .second, .val (.long ((((p5 >>> ((2 : Int32) &&& 31)) % (3 : Int32)).toInt64) - (1 : Int64))), .second, .val (.long sA), .second, .val (.long sB), .second, .val (.long (q1 - q4)), .second, .val (.int (1 : Int32)), .val (.long (sA + ln)), .second, .val (.int (1 : Int32)), .unset, .unset, .unset, .unset, .unset, .unset, .unset, .unset] [(.int (1 : Int32))])) _
          refine XS.ifNo X66.here hx rfl (hb hby at_115) rfl ((if0 _ _).trans (feq (by decide : ¬ ((1 : Int32) = (0 : Int32)))).1) ?_
          show Steps p.tables e below (T66.setTop (mkF m 118 #[.val (.int p0), .val (.long q1), .second, .val (.long q2), .second, .val (.long q3), .second, .val (.long q4), .second, .val (.int p5), .val (.ref b1), .val (.long ln), .second, .val (.long ((((p5 >>> ((2 : Int32) &&& 31)) % (3 : Int32)).toInt64) - (1 : Int64))), .second, .val (.long sA), .second, .val (.long sB), .second, .val (.long (q1 - q4)), .second, .val (.int (1 : Int32)), .val (.long (sA + ln)), .second, .val (.int (1 : Int32)), .unset, .unset, .unset, .unset, .unset, .unset, .unset, .unset] [])) _
          refine XS.lload X66.here hx rfl (hb hby at_118) rfl ?_
          show Steps p.tables e below (T66.setTop (mkF m 120 #[.val (.int p0), .val (.long q1), .second, .val (.long q2), .second, .val (.long q3), .second, .val (.long q4), .second, .val (.int p5), .val (.ref b1), .val (.long ln), .second, .val (.long ((((p5 >>> ((2 : Int32) &&& 31)) % (3 : Int32)).toInt64) - (1 : Int64))), .second, .val (.long sA), .second, .val (.long sB), .second, .val (.long (q1 - q4)), .second, .val (.int (1 : Int32)), .val (.long (sA + ln)), .second, .val (.int (1 : Int32)), .unset, .unset, .unset, .unset, .unset, .unset, .unset, .unset] [(.long (sA + ln))])) _
          refine XS.goto X66.here hx rfl (pc0 := 120) (pc' := 124) rfl (hb hby at_120) (by decide) (by decide) ?_
          show Steps p.tables e below (T66.setTop (mkF m 124 #[.val (.int p0), .val (.long q1), .second, .val (.long q2), .second, .val (.long q3), .second, .val (.long q4), .second, .val (.int p5), .val (.ref b1), .val (.long ln), .second, .val (.long ((((p5 >>> ((2 : Int32) &&& 31)) % (3 : Int32)).toInt64) - (1 : Int64))), .second, .val (.long sA), .second, .val (.long sB), .second, .val (.long (q1 - q4)), .second, .val (.int (1 : Int32)), .val (.long (sA + ln)), .second, .val (.int (1 : Int32)), .unset, .unset, .unset, .unset, .unset, .unset, .unset, .unset] [(.long (sA + ln))])) _
          refine XS.lstore X66.here hx rfl (hb hby at_124) rfl (l' := #[.val (.int p0), .val (.long q1), .second, .val (.long q2), .second, .val (.long q3), .second, .val (.long q4), .second, .val (.int p5), .val (.ref b1), .val (.long ln), .second, .val (.long ((((p5 >>> ((2 : Int32) &&& 31)) % (3 : Int32)).toInt64) - (1 : Int64))), .second, .val (.long sA), .second, .val (.long sB), .second, .val (.long (q1 - q4)), .second, .val (.int (1 : Int32)), .val (.long (sA + ln)), .second, .val (.int (1 : Int32)), .val (.long (sA + ln)), .second, .unset, .unset, .unset, .unset, .unset, .unset]) rfl ?_
          show Steps p.tables e below (T66.setTop (mkF m 126 #[.val (.int p0), .val (.long q1), .second, .val (.long q2), .second, .val (.long q3), .second, .val (.long q4), .second, .val (.int p5), .val (.ref b1), .val (.long ln), .second, .val (.long ((((p5 >>> ((2 : Int32) &&& 31)) % (3 : Int32)).toInt64) - (1 : Int64))), .second, .val (.long sA), .second, .val (.long sB), .second, .val (.long (q1 - q4)), .second, .val (.int (1 : Int32)), .val (.long (sA + ln)), .second, .val (.int (1 : Int32)), .val (.long (sA + ln)), .second, .unset, .unset, .unset, .unset, .unset, .unset] [])) _
          refine XS.iload X66.here hx rfl (hb hby at_126) rfl ?_
          show Steps p.tables e below (T66.setTop (mkF m 128 #[.val (.int p0), .val (.long q1), .second, .val (.long q2), .second, .val (.long q3), .second, .val (.long q4), .second, .val (.int p5), .val (.ref b1), .val (.long ln), .second, .val (.long ((((p5 >>> ((2 : Int32) &&& 31)) % (3 : Int32)).toInt64) - (1 : Int64))), .second, .val (.long sA), .second, .val (.long sB), .second, .val (.long (q1 - q4)), .second, .val (.int (1 : Int32)), .val (.long (sA + ln)), .second, .val (.int (1 : Int32)), .val (.long (sA + ln)), .second, .unset, .unset, .unset, .unset, .unset, .unset] [(.int (1 : Int32))])) _
          refine XS.iload X66.here hx rfl (hb hby at_128) rfl ?_
          show Steps p.tables e below (T66.setTop (mkF m 130 #[.val (.int p0), .val (.long q1), .second, .val (.long q2), .second, .val (.long q3), .second, .val (.long q4), .second, .val (.int p5), .val (.ref b1), .val (.long ln), .second, .val (.long ((((p5 >>> ((2 : Int32) &&& 31)) % (3 : Int32)).toInt64) - (1 : Int64))), .second, .val (.long sA), .second, .val (.long sB), .second, .val (.long (q1 - q4)), .second, .val (.int (1 : Int32)), .val (.long (sA + ln)), .second, .val (.int (1 : Int32)), .val (.long (sA + ln)), .second, .unset, .unset, .unset, .unset, .unset, .unset] [(.int (1 : Int32)), (.int (1 : Int32))])) _
          refine XS.icmpYes X66.here hx rfl (pc0 := 130) (pc' := 135) rfl (hb hby at_130) rfl (teq (rfl : (1 : Int32) = (1 : Int32))).1 (by decide) (by decide) ?_
          show Steps p.tables e below (T66.setTop (mkF m 135 #[.val (.int p0), .val (.long q1), .second, .val (.long q2), .second, .val (.long q3), .second, .val (.long q4), .second, .val (.int p5), .val (.ref b1), .val (.long ln), .second, .val (.long ((((p5 >>> ((2 : Int32) &&& 31)) % (3 : Int32)).toInt64) - (1 : Int64))), .second, .val (.long sA), .second, .val (.long sB), .second, .val (.long (q1 - q4)), .second, .val (.int (1 : Int32)), .val (.long (sA + ln)), .second, .val (.int (1 : Int32)), .val (.long (sA + ln)), .second, .unset, .unset, .unset, .unset, .unset, .unset] [])) _
          refine XS.aload X66.here hx rfl (hb hby at_135) rfl rfl ?_
          show Steps p.tables e below (T66.setTop (mkF m 137 #[.val (.int p0), .val (.long q1), .second, .val (.long q2), .second, .val (.long q3), .second, .val (.long q4), .second, .val (.int p5), .val (.ref b1), .val (.long ln), .second, .val (.long ((((p5 >>> ((2 : Int32) &&& 31)) % (3 : Int32)).toInt64) - (1 : Int64))), .second, .val (.long sA), .second, .val (.long sB), .second, .val (.long (q1 - q4)), .second, .val (.int (1 : Int32)), .val (.long (sA + ln)), .second, .val (.int (1 : Int32)), .val (.long (sA + ln)), .second, .unset, .unset, .unset, .unset, .unset, .unset] [(.ref b1)])) _
          refine XS.lload X66.here hx rfl (hb hby at_137) rfl ?_
          show Steps p.tables e below (T66.setTop (mkF m 139 #[.val (.int p0), .val (.long q1), .second, .val (.long q2), .second, .val (.long q3), .second, .val (.long q4), .second, .val (.int p5), .val (.ref b1), .val (.long ln), .second, .val (.long ((((p5 >>> ((2 : Int32) &&& 31)) % (3 : Int32)).toInt64) - (1 : Int64))), .second, .val (.long sA), .second, .val (.long sB), .second, .val (.long (q1 - q4)), .second, .val (.int (1 : Int32)), .val (.long (sA + ln)), .second, .val (.int (1 : Int32)), .val (.long (sA + ln)), .second, .unset, .unset, .unset, .unset, .unset, .unset] [(.long q4), (.ref b1)])) _
          refine st69.trans ?_
          show Steps p.tables e below (T69.setTop (mkF m 142 #[.val (.int p0), .val (.long q1), .second, .val (.long q2), .second, .val (.long q3), .second, .val (.long q4), .second, .val (.int p5), .val (.ref b1), .val (.long ln), .second, .val (.long ((((p5 >>> ((2 : Int32) &&& 31)) % (3 : Int32)).toInt64) - (1 : Int64))), .second, .val (.long sA), .second, .val (.long sB), .second, .val (.long (q1 - q4)), .second, .val (.int (1 : Int32)), .val (.long (sA + ln)), .second, .val (.int (1 : Int32)), .val (.long (sA + ln)), .second, .unset, .unset, .unset, .unset, .unset, .unset] [(.long ((sA + ln) - q4))])) _
          refine XS.lload X69.here hx rfl (hb hby at_142) rfl ?_
          show Steps p.tables e below (T69.setTop (mkF m 144 #[.val (.int p0), .val (.long q1), .second, .val (.long q2), .second, .val (.long q3), .second, .val (.long q4), .second, .val (.int p5), .val (.ref b1), .val (.long ln), .second, .val (.long ((((p5 >>> ((2 : Int32) &&& 31)) % (3 : Int32)).toInt64) - (1 : Int64))), .second, .val (.long sA), .second, .val (.long sB), .second, .val (.long (q1 - q4)), .second, .val (.int (1 : Int32)), .val (.long (sA + ln)), .second, .val (.int (1 : Int32)), .val (.long (sA + ln)), .second, .unset, .unset, .unset, .unset, .unset, .unset] [(.long (sA + ln)), (.long ((sA + ln) - q4))])) _
          refine XS.lload X69.here hx rfl (hb hby at_144) rfl ?_
          show Steps p.tables e below (T69.setTop (mkF m 146 #[.val (.int p0), .val (.long q1), .second, .val (.long q2), .second, .val (.long q3), .second, .val (.long q4), .second, .val (.int p5), .val (.ref b1), .val (.long ln), .second, .val (.long ((((p5 >>> ((2 : Int32) &&& 31)) % (3 : Int32)).toInt64) - (1 : Int64))), .second, .val (.long sA), .second, .val (.long sB), .second, .val (.long (q1 - q4)), .second, .val (.int (1 : Int32)), .val (.long (sA + ln)), .second, .val (.int (1 : Int32)), .val (.long (sA + ln)), .second, .unset, .unset, .unset, .unset, .unset, .unset] [(.long q4), (.long (sA + ln)), (.long ((sA + ln) - q4))])) _
          refine XS.lsub X69.here hx rfl (hb hby at_146) rfl ?_
          show Steps p.tables e below (T69.setTop (mkF m 147 #[.val (.int p0), .val (.long q1), .second, .val (.long q2), .second, .val (.long q3), .second, .val (.long q4), .second, .val (.int p5), .val (.ref b1), .val (.long ln), .second, .val (.long ((((p5 >>> ((2 : Int32) &&& 31)) % (3 : Int32)).toInt64) - (1 : Int64))), .second, .val (.long sA), .second, .val (.long sB), .second, .val (.long (q1 - q4)), .second, .val (.int (1 : Int32)), .val (.long (sA + ln)), .second, .val (.int (1 : Int32)), .val (.long (sA + ln)), .second, .unset, .unset, .unset, .unset, .unset, .unset] [(.long ((sA + ln) - q4)), (.long ((sA + ln) - q4))])) _
          refine XS.lcmp X69.here hx rfl (hb hby at_147) rfl ?_
          show Steps p.tables e below (T69.setTop (mkF m 148 #[.val (.int p0), .val (.long q1), .second, .val (.long q2), .second, .val (.long q3), .second, .val (.long q4), .second, .val (.int p5), .val (.ref b1), .val (.long ln), .second, .val (.long ((((p5 >>> ((2 : Int32) &&& 31)) % (3 : Int32)).toInt64) - (1 : Int64))), .second, .val (.long sA), .second, .val (.long sB), .second, .val (.long (q1 - q4)), .second, .val (.int (1 : Int32)), .val (.long (sA + ln)), .second, .val (.int (1 : Int32)), .val (.long (sA + ln)), .second, .unset, .unset, .unset, .unset, .unset, .unset] [(.int (lcmpW ((sA + ln) - q4) ((sA + ln) - q4)))])) _
          refine XS.ifYes X69.here hx rfl (pc0 := 148) (pc' := 153) rfl (hb hby at_148) rfl ((if0 _ _).trans (teq ((lw_eq _ _).mpr rfl)).1) (by decide) (by decide) ?_
          show Steps p.tables e below (T69.setTop (mkF m 153 #[.val (.int p0), .val (.long q1), .second, .val (.long q2), .second, .val (.long q3), .second, .val (.long q4), .second, .val (.int p5), .val (.ref b1), .val (.long ln), .second, .val (.long ((((p5 >>> ((2 : Int32) &&& 31)) % (3 : Int32)).toInt64) - (1 : Int64))), .second, .val (.long sA), .second, .val (.long sB), .second, .val (.long (q1 - q4)), .second, .val (.int (1 : Int32)), .val (.long (sA + ln)), .second, .val (.int (1 : Int32)), .val (.long (sA + ln)), .second, .unset, .unset, .unset, .unset, .unset, .unset] [])) _
          refine XS.aload X69.here hx rfl (hb hby at_153) rfl rfl ?_
          show Steps p.tables e below (T69.setTop (mkF m 155 #[.val (.int p0), .val (.long q1), .second, .val (.long q2), .second, .val (.long q3), .second, .val (.long q4), .second, .val (.int p5), .val (.ref b1), .val (.long ln), .second, .val (.long ((((p5 >>> ((2 : Int32) &&& 31)) % (3 : Int32)).toInt64) - (1 : Int64))), .second, .val (.long sA), .second, .val (.long sB), .second, .val (.long (q1 - q4)), .second, .val (.int (1 : Int32)), .val (.long (sA + ln)), .second, .val (.int (1 : Int32)), .val (.long (sA + ln)), .second, .unset, .unset, .unset, .unset, .unset, .unset] [(.ref b1)])) _
          refine XS.lload X69.here hx rfl (hb hby at_155) rfl ?_
          exact kt)
      by_cases hs71 : (0 : Int64) < ((sB + ln) - (sA + ln))
      · skip
        obtain ⟨cq72, kq72, q72a, q72b, q72c⟩ := isOf hZ e69 c50_1
        obtain ⟨_, _, ⟨T72, L72, k72, n72⟩, -, X72, ⟨Lc72, hQ72, l72, y72, z72⟩, st72⟩ := X69.virtualBack hx (y := (⟨"com/example/cluster_log/clusterlog/Lease", "renew", "(J)Z"⟩ : MethodName)) (z := (⟨"com/example/cluster_log/clusterlog/Lease", "renew", "(J)Z"⟩ : MethodName)) hown (mvT hZ (hw _ (List.mem_of_getElem? (i := 42) rfl))) (mvT hZ (hw _ (List.mem_of_getElem? (i := 43) rfl))) (notFace_of_selects (args := #[]) (mvT hZ (hw _ (List.mem_of_getElem? (i := 45) rfl)))) (mvT hZ (hw _ (List.mem_of_getElem? (i := 45) rfl))) (mvT hZ (hw _ (List.mem_of_getElem? (i := 44) rfl))) (by decide) (backOf (W := 0) (rmY l Z aw hw [] b1 sB ln (sA + ln) T50.heap n0 (Nat.le_trans (Nat.le_trans (Nat.le_trans Z0 E1.1) c17_0.1) c50_0.1) hs71 c50_2 c50_3 c50_1 ge_b1) hZ (hw _ (List.mem_of_getElem? (i := 46) rfl)) (hw _ (List.mem_of_getElem? (i := 2) rfl)) (by decide) (by decide)) q72a q72c (g := (mkF m 157 #[.val (.int p0), .val (.long q1), .second, .val (.long q2), .second, .val (.long q3), .second, .val (.long q4), .second, .val (.int p5), .val (.ref b1), .val (.long ln), .second, .val (.long ((((p5 >>> ((2 : Int32) &&& 31)) % (3 : Int32)).toInt64) - (1 : Int64))), .second, .val (.long sA), .second, .val (.long sB), .second, .val (.long (q1 - q4)), .second, .val (.int (1 : Int32)), .val (.long (sA + ln)), .second, .val (.int (1 : Int32)), .val (.long (sA + ln)), .second, .unset, .unset, .unset, .unset, .unset, .unset] [(.long sB), (.ref b1)])) rfl (by rw [hml]; rfl) (Steps.refl _) (argsL := [(.long sB)]) (rest := []) (lenOf pd_4 rfl) rfl (by show 2 * 0 + _ ≤ _; exact Nat.le_of_eq rfl) (hb hby at_157) (fun _ _ => ⟨rfl, e69, (by decide : 1 + 0 ≤ _), (by decide : 3 + 0 ≤ _)⟩)
        dsimp only [Pt.U, Pt.locs, Pt.cells, Pt.slots] at X72 l72 y72 z72 st72 hQ72
        subst l72 y72 z72
        obtain ⟨rfl, Nq72, c72_0, c72_1, c72_2, c72_3⟩ := hQ72
        have N72 := Fr.app N69 Nq72
        have f73 := (own_sta_keep f51 c72_0 (allS (own_exa_ns c50_1) all0))
        have f74 := (f52.keep c72_0)
        have f75 := (f53.keep c72_0 (ninS ne15 nin0))
        have f76 := (f54.keep c72_0)
        have f77 := (f55.keep c72_0 (ninS ne15 nin0))
        have f78 := (f56.keep c72_0 (ninS ne15 nin0))
        have f79 := (f57.keep c72_0 (ninS ne15 nin0))
        have f80 := (f58.keep c72_0 (ninS ne15 nin0))
        have f81 := (f59.keep c72_0 (ninS ne15 nin0))
        have f82 := (f60.keep c72_0 (ninS ne15 nin0))
        have f83 := (f61.keep c72_0 (ninS ne15 nin0))
        have f84 := (f62.keep c72_0 (ninS ne15 nin0))
        have f85 := (f63.keep c72_0 (ninS ne15 nin0))
        have f86 := (c50_1.keep c72_0)
        have K87 : Keep h0 T72.heap [] := Keep.trans K65 c72_0 (allS (Or.inr sz_b1) all0)
        obtain ⟨_, _, ⟨T88, L88, k88, n88⟩, -, X88, ⟨Lc88, hQ88, l88, y88, z88⟩, st88⟩ := Jvm.LawKit.callS X72 hx (y := (⟨"com/example/cluster_log/clusterlog/LeaseRenewPinLaw", "later", "(JJ)Z"⟩ : MethodName)) hown (mvT hZ (hw _ (List.mem_of_getElem? (i := 47) rfl))) (mvT hZ (hw _ (List.mem_of_getElem? (i := 48) rfl))) (mvT hZ (hw _ (List.mem_of_getElem? (i := 49) rfl))) (mvT hZ (hw _ (List.mem_of_getElem? (i := 50) rfl))) (by decide) (backOf (W := 0) (rm8 l Z aw hw [] (sB + ln) (sA + ln) T72.heap n0 (Nat.le_trans (Nat.le_trans (Nat.le_trans (Nat.le_trans Z0 E1.1) c17_0.1) c50_0.1) c72_0.1) ) hZ (hw _ (List.mem_of_getElem? (i := 50) rfl)) (hw _ (List.mem_of_getElem? (i := 49) rfl)) (by decide) (by decide)) (g := (mkF m 173 #[.val (.int p0), .val (.long q1), .second, .val (.long q2), .second, .val (.long q3), .second, .val (.long q4), .second, .val (.int p5), .val (.ref b1), .val (.long ln), .second, .val (.long ((((p5 >>> ((2 : Int32) &&& 31)) % (3 : Int32)).toInt64) - (1 : Int64))), .second, .val (.long sA), .second, .val (.long sB), .second, .val (.long (q1 - q4)), .second, .val (.int (1 : Int32)), .val (.long (sA + ln)), .second, .val (.int (1 : Int32)), .val (.long (sA + ln)), .second, .val (.int (1 : Int32)), .val (.long (sB + ln)), .second, .unset, .unset, .unset] [(.long (sA + ln)), (.long (sB + ln))])) rfl (by rw [hml]; rfl) (argsL := [(.long (sB + ln)), (.long (sA + ln))]) (rest := []) (lenOf pd_5 rfl) rfl (by show 2 * 0 + _ ≤ _; exact Nat.le_of_eq rfl) (hb hby at_173) (fun _ _ => ⟨rfl, rfl, (by decide : 1 + 0 ≤ _), (by decide : 3 + 0 ≤ _)⟩)
        dsimp only [Pt.U, Pt.locs, Pt.cells, Pt.slots] at X88 l88 y88 z88 st88 hQ88
        subst l88 y88 z88
        obtain ⟨⟨r89, rfl, Pr89⟩, Nq88, e88⟩ := hQ88
        have N88 := Fr.app N72 Nq88
        have pre90 : ∀ t, Steps p.tables e below (T88.setTop (mkF m 176 #[.val (.int p0), .val (.long q1), .second, .val (.long q2), .second, .val (.long q3), .second, .val (.long q4), .second, .val (.int p5), .val (.ref b1), .val (.long ln), .second, .val (.long ((((p5 >>> ((2 : Int32) &&& 31)) % (3 : Int32)).toInt64) - (1 : Int64))), .second, .val (.long sA), .second, .val (.long sB), .second, .val (.long (q1 - q4)), .second, .val (.int (1 : Int32)), .val (.long (sA + ln)), .second, .val (.int (1 : Int32)), .val (.long (sA + ln)), .second, .val (.int (1 : Int32)), .val (.long (sB + ln)), .second, .unset, .unset, .unset] [(.int r89)])) t → Steps p.tables e below (s₁.setTop (entryFrame m #[(.int p0), (.long q1), (.long q2), (.long q3), (.long q4), (.int p5)] maxLocals)) t := fun t kt => pre70 t (by
            show Steps p.tables e below (T69.setTop (mkF m 157 #[.val (.int p0), .val (.long q1), .second, .val (.long q2), .second, .val (.long q3), .second, .val (.long q4), .second, .val (.int p5), .val (.ref b1), .val (.long ln), .second, .val (.long ((((p5 >>> ((2 : Int32) &&& 31)) % (3 : Int32)).toInt64) - (1 : Int64))), .second, .val (.long sA), .second, .val (.long sB), .second, .val (.long (q1 - q4)), .second, .val (.int (1 : Int32)), .val (.long (sA + ln)), .second, .val (.int (1 : Int32)), .val (.long (sA + ln)), .second, .unset, .unset, .unset, .unset, .unset, .unset] [(.long sB), (.ref b1)])) _
            refine st72.trans ?_
            show Steps p.tables e below (T72.setTop (mkF m 160 #[.val (.int p0), .val (.long q1), .second, .val (.long q2), .second, .val (.long q3), .second, .val (.long q4), .second, .val (.int p5), .val (.ref b1), .val (.long ln), .second, .val (.long ((((p5 >>> ((2 : Int32) &&& 31)) % (3 : Int32)).toInt64) - (1 : Int64))), .second, .val (.long sA), .second, .val (.long sB), .second, .val (.long (q1 - q4)), .second, .val (.int (1 : Int32)), .val (.long (sA + ln)), .second, .val (.int (1 : Int32)), .val (.long (sA + ln)), .second, .unset, .unset, .unset, .unset, .unset, .unset] [(.int (1 : Int32))])) _
            refine XS.istore X72.here hx rfl (hb hby at_160) rfl (l' := #[.val (.int p0), .val (.long q1), .second, .val (.long q2), .second, .val (.long q3), .second, .val (.long q4), .second, .val (.int p5), .val (.ref b1), .val (.long ln), .second, .val (.long ((((p5 >>> ((2 : Int32) &&& 31)) % (3 : Int32)).toInt64) - (1 : Int64))), .second, .val (.long sA), .second, .val (.long sB), .second, .val (.long (q1 - q4)), .second, .val (.int (1 : Int32)), .val (.long (sA + ln)), .second, .val (.int (1 : Int32)), .val (.long (sA + ln)), .second, .val (.int (1 : Int32)), .unset, .unset, .unset, .unset, .unset]) rfl ?_
            show Steps p.tables e below (T72.setTop (mkF m 162 #[.val (.int p0), .val (.long q1), .second, .val (.long q2), .second, .val (.long q3), .second, .val (.long q4), .second, .val (.int p5), .val (.ref b1), .val (.long ln), .second, .val (.long ((((p5 >>> ((2 : Int32) &&& 31)) % (3 : Int32)).toInt64) - (1 : Int64))), .second, .val (.long sA), .second, .val (.long sB), .second, .val (.long (q1 - q4)), .second, .val (.int (1 : Int32)), .val (.long (sA + ln)), .second, .val (.int (1 : Int32)), .val (.long (sA + ln)), .second, .val (.int (1 : Int32)), .unset, .unset, .unset, .unset, .unset] [])) _
            refine XS.lload X72.here hx rfl (hb hby at_162) rfl ?_
            show Steps p.tables e below (T72.setTop (mkF m 164 #[.val (.int p0), .val (.long q1), .second, .val (.long q2), .second, .val (.long q3), .second, .val (.long q4), .second, .val (.int p5), .val (.ref b1), .val (.long ln), .second, .val (.long ((((p5 >>> ((2 : Int32) &&& 31)) % (3 : Int32)).toInt64) - (1 : Int64))), .second, .val (.long sA), .second, .val (.long sB), .second, .val (.long (q1 - q4)), .second, .val (.int (1 : Int32)), .val (.long (sA + ln)), .second, .val (.int (1 : Int32)), .val (.long (sA + ln)), .second, .val (.int (1 : Int32)), .unset, .unset, .unset, .unset, .unset] [(.long sB)])) _
            refine XS.lload X72.here hx rfl (hb hby at_164) rfl ?_
            show Steps p.tables e below (T72.setTop (mkF m 166 #[.val (.int p0), .val (.long q1), .second, .val (.long q2), .second, .val (.long q3), .second, .val (.long q4), .second, .val (.int p5), .val (.ref b1), .val (.long ln), .second, .val (.long ((((p5 >>> ((2 : Int32) &&& 31)) % (3 : Int32)).toInt64) - (1 : Int64))), .second, .val (.long sA), .second, .val (.long sB), .second, .val (.long (q1 - q4)), .second, .val (.int (1 : Int32)), .val (.long (sA + ln)), .second, .val (.int (1 : Int32)), .val (.long (sA + ln)), .second, .val (.int (1 : Int32)), .unset, .unset, .unset, .unset, .unset] [(.long ln), (.long sB)])) _
            refine XS.ladd X72.here hx rfl (hb hby at_166) rfl ?_
            show Steps p.tables e below (T72.setTop (mkF m 167 #[.val (.int p0), .val (.long q1), .second, .val (.long q2), .second, .val (.long q3), .second, .val (.long q4), .second, .val (.int p5), .val (.ref b1), .val (.long ln), .second, .val (.long ((((p5 >>> ((2 : Int32) &&& 31)) % (3 : Int32)).toInt64) - (1 : Int64))), .second, .val (.long sA), .second, .val (.long sB), .second, .val (.long (q1 - q4)), .second, .val (.int (1 : Int32)), .val (.long (sA + ln)), .second, .val (.int (1 : Int32)), .val (.long (sA + ln)), .second, .val (.int (1 : Int32)), .unset, .unset, .unset, .unset, .unset] [(.long (sB + ln))])) _
            refine XS.lstore X72.here hx rfl (hb hby at_167) rfl (l' := #[.val (.int p0), .val (.long q1), .second, .val (.long q2), .second, .val (.long q3), .second, .val (.long q4), .second, .val (.int p5), .val (.ref b1), .val (.long ln), .second, .val (.long ((((p5 >>> ((2 : Int32) &&& 31)) % (3 : Int32)).toInt64) - (1 : Int64))), .second, .val (.long sA), .second, .val (.long sB), .second, .val (.long (q1 - q4)), .second, .val (.int (1 : Int32)), .val (.long (sA + ln)), .second, .val (.int (1 : Int32)), .val (.long (sA + ln)), .second, .val (.int (1 : Int32)), .val (.long (sB + ln)), .second, .unset, .unset, .unset]) rfl ?_
            show Steps p.tables e below (T72.setTop (mkF m 169 #[.val (.int p0), .val (.long q1), .second, .val (.long q2), .second, .val (.long q3), .second, .val (.long q4), .second, .val (.int p5), .val (.ref b1), .val (.long ln), .second, .val (.long ((((p5 >>> ((2 : Int32) &&& 31)) % (3 : Int32)).toInt64) - (1 : Int64))), .second, .val (.long sA), .second, .val (.long sB), .second, .val (.long (q1 - q4)), .second, .val (.int (1 : Int32)), .val (.long (sA + ln)), .second, .val (.int (1 : Int32)), .val (.long (sA + ln)), .second, .val (.int (1 : Int32)), .val (.long (sB + ln)), .second, .unset, .unset, .unset] [])) _
            refine XS.lload X72.here hx rfl (hb hby at_169) rfl ?_
            show Steps p.tables e below (T72.setTop (mkF m 171 #[.val (.int p0), .val (.long q1), .second, .val (.long q2), .second, .val (.long q3), .second, .val (.long q4), .second, .val (.int p5), .val (.ref b1), .val (.long ln), .second, .val (.long ((((p5 >>> ((2 : Int32) &&& 31)) % (3 : Int32)).toInt64) - (1 : Int64))), .second, .val (.long sA), .second, .val (.long sB), .second, .val (.long (q1 - q4)), .second, .val (.int (1 : Int32)), .val (.long (sA + ln)), .second, .val (.int (1 : Int32)), .val (.long (sA + ln)), .second, .val (.int (1 : Int32)), .val (.long (sB + ln)), .second, .unset, .unset, .unset] [(.long (sB + ln))])) _
            refine XS.lload X72.here hx rfl (hb hby at_171) rfl ?_
            show Steps p.tables e below (T72.setTop (mkF m 173 #[.val (.int p0), .val (.long q1), .second, .val (.long q2), .second, .val (.long q3), .second, .val (.long q4), .second, .val (.int p5), .val (.ref b1), .val (.long ln), .second, .val (.long ((((p5 >>> ((2 : Int32) &&& 31)) % (3 : Int32)).toInt64) - (1 : Int64))), .second, .val (.long sA), .second, .val (.long sB), .second, .val (.long (q1 - q4)), .second, .val (.int (1 : Int32)), .val (.long (sA + ln)), .second, .val (.int (1 : Int32)), .val (.long (sA + ln)), .second, .val (.int (1 : Int32)), .val (.long (sB + ln)), .second, .unset, .unset, .unset] [(.long (sA + ln)), (.long (sB + ln))])) _
            refine st88 _ ?_
            exact kt)
        obtain rfl : (1 : Int32) = r89 := Pr89.1 hs71
        obtain ⟨cq91, kq91, q91a, q91b, q91c⟩ := isOf hZ e88 c72_1
        obtain ⟨_, _, ⟨T91, L91, k91, n91⟩, -, X91, ⟨Lc91, hQ91, l91, y91, z91⟩, st91⟩ := X88.virtualBack hx (y := (⟨"com/example/cluster_log/clusterlog/Lease", "left", "(J)J"⟩ : MethodName)) (z := (⟨"com/example/cluster_log/clusterlog/Lease", "left", "(J)J"⟩ : MethodName)) hown (mvT hZ (hw _ (List.mem_of_getElem? (i := 37) rfl))) (mvT hZ (hw _ (List.mem_of_getElem? (i := 38) rfl))) (notFace_of_selects (args := #[]) (mvT hZ (hw _ (List.mem_of_getElem? (i := 40) rfl)))) (mvT hZ (hw _ (List.mem_of_getElem? (i := 40) rfl))) (mvT hZ (hw _ (List.mem_of_getElem? (i := 39) rfl))) (by decide) (backOf (W := 0) (rm6 l Z aw hw [] b1 q4 (sB + ln) T72.heap n0 (Nat.le_trans (Nat.le_trans (Nat.le_trans (Nat.le_trans Z0 E1.1) c17_0.1) c50_0.1) c72_0.1) c72_3) hZ (hw _ (List.mem_of_getElem? (i := 41) rfl)) (hw _ (List.mem_of_getElem? (i := 2) rfl)) (by decide) (by decide)) q91a q91c (g := (mkF m 205 #[.val (.int p0), .val (.long q1), .second, .val (.long q2), .second, .val (.long q3), .second, .val (.long q4), .second, .val (.int p5), .val (.ref b1), .val (.long ln), .second, .val (.long ((((p5 >>> ((2 : Int32) &&& 31)) % (3 : Int32)).toInt64) - (1 : Int64))), .second, .val (.long sA), .second, .val (.long sB), .second, .val (.long (q1 - q4)), .second, .val (.int (1 : Int32)), .val (.long (sA + ln)), .second, .val (.int (1 : Int32)), .val (.long (sA + ln)), .second, .val (.int (1 : Int32)), .val (.long (sB + ln)), .second, .val (.int (1 : Int32)), .val (.long (sB + ln)), .second] [(.long q4), (.ref b1)])) rfl (by rw [hml]; rfl) (Steps.refl _) (argsL := [(.long q4)]) (rest := []) (lenOf pd_0 rfl) rfl (by show 2 * 0 + _ ≤ _; exact Nat.le_of_eq rfl) (hb hby at_205) (fun _ _ => ⟨rfl, e88, (by decide : 1 + 0 ≤ _), (by decide : 3 + 0 ≤ _)⟩)
        dsimp only [Pt.U, Pt.locs, Pt.cells, Pt.slots] at X91 l91 y91 z91 st91 hQ91
        subst l91 y91 z91
        obtain ⟨rfl, Nq91, e91⟩ := hQ91
        have N91 := Fr.app N88 Nq91
        have pre92 : ∀ t, Steps p.tables e below (T91.setTop (mkF m 222 #[.val (.int p0), .val (.long q1), .second, .val (.long q2), .second, .val (.long q3), .second, .val (.long q4), .second, .val (.int p5), .val (.ref b1), .val (.long ln), .second, .val (.long ((((p5 >>> ((2 : Int32) &&& 31)) % (3 : Int32)).toInt64) - (1 : Int64))), .second, .val (.long sA), .second, .val (.long sB), .second, .val (.long (q1 - q4)), .second, .val (.int (1 : Int32)), .val (.long (sA + ln)), .second, .val (.int (1 : Int32)), .val (.long (sA + ln)), .second, .val (.int (1 : Int32)), .val (.long (sB + ln)), .second, .val (.int (1 : Int32)), .val (.long (sB + ln)), .second] [(.int (1 : Int32))])) t → Steps p.tables e below (s₁.setTop (entryFrame m #[(.int p0), (.long q1), (.long q2), (.long q3), (.long q4), (.int p5)] maxLocals)) t := fun t kt => pre90 t (by
            show Steps p.tables e below (T88.setTop (mkF m 176 #[.val (.int p0), .val (.long q1), .second, .val (.long q2), .second, .val (.long q3), .second, .val (.long q4), .second, .val (.int p5), .val (.ref b1), .val (.long ln), .second, .val (.long ((((p5 >>> ((2 : Int32) &&& 31)) % (3 : Int32)).toInt64) - (1 : Int64))), .second, .val (.long sA), .second, .val (.long sB), .second, .val (.long (q1 - q4)), .second, .val (.int (1 : Int32)), .val (.long (sA + ln)), .second, .val (.int (1 : Int32)), .val (.long (sA + ln)), .second, .val (.int (1 : Int32)), .val (.long (sB + ln)), .second, .unset, .unset, .unset] [(.int (1 : Int32))])) _
            refine XS.istore X88.here hx rfl (hb hby at_176) rfl (l' := #[.val (.int p0), .val (.long q1), .second, .val (.long q2), .second, .val (.long q3), .second, .val (.long q4), .second, .val (.int p5), .val (.ref b1), .val (.long ln), .second, .val (.long ((((p5 >>> ((2 : Int32) &&& 31)) % (3 : Int32)).toInt64) - (1 : Int64))), .second, .val (.long sA), .second, .val (.long sB), .second, .val (.long (q1 - q4)), .second, .val (.int (1 : Int32)), .val (.long (sA + ln)), .second, .val (.int (1 : Int32)), .val (.long (sA + ln)), .second, .val (.int (1 : Int32)), .val (.long (sB + ln)), .second, .val (.int (1 : Int32)), .unset, .unset]) rfl ?_
            show Steps p.tables e below (T88.setTop (mkF m 178 #[.val (.int p0), .val (.long q1), .second, .val (.long q2), .second, .val (.long q3), .second, .val (.long q4), .second, .val (.int p5), .val (.ref b1), .val (.long ln), .second, .val (.long ((((p5 >>> ((2 : Int32) &&& 31)) % (3 : Int32)).toInt64) - (1 : Int64))), .second, .val (.long sA), .second, .val (.long sB), .second, .val (.long (q1 - q4)), .second, .val (.int (1 : Int32)), .val (.long (sA + ln)), .second, .val (.int (1 : Int32)), .val (.long (sA + ln)), .second, .val (.int (1 : Int32)), .val (.long (sB + ln)), .second, .val (.int (1 : Int32)), .unset, .unset] [])) _
            refine XS.iload X88.here hx rfl (hb hby at_178) rfl ?_
            show Steps p.tables e below (T88.setTop (mkF m 180 #[.val (.int p0), .val (.long q1), .second, .val (.long q2), .second, .val (.long q3), .second, .val (.long q4), .second, .val (.int p5), .val (.ref b1), .val (.long ln), .second, .val (.long ((((p5 >>> ((2 : Int32) &&& 31)) % (3 : Int32)).toInt64) - (1 : Int64))), .second, .val (.long sA), .second, .val (.long sB), .second, .val (.long (q1 - q4)), .second, .val (.int (1 : Int32)), .val (.long (sA + ln)), .second, .val (.int (1 : Int32)), .val (.long (sA + ln)), .second, .val (.int (1 : Int32)), .val (.long (sB + ln)), .second, .val (.int (1 : Int32)), .unset, .unset] [(.int (1 : Int32))])) _
            refine XS.ifNo X88.here hx rfl (hb hby at_180) rfl ((if0 _ _).trans (feq (by decide : ¬ ((1 : Int32) = (0 : Int32)))).1) ?_
            show Steps p.tables e below (T88.setTop (mkF m 183 #[.val (.int p0), .val (.long q1), .second, .val (.long q2), .second, .val (.long q3), .second, .val (.long q4), .second, .val (.int p5), .val (.ref b1), .val (.long ln), .second, .val (.long ((((p5 >>> ((2 : Int32) &&& 31)) % (3 : Int32)).toInt64) - (1 : Int64))), .second, .val (.long sA), .second, .val (.long sB), .second, .val (.long (q1 - q4)), .second, .val (.int (1 : Int32)), .val (.long (sA + ln)), .second, .val (.int (1 : Int32)), .val (.long (sA + ln)), .second, .val (.int (1 : Int32)), .val (.long (sB + ln)), .second, .val (.int (1 : Int32)), .unset, .unset] [])) _
            refine XS.lload X88.here hx rfl (hb hby at_183) rfl ?_
            show Steps p.tables e below (T88.setTop (mkF m 185 #[.val (.int p0), .val (.long q1), .second, .val (.long q2), .second, .val (.long q3), .second, .val (.long q4), .second, .val (.int p5), .val (.ref b1), .val (.long ln), .second, .val (.long ((((p5 >>> ((2 : Int32) &&& 31)) % (3 : Int32)).toInt64) - (1 : Int64))), .second, .val (.long sA), .second, .val (.long sB), .second, .val (.long (q1 - q4)), .second, .val (.int (1 : Int32)), .val (.long (sA + ln)), .second, .val (.int (1 : Int32)), .val (.long (sA + ln)), .second, .val (.int (1 : Int32)), .val (.long (sB + ln)), .second, .val (.int (1 : Int32)), .unset, .unset] [(.long (sB + ln))])) _
            refine XS.goto X88.here hx rfl (pc0 := 185) (pc' := 190) rfl (hb hby at_185) (by decide) (by decide) ?_
            show Steps p.tables e below (T88.setTop (mkF m 190 #[.val (.int p0), .val (.long q1), .second, .val (.long q2), .second, .val (.long q3), .second, .val (.long q4), .second, .val (.int p5), .val (.ref b1), .val (.long ln), .second, .val (.long ((((p5 >>> ((2 : Int32) &&& 31)) % (3 : Int32)).toInt64) - (1 : Int64))), .second, .val (.long sA), .second, .val (.long sB), .second, .val (.long (q1 - q4)), .second, .val (.int (1 : Int32)), .val (.long (sA + ln)), .second, .val (.int (1 : Int32)), .val (.long (sA + ln)), .second, .val (.int (1 : Int32)), .val (.long (sB + ln)), .second, .val (.int (1 : Int32)), .unset, .unset] [(.long (sB + ln))])) _
            refine XS.lstore X88.here hx rfl (hb hby at_190) rfl (l' := #[.val (.int p0), .val (.long q1), .second, .val (.long q2), .second, .val (.long q3), .second, .val (.long q4), .second, .val (.int p5), .val (.ref b1), .val (.long ln), .second, .val (.long ((((p5 >>> ((2 : Int32) &&& 31)) % (3 : Int32)).toInt64) - (1 : Int64))), .second, .val (.long sA), .second, .val (.long sB), .second, .val (.long (q1 - q4)), .second, .val (.int (1 : Int32)), .val (.long (sA + ln)), .second, .val (.int (1 : Int32)), .val (.long (sA + ln)), .second, .val (.int (1 : Int32)), .val (.long (sB + ln)), .second, .val (.int (1 : Int32)), .val (.long (sB + ln)), .second]) rfl ?_
            show Steps p.tables e below (T88.setTop (mkF m 192 #[.val (.int p0), .val (.long q1), .second, .val (.long q2), .second, .val (.long q3), .second, .val (.long q4), .second, .val (.int p5), .val (.ref b1), .val (.long ln), .second, .val (.long ((((p5 >>> ((2 : Int32) &&& 31)) % (3 : Int32)).toInt64) - (1 : Int64))), .second, .val (.long sA), .second, .val (.long sB), .second, .val (.long (q1 - q4)), .second, .val (.int (1 : Int32)), .val (.long (sA + ln)), .second, .val (.int (1 : Int32)), .val (.long (sA + ln)), .second, .val (.int (1 : Int32)), .val (.long (sB + ln)), .second, .val (.int (1 : Int32)), .val (.long (sB + ln)), .second] [])) _
            refine XS.iload X88.here hx rfl (hb hby at_192) rfl ?_
            show Steps p.tables e below (T88.setTop (mkF m 194 #[.val (.int p0), .val (.long q1), .second, .val (.long q2), .second, .val (.long q3), .second, .val (.long q4), .second, .val (.int p5), .val (.ref b1), .val (.long ln), .second, .val (.long ((((p5 >>> ((2 : Int32) &&& 31)) % (3 : Int32)).toInt64) - (1 : Int64))), .second, .val (.long sA), .second, .val (.long sB), .second, .val (.long (q1 - q4)), .second, .val (.int (1 : Int32)), .val (.long (sA + ln)), .second, .val (.int (1 : Int32)), .val (.long (sA + ln)), .second, .val (.int (1 : Int32)), .val (.long (sB + ln)), .second, .val (.int (1 : Int32)), .val (.long (sB + ln)), .second] [(.int (1 : Int32))])) _
            refine XS.iload X88.here hx rfl (hb hby at_194) rfl ?_
            show Steps p.tables e below (T88.setTop (mkF m 196 #[.val (.int p0), .val (.long q1), .second, .val (.long q2), .second, .val (.long q3), .second, .val (.long q4), .second, .val (.int p5), .val (.ref b1), .val (.long ln), .second, .val (.long ((((p5 >>> ((2 : Int32) &&& 31)) % (3 : Int32)).toInt64) - (1 : Int64))), .second, .val (.long sA), .second, .val (.long sB), .second, .val (.long (q1 - q4)), .second, .val (.int (1 : Int32)), .val (.long (sA + ln)), .second, .val (.int (1 : Int32)), .val (.long (sA + ln)), .second, .val (.int (1 : Int32)), .val (.long (sB + ln)), .second, .val (.int (1 : Int32)), .val (.long (sB + ln)), .second] [(.int (1 : Int32)), (.int (1 : Int32))])) _
            refine XS.icmpYes X88.here hx rfl (pc0 := 196) (pc' := 201) rfl (hb hby at_196) rfl (teq (rfl : (1 : Int32) = (1 : Int32))).1 (by decide) (by decide) ?_
            show Steps p.tables e below (T88.setTop (mkF m 201 #[.val (.int p0), .val (.long q1), .second, .val (.long q2), .second, .val (.long q3), .second, .val (.long q4), .second, .val (.int p5), .val (.ref b1), .val (.long ln), .second, .val (.long ((((p5 >>> ((2 : Int32) &&& 31)) % (3 : Int32)).toInt64) - (1 : Int64))), .second, .val (.long sA), .second, .val (.long sB), .second, .val (.long (q1 - q4)), .second, .val (.int (1 : Int32)), .val (.long (sA + ln)), .second, .val (.int (1 : Int32)), .val (.long (sA + ln)), .second, .val (.int (1 : Int32)), .val (.long (sB + ln)), .second, .val (.int (1 : Int32)), .val (.long (sB + ln)), .second] [])) _
            refine XS.aload X88.here hx rfl (hb hby at_201) rfl rfl ?_
            show Steps p.tables e below (T88.setTop (mkF m 203 #[.val (.int p0), .val (.long q1), .second, .val (.long q2), .second, .val (.long q3), .second, .val (.long q4), .second, .val (.int p5), .val (.ref b1), .val (.long ln), .second, .val (.long ((((p5 >>> ((2 : Int32) &&& 31)) % (3 : Int32)).toInt64) - (1 : Int64))), .second, .val (.long sA), .second, .val (.long sB), .second, .val (.long (q1 - q4)), .second, .val (.int (1 : Int32)), .val (.long (sA + ln)), .second, .val (.int (1 : Int32)), .val (.long (sA + ln)), .second, .val (.int (1 : Int32)), .val (.long (sB + ln)), .second, .val (.int (1 : Int32)), .val (.long (sB + ln)), .second] [(.ref b1)])) _
            refine XS.lload X88.here hx rfl (hb hby at_203) rfl ?_
            show Steps p.tables e below (T88.setTop (mkF m 205 #[.val (.int p0), .val (.long q1), .second, .val (.long q2), .second, .val (.long q3), .second, .val (.long q4), .second, .val (.int p5), .val (.ref b1), .val (.long ln), .second, .val (.long ((((p5 >>> ((2 : Int32) &&& 31)) % (3 : Int32)).toInt64) - (1 : Int64))), .second, .val (.long sA), .second, .val (.long sB), .second, .val (.long (q1 - q4)), .second, .val (.int (1 : Int32)), .val (.long (sA + ln)), .second, .val (.int (1 : Int32)), .val (.long (sA + ln)), .second, .val (.int (1 : Int32)), .val (.long (sB + ln)), .second, .val (.int (1 : Int32)), .val (.long (sB + ln)), .second] [(.long q4), (.ref b1)])) _
            refine st91.trans ?_
            show Steps p.tables e below (T91.setTop (mkF m 208 #[.val (.int p0), .val (.long q1), .second, .val (.long q2), .second, .val (.long q3), .second, .val (.long q4), .second, .val (.int p5), .val (.ref b1), .val (.long ln), .second, .val (.long ((((p5 >>> ((2 : Int32) &&& 31)) % (3 : Int32)).toInt64) - (1 : Int64))), .second, .val (.long sA), .second, .val (.long sB), .second, .val (.long (q1 - q4)), .second, .val (.int (1 : Int32)), .val (.long (sA + ln)), .second, .val (.int (1 : Int32)), .val (.long (sA + ln)), .second, .val (.int (1 : Int32)), .val (.long (sB + ln)), .second, .val (.int (1 : Int32)), .val (.long (sB + ln)), .second] [(.long ((sB + ln) - q4))])) _
            refine XS.lload X91.here hx rfl (hb hby at_208) rfl ?_
            show Steps p.tables e below (T91.setTop (mkF m 210 #[.val (.int p0), .val (.long q1), .second, .val (.long q2), .second, .val (.long q3), .second, .val (.long q4), .second, .val (.int p5), .val (.ref b1), .val (.long ln), .second, .val (.long ((((p5 >>> ((2 : Int32) &&& 31)) % (3 : Int32)).toInt64) - (1 : Int64))), .second, .val (.long sA), .second, .val (.long sB), .second, .val (.long (q1 - q4)), .second, .val (.int (1 : Int32)), .val (.long (sA + ln)), .second, .val (.int (1 : Int32)), .val (.long (sA + ln)), .second, .val (.int (1 : Int32)), .val (.long (sB + ln)), .second, .val (.int (1 : Int32)), .val (.long (sB + ln)), .second] [(.long (sB + ln)), (.long ((sB + ln) - q4))])) _
            refine XS.lload X91.here hx rfl (hb hby at_210) rfl ?_
            show Steps p.tables e below (T91.setTop (mkF m 212 #[.val (.int p0), .val (.long q1), .second, .val (.long q2), .second, .val (.long q3), .second, .val (.long q4), .second, .val (.int p5), .val (.ref b1), .val (.long ln), .second, .val (.long ((((p5 >>> ((2 : Int32) &&& 31)) % (3 : Int32)).toInt64) - (1 : Int64))), .second, .val (.long sA), .second, .val (.long sB), .second, .val (.long (q1 - q4)), .second, .val (.int (1 : Int32)), .val (.long (sA + ln)), .second, .val (.int (1 : Int32)), .val (.long (sA + ln)), .second, .val (.int (1 : Int32)), .val (.long (sB + ln)), .second, .val (.int (1 : Int32)), .val (.long (sB + ln)), .second] [(.long q4), (.long (sB + ln)), (.long ((sB + ln) - q4))])) _
            refine XS.lsub X91.here hx rfl (hb hby at_212) rfl ?_
            show Steps p.tables e below (T91.setTop (mkF m 213 #[.val (.int p0), .val (.long q1), .second, .val (.long q2), .second, .val (.long q3), .second, .val (.long q4), .second, .val (.int p5), .val (.ref b1), .val (.long ln), .second, .val (.long ((((p5 >>> ((2 : Int32) &&& 31)) % (3 : Int32)).toInt64) - (1 : Int64))), .second, .val (.long sA), .second, .val (.long sB), .second, .val (.long (q1 - q4)), .second, .val (.int (1 : Int32)), .val (.long (sA + ln)), .second, .val (.int (1 : Int32)), .val (.long (sA + ln)), .second, .val (.int (1 : Int32)), .val (.long (sB + ln)), .second, .val (.int (1 : Int32)), .val (.long (sB + ln)), .second] [(.long ((sB + ln) - q4)), (.long ((sB + ln) - q4))])) _
            refine XS.lcmp X91.here hx rfl (hb hby at_213) rfl ?_
            show Steps p.tables e below (T91.setTop (mkF m 214 #[.val (.int p0), .val (.long q1), .second, .val (.long q2), .second, .val (.long q3), .second, .val (.long q4), .second, .val (.int p5), .val (.ref b1), .val (.long ln), .second, .val (.long ((((p5 >>> ((2 : Int32) &&& 31)) % (3 : Int32)).toInt64) - (1 : Int64))), .second, .val (.long sA), .second, .val (.long sB), .second, .val (.long (q1 - q4)), .second, .val (.int (1 : Int32)), .val (.long (sA + ln)), .second, .val (.int (1 : Int32)), .val (.long (sA + ln)), .second, .val (.int (1 : Int32)), .val (.long (sB + ln)), .second, .val (.int (1 : Int32)), .val (.long (sB + ln)), .second] [(.int (lcmpW ((sB + ln) - q4) ((sB + ln) - q4)))])) _
            refine XS.ifNo X91.here hx rfl (hb hby at_214) rfl ((if0 _ _).trans (teq ((lw_eq _ _).mpr rfl)).2) ?_
            show Steps p.tables e below (T91.setTop (mkF m 217 #[.val (.int p0), .val (.long q1), .second, .val (.long q2), .second, .val (.long q3), .second, .val (.long q4), .second, .val (.int p5), .val (.ref b1), .val (.long ln), .second, .val (.long ((((p5 >>> ((2 : Int32) &&& 31)) % (3 : Int32)).toInt64) - (1 : Int64))), .second, .val (.long sA), .second, .val (.long sB), .second, .val (.long (q1 - q4)), .second, .val (.int (1 : Int32)), .val (.long (sA + ln)), .second, .val (.int (1 : Int32)), .val (.long (sA + ln)), .second, .val (.int (1 : Int32)), .val (.long (sB + ln)), .second, .val (.int (1 : Int32)), .val (.long (sB + ln)), .second] [])) _
            refine XS.iconst X91.here hx rfl (hb hby at_217) ?_
            show Steps p.tables e below (T91.setTop (mkF m 218 #[.val (.int p0), .val (.long q1), .second, .val (.long q2), .second, .val (.long q3), .second, .val (.long q4), .second, .val (.int p5), .val (.ref b1), .val (.long ln), .second, .val (.long ((((p5 >>> ((2 : Int32) &&& 31)) % (3 : Int32)).toInt64) - (1 : Int64))), .second, .val (.long sA), .second, .val (.long sB), .second, .val (.long (q1 - q4)), .second, .val (.int (1 : Int32)), .val (.long (sA + ln)), .second, .val (.int (1 : Int32)), .val (.long (sA + ln)), .second, .val (.int (1 : Int32)), .val (.long (sB + ln)), .second, .val (.int (1 : Int32)), .val (.long (sB + ln)), .second] [(.int (1 : Int32))])) _
            refine XS.goto X91.here hx rfl (pc0 := 218) (pc' := 222) rfl (hb hby at_218) (by decide) (by decide) ?_
            exact kt)
        obtain ⟨fs, hr, hrun, hended, hW, hsame⟩ := X91.leave (v := some (.int (1 : Int32))) (fun h => by rw [Bd.returns] at h; cases h)
        refine ⟨_, _, pre92 _ ?_, hrun, hended, _, _, rfl, ?_, ⟨_, rfl⟩, hW, hsame.mono (by decide) (by decide)⟩
        · show Steps p.tables e below (T91.setTop (mkF m 222 #[.val (.int p0), .val (.long q1), .second, .val (.long q2), .second, .val (.long q3), .second, .val (.long q4), .second, .val (.int p5), .val (.ref b1), .val (.long ln), .second, .val (.long ((((p5 >>> ((2 : Int32) &&& 31)) % (3 : Int32)).toInt64) - (1 : Int64))), .second, .val (.long sA), .second, .val (.long sB), .second, .val (.long (q1 - q4)), .second, .val (.int (1 : Int32)), .val (.long (sA + ln)), .second, .val (.int (1 : Int32)), .val (.long (sA + ln)), .second, .val (.int (1 : Int32)), .val (.long (sB + ln)), .second, .val (.int (1 : Int32)), .val (.long (sB + ln)), .second] [(.int (1 : Int32))])) _
          exact retN X91 hx (t := .boolean) Bd.returns (by simp) (hb hby at_222) hr
        · show Q0 Z _ _ _ _ _ _ _ _ h0 n0 _ T91.heap _
          rw [e91]
          exact ⟨rfl, N91, trivial⟩
      · skip
        obtain ⟨cq93, kq93, q93a, q93b, q93c⟩ := isOf hZ e69 c50_1
        obtain ⟨_, _, ⟨T93, L93, k93, n93⟩, -, X93, ⟨Lc93, hQ93, l93, y93, z93⟩, st93⟩ := X69.virtualBack hx (y := (⟨"com/example/cluster_log/clusterlog/Lease", "renew", "(J)Z"⟩ : MethodName)) (z := (⟨"com/example/cluster_log/clusterlog/Lease", "renew", "(J)Z"⟩ : MethodName)) hown (mvT hZ (hw _ (List.mem_of_getElem? (i := 42) rfl))) (mvT hZ (hw _ (List.mem_of_getElem? (i := 43) rfl))) (notFace_of_selects (args := #[]) (mvT hZ (hw _ (List.mem_of_getElem? (i := 45) rfl)))) (mvT hZ (hw _ (List.mem_of_getElem? (i := 45) rfl))) (mvT hZ (hw _ (List.mem_of_getElem? (i := 44) rfl))) (by decide) (backOf (W := 0) (rmN l Z aw hw [] b1 sB ln (sA + ln) T50.heap n0 (Nat.le_trans (Nat.le_trans (Nat.le_trans Z0 E1.1) c17_0.1) c50_0.1) hs71 c50_2 c50_3) hZ (hw _ (List.mem_of_getElem? (i := 46) rfl)) (hw _ (List.mem_of_getElem? (i := 2) rfl)) (by decide) (by decide)) q93a q93c (g := (mkF m 157 #[.val (.int p0), .val (.long q1), .second, .val (.long q2), .second, .val (.long q3), .second, .val (.long q4), .second, .val (.int p5), .val (.ref b1), .val (.long ln), .second, .val (.long ((((p5 >>> ((2 : Int32) &&& 31)) % (3 : Int32)).toInt64) - (1 : Int64))), .second, .val (.long sA), .second, .val (.long sB), .second, .val (.long (q1 - q4)), .second, .val (.int (1 : Int32)), .val (.long (sA + ln)), .second, .val (.int (1 : Int32)), .val (.long (sA + ln)), .second, .unset, .unset, .unset, .unset, .unset, .unset] [(.long sB), (.ref b1)])) rfl (by rw [hml]; rfl) (Steps.refl _) (argsL := [(.long sB)]) (rest := []) (lenOf pd_4 rfl) rfl (by show 2 * 0 + _ ≤ _; exact Nat.le_of_eq rfl) (hb hby at_157) (fun _ _ => ⟨rfl, e69, (by decide : 1 + 0 ≤ _), (by decide : 3 + 0 ≤ _)⟩)
        dsimp only [Pt.U, Pt.locs, Pt.cells, Pt.slots] at X93 l93 y93 z93 st93 hQ93
        subst l93 y93 z93
        obtain ⟨rfl, Nq93, e93⟩ := hQ93
        have N93 := Fr.app N69 Nq93
        obtain ⟨_, _, ⟨T94, L94, k94, n94⟩, -, X94, ⟨Lc94, hQ94, l94, y94, z94⟩, st94⟩ := Jvm.LawKit.callS X93 hx (y := (⟨"com/example/cluster_log/clusterlog/LeaseRenewPinLaw", "later", "(JJ)Z"⟩ : MethodName)) hown (mvT hZ (hw _ (List.mem_of_getElem? (i := 47) rfl))) (mvT hZ (hw _ (List.mem_of_getElem? (i := 48) rfl))) (mvT hZ (hw _ (List.mem_of_getElem? (i := 49) rfl))) (mvT hZ (hw _ (List.mem_of_getElem? (i := 50) rfl))) (by decide) (backOf (W := 0) (rm8 l Z aw hw [] (sB + ln) (sA + ln) T50.heap n0 (Nat.le_trans (Nat.le_trans (Nat.le_trans Z0 E1.1) c17_0.1) c50_0.1) ) hZ (hw _ (List.mem_of_getElem? (i := 50) rfl)) (hw _ (List.mem_of_getElem? (i := 49) rfl)) (by decide) (by decide)) (g := (mkF m 173 #[.val (.int p0), .val (.long q1), .second, .val (.long q2), .second, .val (.long q3), .second, .val (.long q4), .second, .val (.int p5), .val (.ref b1), .val (.long ln), .second, .val (.long ((((p5 >>> ((2 : Int32) &&& 31)) % (3 : Int32)).toInt64) - (1 : Int64))), .second, .val (.long sA), .second, .val (.long sB), .second, .val (.long (q1 - q4)), .second, .val (.int (1 : Int32)), .val (.long (sA + ln)), .second, .val (.int (1 : Int32)), .val (.long (sA + ln)), .second, .val (.int (0 : Int32)), .val (.long (sB + ln)), .second, .unset, .unset, .unset] [(.long (sA + ln)), (.long (sB + ln))])) rfl (by rw [hml]; rfl) (argsL := [(.long (sB + ln)), (.long (sA + ln))]) (rest := []) (lenOf pd_5 rfl) rfl (by show 2 * 0 + _ ≤ _; exact Nat.le_of_eq rfl) (hb hby at_173) (fun _ _ => ⟨rfl, e93, (by decide : 1 + 0 ≤ _), (by decide : 3 + 0 ≤ _)⟩)
        dsimp only [Pt.U, Pt.locs, Pt.cells, Pt.slots] at X94 l94 y94 z94 st94 hQ94
        subst l94 y94 z94
        obtain ⟨⟨r95, rfl, Pr95⟩, Nq94, e94⟩ := hQ94
        have N94 := Fr.app N93 Nq94
        have pre96 : ∀ t, Steps p.tables e below (T94.setTop (mkF m 176 #[.val (.int p0), .val (.long q1), .second, .val (.long q2), .second, .val (.long q3), .second, .val (.long q4), .second, .val (.int p5), .val (.ref b1), .val (.long ln), .second, .val (.long ((((p5 >>> ((2 : Int32) &&& 31)) % (3 : Int32)).toInt64) - (1 : Int64))), .second, .val (.long sA), .second, .val (.long sB), .second, .val (.long (q1 - q4)), .second, .val (.int (1 : Int32)), .val (.long (sA + ln)), .second, .val (.int (1 : Int32)), .val (.long (sA + ln)), .second, .val (.int (0 : Int32)), .val (.long (sB + ln)), .second, .unset, .unset, .unset] [(.int r95)])) t → Steps p.tables e below (s₁.setTop (entryFrame m #[(.int p0), (.long q1), (.long q2), (.long q3), (.long q4), (.int p5)] maxLocals)) t := fun t kt => pre70 t (by
            show Steps p.tables e below (T69.setTop (mkF m 157 #[.val (.int p0), .val (.long q1), .second, .val (.long q2), .second, .val (.long q3), .second, .val (.long q4), .second, .val (.int p5), .val (.ref b1), .val (.long ln), .second, .val (.long ((((p5 >>> ((2 : Int32) &&& 31)) % (3 : Int32)).toInt64) - (1 : Int64))), .second, .val (.long sA), .second, .val (.long sB), .second, .val (.long (q1 - q4)), .second, .val (.int (1 : Int32)), .val (.long (sA + ln)), .second, .val (.int (1 : Int32)), .val (.long (sA + ln)), .second, .unset, .unset, .unset, .unset, .unset, .unset] [(.long sB), (.ref b1)])) _
            refine st93.trans ?_
            show Steps p.tables e below (T93.setTop (mkF m 160 #[.val (.int p0), .val (.long q1), .second, .val (.long q2), .second, .val (.long q3), .second, .val (.long q4), .second, .val (.int p5), .val (.ref b1), .val (.long ln), .second, .val (.long ((((p5 >>> ((2 : Int32) &&& 31)) % (3 : Int32)).toInt64) - (1 : Int64))), .second, .val (.long sA), .second, .val (.long sB), .second, .val (.long (q1 - q4)), .second, .val (.int (1 : Int32)), .val (.long (sA + ln)), .second, .val (.int (1 : Int32)), .val (.long (sA + ln)), .second, .unset, .unset, .unset, .unset, .unset, .unset] [(.int (0 : Int32))])) _
            refine XS.istore X93.here hx rfl (hb hby at_160) rfl (l' := #[.val (.int p0), .val (.long q1), .second, .val (.long q2), .second, .val (.long q3), .second, .val (.long q4), .second, .val (.int p5), .val (.ref b1), .val (.long ln), .second, .val (.long ((((p5 >>> ((2 : Int32) &&& 31)) % (3 : Int32)).toInt64) - (1 : Int64))), .second, .val (.long sA), .second, .val (.long sB), .second, .val (.long (q1 - q4)), .second, .val (.int (1 : Int32)), .val (.long (sA + ln)), .second, .val (.int (1 : Int32)), .val (.long (sA + ln)), .second, .val (.int (0 : Int32)), .unset, .unset, .unset, .unset, .unset]) rfl ?_
            show Steps p.tables e below (T93.setTop (mkF m 162 #[.val (.int p0), .val (.long q1), .second, .val (.long q2), .second, .val (.long q3), .second, .val (.long q4), .second, .val (.int p5), .val (.ref b1), .val (.long ln), .second, .val (.long ((((p5 >>> ((2 : Int32) &&& 31)) % (3 : Int32)).toInt64) - (1 : Int64))), .second, .val (.long sA), .second, .val (.long sB), .second, .val (.long (q1 - q4)), .second, .val (.int (1 : Int32)), .val (.long (sA + ln)), .second, .val (.int (1 : Int32)), .val (.long (sA + ln)), .second, .val (.int (0 : Int32)), .unset, .unset, .unset, .unset, .unset] [])) _
            refine XS.lload X93.here hx rfl (hb hby at_162) rfl ?_
            show Steps p.tables e below (T93.setTop (mkF m 164 #[.val (.int p0), .val (.long q1), .second, .val (.long q2), .second, .val (.long q3), .second, .val (.long q4), .second, .val (.int p5), .val (.ref b1), .val (.long ln), .second, .val (.long ((((p5 >>> ((2 : Int32) &&& 31)) % (3 : Int32)).toInt64) - (1 : Int64))), .second, .val (.long sA), .second, .val (.long sB), .second, .val (.long (q1 - q4)), .second, .val (.int (1 : Int32)), .val (.long (sA + ln)), .second, .val (.int (1 : Int32)), .val (.long (sA + ln)), .second, .val (.int (0 : Int32)), .unset, .unset, .unset, .unset, .unset] [(.long sB)])) _
            refine XS.lload X93.here hx rfl (hb hby at_164) rfl ?_
            show Steps p.tables e below (T93.setTop (mkF m 166 #[.val (.int p0), .val (.long q1), .second, .val (.long q2), .second, .val (.long q3), .second, .val (.long q4), .second, .val (.int p5), .val (.ref b1), .val (.long ln), .second, .val (.long ((((p5 >>> ((2 : Int32) &&& 31)) % (3 : Int32)).toInt64) - (1 : Int64))), .second, .val (.long sA), .second, .val (.long sB), .second, .val (.long (q1 - q4)), .second, .val (.int (1 : Int32)), .val (.long (sA + ln)), .second, .val (.int (1 : Int32)), .val (.long (sA + ln)), .second, .val (.int (0 : Int32)), .unset, .unset, .unset, .unset, .unset] [(.long ln), (.long sB)])) _
            refine XS.ladd X93.here hx rfl (hb hby at_166) rfl ?_
            show Steps p.tables e below (T93.setTop (mkF m 167 #[.val (.int p0), .val (.long q1), .second, .val (.long q2), .second, .val (.long q3), .second, .val (.long q4), .second, .val (.int p5), .val (.ref b1), .val (.long ln), .second, .val (.long ((((p5 >>> ((2 : Int32) &&& 31)) % (3 : Int32)).toInt64) - (1 : Int64))), .second, .val (.long sA), .second, .val (.long sB), .second, .val (.long (q1 - q4)), .second, .val (.int (1 : Int32)), .val (.long (sA + ln)), .second, .val (.int (1 : Int32)), .val (.long (sA + ln)), .second, .val (.int (0 : Int32)), .unset, .unset, .unset, .unset, .unset] [(.long (sB + ln))])) _
            refine XS.lstore X93.here hx rfl (hb hby at_167) rfl (l' := #[.val (.int p0), .val (.long q1), .second, .val (.long q2), .second, .val (.long q3), .second, .val (.long q4), .second, .val (.int p5), .val (.ref b1), .val (.long ln), .second, .val (.long ((((p5 >>> ((2 : Int32) &&& 31)) % (3 : Int32)).toInt64) - (1 : Int64))), .second, .val (.long sA), .second, .val (.long sB), .second, .val (.long (q1 - q4)), .second, .val (.int (1 : Int32)), .val (.long (sA + ln)), .second, .val (.int (1 : Int32)), .val (.long (sA + ln)), .second, .val (.int (0 : Int32)), .val (.long (sB + ln)), .second, .unset, .unset, .unset]) rfl ?_
            show Steps p.tables e below (T93.setTop (mkF m 169 #[.val (.int p0), .val (.long q1), .second, .val (.long q2), .second, .val (.long q3), .second, .val (.long q4), .second, .val (.int p5), .val (.ref b1), .val (.long ln), .second, .val (.long ((((p5 >>> ((2 : Int32) &&& 31)) % (3 : Int32)).toInt64) - (1 : Int64))), .second, .val (.long sA), .second, .val (.long sB), .second, .val (.long (q1 - q4)), .second, .val (.int (1 : Int32)), .val (.long (sA + ln)), .second, .val (.int (1 : Int32)), .val (.long (sA + ln)), .second, .val (.int (0 : Int32)), .val (.long (sB + ln)), .second, .unset, .unset, .unset] [])) _
            refine XS.lload X93.here hx rfl (hb hby at_169) rfl ?_
            show Steps p.tables e below (T93.setTop (mkF m 171 #[.val (.int p0), .val (.long q1), .second, .val (.long q2), .second, .val (.long q3), .second, .val (.long q4), .second, .val (.int p5), .val (.ref b1), .val (.long ln), .second, .val (.long ((((p5 >>> ((2 : Int32) &&& 31)) % (3 : Int32)).toInt64) - (1 : Int64))), .second, .val (.long sA), .second, .val (.long sB), .second, .val (.long (q1 - q4)), .second, .val (.int (1 : Int32)), .val (.long (sA + ln)), .second, .val (.int (1 : Int32)), .val (.long (sA + ln)), .second, .val (.int (0 : Int32)), .val (.long (sB + ln)), .second, .unset, .unset, .unset] [(.long (sB + ln))])) _
            refine XS.lload X93.here hx rfl (hb hby at_171) rfl ?_
            show Steps p.tables e below (T93.setTop (mkF m 173 #[.val (.int p0), .val (.long q1), .second, .val (.long q2), .second, .val (.long q3), .second, .val (.long q4), .second, .val (.int p5), .val (.ref b1), .val (.long ln), .second, .val (.long ((((p5 >>> ((2 : Int32) &&& 31)) % (3 : Int32)).toInt64) - (1 : Int64))), .second, .val (.long sA), .second, .val (.long sB), .second, .val (.long (q1 - q4)), .second, .val (.int (1 : Int32)), .val (.long (sA + ln)), .second, .val (.int (1 : Int32)), .val (.long (sA + ln)), .second, .val (.int (0 : Int32)), .val (.long (sB + ln)), .second, .unset, .unset, .unset] [(.long (sA + ln)), (.long (sB + ln))])) _
            refine st94 _ ?_
            exact kt)
        obtain rfl : (0 : Int32) = r95 := Pr95.2 hs71
        obtain ⟨cq97, kq97, q97a, q97b, q97c⟩ := isOf hZ e94 c50_1
        obtain ⟨_, _, ⟨T97, L97, k97, n97⟩, -, X97, ⟨Lc97, hQ97, l97, y97, z97⟩, st97⟩ := X94.virtualBack hx (y := (⟨"com/example/cluster_log/clusterlog/Lease", "left", "(J)J"⟩ : MethodName)) (z := (⟨"com/example/cluster_log/clusterlog/Lease", "left", "(J)J"⟩ : MethodName)) hown (mvT hZ (hw _ (List.mem_of_getElem? (i := 37) rfl))) (mvT hZ (hw _ (List.mem_of_getElem? (i := 38) rfl))) (notFace_of_selects (args := #[]) (mvT hZ (hw _ (List.mem_of_getElem? (i := 40) rfl)))) (mvT hZ (hw _ (List.mem_of_getElem? (i := 40) rfl))) (mvT hZ (hw _ (List.mem_of_getElem? (i := 39) rfl))) (by decide) (backOf (W := 0) (rm6 l Z aw hw [] b1 q4 (sA + ln) T50.heap n0 (Nat.le_trans (Nat.le_trans (Nat.le_trans Z0 E1.1) c17_0.1) c50_0.1) c50_3) hZ (hw _ (List.mem_of_getElem? (i := 41) rfl)) (hw _ (List.mem_of_getElem? (i := 2) rfl)) (by decide) (by decide)) q97a q97c (g := (mkF m 205 #[.val (.int p0), .val (.long q1), .second, .val (.long q2), .second, .val (.long q3), .second, .val (.long q4), .second, .val (.int p5), .val (.ref b1), .val (.long ln), .second, .val (.long ((((p5 >>> ((2 : Int32) &&& 31)) % (3 : Int32)).toInt64) - (1 : Int64))), .second, .val (.long sA), .second, .val (.long sB), .second, .val (.long (q1 - q4)), .second, .val (.int (1 : Int32)), .val (.long (sA + ln)), .second, .val (.int (1 : Int32)), .val (.long (sA + ln)), .second, .val (.int (0 : Int32)), .val (.long (sB + ln)), .second, .val (.int (0 : Int32)), .val (.long (sA + ln)), .second] [(.long q4), (.ref b1)])) rfl (by rw [hml]; rfl) (Steps.refl _) (argsL := [(.long q4)]) (rest := []) (lenOf pd_0 rfl) rfl (by show 2 * 0 + _ ≤ _; exact Nat.le_of_eq rfl) (hb hby at_205) (fun _ _ => ⟨rfl, e94, (by decide : 1 + 0 ≤ _), (by decide : 3 + 0 ≤ _)⟩)
        dsimp only [Pt.U, Pt.locs, Pt.cells, Pt.slots] at X97 l97 y97 z97 st97 hQ97
        subst l97 y97 z97
        obtain ⟨rfl, Nq97, e97⟩ := hQ97
        have N97 := Fr.app N94 Nq97
        have pre98 : ∀ t, Steps p.tables e below (T97.setTop (mkF m 222 #[.val (.int p0), .val (.long q1), .second, .val (.long q2), .second, .val (.long q3), .second, .val (.long q4), .second, .val (.int p5), .val (.ref b1), .val (.long ln), .second, .val (.long ((((p5 >>> ((2 : Int32) &&& 31)) % (3 : Int32)).toInt64) - (1 : Int64))), .second, .val (.long sA), .second, .val (.long sB), .second, .val (.long (q1 - q4)), .second, .val (.int (1 : Int32)), .val (.long (sA + ln)), .second, .val (.int (1 : Int32)), .val (.long (sA + ln)), .second, .val (.int (0 : Int32)), .val (.long (sB + ln)), .second, .val (.int (0 : Int32)), .val (.long (sA + ln)), .second] [(.int (1 : Int32))])) t → Steps p.tables e below (s₁.setTop (entryFrame m #[(.int p0), (.long q1), (.long q2), (.long q3), (.long q4), (.int p5)] maxLocals)) t := fun t kt => pre96 t (by
            show Steps p.tables e below (T94.setTop (mkF m 176 #[.val (.int p0), .val (.long q1), .second, .val (.long q2), .second, .val (.long q3), .second, .val (.long q4), .second, .val (.int p5), .val (.ref b1), .val (.long ln), .second, .val (.long ((((p5 >>> ((2 : Int32) &&& 31)) % (3 : Int32)).toInt64) - (1 : Int64))), .second, .val (.long sA), .second, .val (.long sB), .second, .val (.long (q1 - q4)), .second, .val (.int (1 : Int32)), .val (.long (sA + ln)), .second, .val (.int (1 : Int32)), .val (.long (sA + ln)), .second, .val (.int (0 : Int32)), .val (.long (sB + ln)), .second, .unset, .unset, .unset] [(.int (0 : Int32))])) _
            refine XS.istore X94.here hx rfl (hb hby at_176) rfl (l' := #[.val (.int p0), .val (.long q1), .second, .val (.long q2), .second, .val (.long q3), .second, .val (.long q4), .second, .val (.int p5), .val (.ref b1), .val (.long ln), .second, .val (.long ((((p5 >>> ((2 : Int32) &&& 31)) % (3 : Int32)).toInt64) - (1 : Int64))), .second, .val (.long sA), .second, .val (.long sB), .second, .val (.long (q1 - q4)), .second, .val (.int (1 : Int32)), .val (.long (sA + ln)), .second, .val (.int (1 : Int32)), .val (.long (sA + ln)), .second, .val (.int (0 : Int32)), .val (.long (sB + ln)), .second, .val (.int (0 : Int32)), .unset, .unset]) rfl ?_
            show Steps p.tables e below (T94.setTop (mkF m 178 #[.val (.int p0), .val (.long q1), .second, .val (.long q2), .second, .val (.long q3), .second, .val (.long q4), .second, .val (.int p5), .val (.ref b1), .val (.long ln), .second, .val (.long ((((p5 >>> ((2 : Int32) &&& 31)) % (3 : Int32)).toInt64) - (1 : Int64))), .second, .val (.long sA), .second, .val (.long sB), .second, .val (.long (q1 - q4)), .second, .val (.int (1 : Int32)), .val (.long (sA + ln)), .second, .val (.int (1 : Int32)), .val (.long (sA + ln)), .second, .val (.int (0 : Int32)), .val (.long (sB + ln)), .second, .val (.int (0 : Int32)), .unset, .unset] [])) _
            refine XS.iload X94.here hx rfl (hb hby at_178) rfl ?_
            show Steps p.tables e below (T94.setTop (mkF m 180 #[.val (.int p0), .val (.long q1), .second, .val (.long q2), .second, .val (.long q3), .second, .val (.long q4), .second, .val (.int p5), .val (.ref b1), .val (.long ln), .second, .val (.long ((((p5 >>> ((2 : Int32) &&& 31)) % (3 : Int32)).toInt64) - (1 : Int64))), .second, .val (.long sA), .second, .val (.long sB), .second, .val (.long (q1 - q4)), .second, .val (.int (1 : Int32)), .val (.long (sA + ln)), .second, .val (.int (1 : Int32)), .val (.long (sA + ln)), .second, .val (.int (0 : Int32)), .val (.long (sB + ln)), .second, .val (.int (0 : Int32)), .unset, .unset] [(.int (0 : Int32))])) _
            refine XS.ifYes X94.here hx rfl (pc0 := 180) (pc' := 188) rfl (hb hby at_180) rfl ((if0 _ _).trans (teq (rfl : (0 : Int32) = (0 : Int32))).1) (by decide) (by decide) ?_
            show Steps p.tables e below (T94.setTop (mkF m 188 #[.val (.int p0), .val (.long q1), .second, .val (.long q2), .second, .val (.long q3), .second, .val (.long q4), .second, .val (.int p5), .val (.ref b1), .val (.long ln), .second, .val (.long ((((p5 >>> ((2 : Int32) &&& 31)) % (3 : Int32)).toInt64) - (1 : Int64))), .second, .val (.long sA), .second, .val (.long sB), .second, .val (.long (q1 - q4)), .second, .val (.int (1 : Int32)), .val (.long (sA + ln)), .second, .val (.int (1 : Int32)), .val (.long (sA + ln)), .second, .val (.int (0 : Int32)), .val (.long (sB + ln)), .second, .val (.int (0 : Int32)), .unset, .unset] [])) _
            refine XS.lload X94.here hx rfl (hb hby at_188) rfl ?_
            show Steps p.tables e below (T94.setTop (mkF m 190 #[.val (.int p0), .val (.long q1), .second, .val (.long q2), .second, .val (.long q3), .second, .val (.long q4), .second, .val (.int p5), .val (.ref b1), .val (.long ln), .second, .val (.long ((((p5 >>> ((2 : Int32) &&& 31)) % (3 : Int32)).toInt64) - (1 : Int64))), .second, .val (.long sA), .second, .val (.long sB), .second, .val (.long (q1 - q4)), .second, .val (.int (1 : Int32)), .val (.long (sA + ln)), .second, .val (.int (1 : Int32)), .val (.long (sA + ln)), .second, .val (.int (0 : Int32)), .val (.long (sB + ln)), .second, .val (.int (0 : Int32)), .unset, .unset] [(.long (sA + ln))])) _
            refine XS.lstore X94.here hx rfl (hb hby at_190) rfl (l' := #[.val (.int p0), .val (.long q1), .second, .val (.long q2), .second, .val (.long q3), .second, .val (.long q4), .second, .val (.int p5), .val (.ref b1), .val (.long ln), .second, .val (.long ((((p5 >>> ((2 : Int32) &&& 31)) % (3 : Int32)).toInt64) - (1 : Int64))), .second, .val (.long sA), .second, .val (.long sB), .second, .val (.long (q1 - q4)), .second, .val (.int (1 : Int32)), .val (.long (sA + ln)), .second, .val (.int (1 : Int32)), .val (.long (sA + ln)), .second, .val (.int (0 : Int32)), .val (.long (sB + ln)), .second, .val (.int (0 : Int32)), .val (.long (sA + ln)), .second]) rfl ?_
            show Steps p.tables e below (T94.setTop (mkF m 192 #[.val (.int p0), .val (.long q1), .second, .val (.long q2), .second, .val (.long q3), .second, .val (.long q4), .second, .val (.int p5), .val (.ref b1), .val (.long ln), .second, .val (.long ((((p5 >>> ((2 : Int32) &&& 31)) % (3 : Int32)).toInt64) - (1 : Int64))), .second, .val (.long sA), .second, .val (.long sB), .second, .val (.long (q1 - q4)), .second, .val (.int (1 : Int32)), .val (.long (sA + ln)), .second, .val (.int (1 : Int32)), .val (.long (sA + ln)), .second, .val (.int (0 : Int32)), .val (.long (sB + ln)), .second, .val (.int (0 : Int32)), .val (.long (sA + ln)), .second] [])) _
            refine XS.iload X94.here hx rfl (hb hby at_192) rfl ?_
            show Steps p.tables e below (T94.setTop (mkF m 194 #[.val (.int p0), .val (.long q1), .second, .val (.long q2), .second, .val (.long q3), .second, .val (.long q4), .second, .val (.int p5), .val (.ref b1), .val (.long ln), .second, .val (.long ((((p5 >>> ((2 : Int32) &&& 31)) % (3 : Int32)).toInt64) - (1 : Int64))), .second, .val (.long sA), .second, .val (.long sB), .second, .val (.long (q1 - q4)), .second, .val (.int (1 : Int32)), .val (.long (sA + ln)), .second, .val (.int (1 : Int32)), .val (.long (sA + ln)), .second, .val (.int (0 : Int32)), .val (.long (sB + ln)), .second, .val (.int (0 : Int32)), .val (.long (sA + ln)), .second] [(.int (0 : Int32))])) _
            refine XS.iload X94.here hx rfl (hb hby at_194) rfl ?_
            show Steps p.tables e below (T94.setTop (mkF m 196 #[.val (.int p0), .val (.long q1), .second, .val (.long q2), .second, .val (.long q3), .second, .val (.long q4), .second, .val (.int p5), .val (.ref b1), .val (.long ln), .second, .val (.long ((((p5 >>> ((2 : Int32) &&& 31)) % (3 : Int32)).toInt64) - (1 : Int64))), .second, .val (.long sA), .second, .val (.long sB), .second, .val (.long (q1 - q4)), .second, .val (.int (1 : Int32)), .val (.long (sA + ln)), .second, .val (.int (1 : Int32)), .val (.long (sA + ln)), .second, .val (.int (0 : Int32)), .val (.long (sB + ln)), .second, .val (.int (0 : Int32)), .val (.long (sA + ln)), .second] [(.int (0 : Int32)), (.int (0 : Int32))])) _
            refine XS.icmpYes X94.here hx rfl (pc0 := 196) (pc' := 201) rfl (hb hby at_196) rfl (teq (rfl : (0 : Int32) = (0 : Int32))).1 (by decide) (by decide) ?_
            show Steps p.tables e below (T94.setTop (mkF m 201 #[.val (.int p0), .val (.long q1), .second, .val (.long q2), .second, .val (.long q3), .second, .val (.long q4), .second, .val (.int p5), .val (.ref b1), .val (.long ln), .second, .val (.long ((((p5 >>> ((2 : Int32) &&& 31)) % (3 : Int32)).toInt64) - (1 : Int64))), .second, .val (.long sA), .second, .val (.long sB), .second, .val (.long (q1 - q4)), .second, .val (.int (1 : Int32)), .val (.long (sA + ln)), .second, .val (.int (1 : Int32)), .val (.long (sA + ln)), .second, .val (.int (0 : Int32)), .val (.long (sB + ln)), .second, .val (.int (0 : Int32)), .val (.long (sA + ln)), .second] [])) _
            refine XS.aload X94.here hx rfl (hb hby at_201) rfl rfl ?_
            show Steps p.tables e below (T94.setTop (mkF m 203 #[.val (.int p0), .val (.long q1), .second, .val (.long q2), .second, .val (.long q3), .second, .val (.long q4), .second, .val (.int p5), .val (.ref b1), .val (.long ln), .second, .val (.long ((((p5 >>> ((2 : Int32) &&& 31)) % (3 : Int32)).toInt64) - (1 : Int64))), .second, .val (.long sA), .second, .val (.long sB), .second, .val (.long (q1 - q4)), .second, .val (.int (1 : Int32)), .val (.long (sA + ln)), .second, .val (.int (1 : Int32)), .val (.long (sA + ln)), .second, .val (.int (0 : Int32)), .val (.long (sB + ln)), .second, .val (.int (0 : Int32)), .val (.long (sA + ln)), .second] [(.ref b1)])) _
            refine XS.lload X94.here hx rfl (hb hby at_203) rfl ?_
            show Steps p.tables e below (T94.setTop (mkF m 205 #[.val (.int p0), .val (.long q1), .second, .val (.long q2), .second, .val (.long q3), .second, .val (.long q4), .second, .val (.int p5), .val (.ref b1), .val (.long ln), .second, .val (.long ((((p5 >>> ((2 : Int32) &&& 31)) % (3 : Int32)).toInt64) - (1 : Int64))), .second, .val (.long sA), .second, .val (.long sB), .second, .val (.long (q1 - q4)), .second, .val (.int (1 : Int32)), .val (.long (sA + ln)), .second, .val (.int (1 : Int32)), .val (.long (sA + ln)), .second, .val (.int (0 : Int32)), .val (.long (sB + ln)), .second, .val (.int (0 : Int32)), .val (.long (sA + ln)), .second] [(.long q4), (.ref b1)])) _
            refine st97.trans ?_
            show Steps p.tables e below (T97.setTop (mkF m 208 #[.val (.int p0), .val (.long q1), .second, .val (.long q2), .second, .val (.long q3), .second, .val (.long q4), .second, .val (.int p5), .val (.ref b1), .val (.long ln), .second, .val (.long ((((p5 >>> ((2 : Int32) &&& 31)) % (3 : Int32)).toInt64) - (1 : Int64))), .second, .val (.long sA), .second, .val (.long sB), .second, .val (.long (q1 - q4)), .second, .val (.int (1 : Int32)), .val (.long (sA + ln)), .second, .val (.int (1 : Int32)), .val (.long (sA + ln)), .second, .val (.int (0 : Int32)), .val (.long (sB + ln)), .second, .val (.int (0 : Int32)), .val (.long (sA + ln)), .second] [(.long ((sA + ln) - q4))])) _
            refine XS.lload X97.here hx rfl (hb hby at_208) rfl ?_
            show Steps p.tables e below (T97.setTop (mkF m 210 #[.val (.int p0), .val (.long q1), .second, .val (.long q2), .second, .val (.long q3), .second, .val (.long q4), .second, .val (.int p5), .val (.ref b1), .val (.long ln), .second, .val (.long ((((p5 >>> ((2 : Int32) &&& 31)) % (3 : Int32)).toInt64) - (1 : Int64))), .second, .val (.long sA), .second, .val (.long sB), .second, .val (.long (q1 - q4)), .second, .val (.int (1 : Int32)), .val (.long (sA + ln)), .second, .val (.int (1 : Int32)), .val (.long (sA + ln)), .second, .val (.int (0 : Int32)), .val (.long (sB + ln)), .second, .val (.int (0 : Int32)), .val (.long (sA + ln)), .second] [(.long (sA + ln)), (.long ((sA + ln) - q4))])) _
            refine XS.lload X97.here hx rfl (hb hby at_210) rfl ?_
            show Steps p.tables e below (T97.setTop (mkF m 212 #[.val (.int p0), .val (.long q1), .second, .val (.long q2), .second, .val (.long q3), .second, .val (.long q4), .second, .val (.int p5), .val (.ref b1), .val (.long ln), .second, .val (.long ((((p5 >>> ((2 : Int32) &&& 31)) % (3 : Int32)).toInt64) - (1 : Int64))), .second, .val (.long sA), .second, .val (.long sB), .second, .val (.long (q1 - q4)), .second, .val (.int (1 : Int32)), .val (.long (sA + ln)), .second, .val (.int (1 : Int32)), .val (.long (sA + ln)), .second, .val (.int (0 : Int32)), .val (.long (sB + ln)), .second, .val (.int (0 : Int32)), .val (.long (sA + ln)), .second] [(.long q4), (.long (sA + ln)), (.long ((sA + ln) - q4))])) _
            refine XS.lsub X97.here hx rfl (hb hby at_212) rfl ?_
            show Steps p.tables e below (T97.setTop (mkF m 213 #[.val (.int p0), .val (.long q1), .second, .val (.long q2), .second, .val (.long q3), .second, .val (.long q4), .second, .val (.int p5), .val (.ref b1), .val (.long ln), .second, .val (.long ((((p5 >>> ((2 : Int32) &&& 31)) % (3 : Int32)).toInt64) - (1 : Int64))), .second, .val (.long sA), .second, .val (.long sB), .second, .val (.long (q1 - q4)), .second, .val (.int (1 : Int32)), .val (.long (sA + ln)), .second, .val (.int (1 : Int32)), .val (.long (sA + ln)), .second, .val (.int (0 : Int32)), .val (.long (sB + ln)), .second, .val (.int (0 : Int32)), .val (.long (sA + ln)), .second] [(.long ((sA + ln) - q4)), (.long ((sA + ln) - q4))])) _
            refine XS.lcmp X97.here hx rfl (hb hby at_213) rfl ?_
            show Steps p.tables e below (T97.setTop (mkF m 214 #[.val (.int p0), .val (.long q1), .second, .val (.long q2), .second, .val (.long q3), .second, .val (.long q4), .second, .val (.int p5), .val (.ref b1), .val (.long ln), .second, .val (.long ((((p5 >>> ((2 : Int32) &&& 31)) % (3 : Int32)).toInt64) - (1 : Int64))), .second, .val (.long sA), .second, .val (.long sB), .second, .val (.long (q1 - q4)), .second, .val (.int (1 : Int32)), .val (.long (sA + ln)), .second, .val (.int (1 : Int32)), .val (.long (sA + ln)), .second, .val (.int (0 : Int32)), .val (.long (sB + ln)), .second, .val (.int (0 : Int32)), .val (.long (sA + ln)), .second] [(.int (lcmpW ((sA + ln) - q4) ((sA + ln) - q4)))])) _
            refine XS.ifNo X97.here hx rfl (hb hby at_214) rfl ((if0 _ _).trans (teq ((lw_eq _ _).mpr rfl)).2) ?_
            show Steps p.tables e below (T97.setTop (mkF m 217 #[.val (.int p0), .val (.long q1), .second, .val (.long q2), .second, .val (.long q3), .second, .val (.long q4), .second, .val (.int p5), .val (.ref b1), .val (.long ln), .second, .val (.long ((((p5 >>> ((2 : Int32) &&& 31)) % (3 : Int32)).toInt64) - (1 : Int64))), .second, .val (.long sA), .second, .val (.long sB), .second, .val (.long (q1 - q4)), .second, .val (.int (1 : Int32)), .val (.long (sA + ln)), .second, .val (.int (1 : Int32)), .val (.long (sA + ln)), .second, .val (.int (0 : Int32)), .val (.long (sB + ln)), .second, .val (.int (0 : Int32)), .val (.long (sA + ln)), .second] [])) _
            refine XS.iconst X97.here hx rfl (hb hby at_217) ?_
            show Steps p.tables e below (T97.setTop (mkF m 218 #[.val (.int p0), .val (.long q1), .second, .val (.long q2), .second, .val (.long q3), .second, .val (.long q4), .second, .val (.int p5), .val (.ref b1), .val (.long ln), .second, .val (.long ((((p5 >>> ((2 : Int32) &&& 31)) % (3 : Int32)).toInt64) - (1 : Int64))), .second, .val (.long sA), .second, .val (.long sB), .second, .val (.long (q1 - q4)), .second, .val (.int (1 : Int32)), .val (.long (sA + ln)), .second, .val (.int (1 : Int32)), .val (.long (sA + ln)), .second, .val (.int (0 : Int32)), .val (.long (sB + ln)), .second, .val (.int (0 : Int32)), .val (.long (sA + ln)), .second] [(.int (1 : Int32))])) _
            refine XS.goto X97.here hx rfl (pc0 := 218) (pc' := 222) rfl (hb hby at_218) (by decide) (by decide) ?_
            exact kt)
        obtain ⟨fs, hr, hrun, hended, hW, hsame⟩ := X97.leave (v := some (.int (1 : Int32))) (fun h => by rw [Bd.returns] at h; cases h)
        refine ⟨_, _, pre98 _ ?_, hrun, hended, _, _, rfl, ?_, ⟨_, rfl⟩, hW, hsame.mono (by decide) (by decide)⟩
        · show Steps p.tables e below (T97.setTop (mkF m 222 #[.val (.int p0), .val (.long q1), .second, .val (.long q2), .second, .val (.long q3), .second, .val (.long q4), .second, .val (.int p5), .val (.ref b1), .val (.long ln), .second, .val (.long ((((p5 >>> ((2 : Int32) &&& 31)) % (3 : Int32)).toInt64) - (1 : Int64))), .second, .val (.long sA), .second, .val (.long sB), .second, .val (.long (q1 - q4)), .second, .val (.int (1 : Int32)), .val (.long (sA + ln)), .second, .val (.int (1 : Int32)), .val (.long (sA + ln)), .second, .val (.int (0 : Int32)), .val (.long (sB + ln)), .second, .val (.int (0 : Int32)), .val (.long (sA + ln)), .second] [(.int (1 : Int32))])) _
          exact retN X97 hx (t := .boolean) Bd.returns (by simp) (hb hby at_222) hr
        · show Q0 Z _ _ _ _ _ _ _ _ h0 n0 _ T97.heap _
          rw [e97]
          exact ⟨rfl, N97, trivial⟩
    · skip
      obtain ⟨cq99, kq99, q99a, q99b, q99c⟩ := isOf hZ e47 c17_1
      obtain ⟨_, _, ⟨T99, L99, k99, n99⟩, -, X99, ⟨Lc99, hQ99, l99, y99, z99⟩, st99⟩ := X47.virtualBack hx (y := (⟨"com/example/cluster_log/clusterlog/Lease", "renew", "(J)Z"⟩ : MethodName)) (z := (⟨"com/example/cluster_log/clusterlog/Lease", "renew", "(J)Z"⟩ : MethodName)) hown (mvT hZ (hw _ (List.mem_of_getElem? (i := 42) rfl))) (mvT hZ (hw _ (List.mem_of_getElem? (i := 43) rfl))) (notFace_of_selects (args := #[]) (mvT hZ (hw _ (List.mem_of_getElem? (i := 45) rfl)))) (mvT hZ (hw _ (List.mem_of_getElem? (i := 45) rfl))) (mvT hZ (hw _ (List.mem_of_getElem? (i := 44) rfl))) (by decide) (backOf (W := 0) (rmN l Z aw hw [] b1 sA ln q1 T17.heap n0 (Nat.le_trans (Nat.le_trans Z0 E1.1) c17_0.1) hs49 c17_2 c17_3) hZ (hw _ (List.mem_of_getElem? (i := 46) rfl)) (hw _ (List.mem_of_getElem? (i := 2) rfl)) (by decide) (by decide)) q99a q99c (g := (mkF m 93 #[.val (.int p0), .val (.long q1), .second, .val (.long q2), .second, .val (.long q3), .second, .val (.long q4), .second, .val (.int p5), .val (.ref b1), .val (.long ln), .second, .val (.long ((((p5 >>> ((2 : Int32) &&& 31)) % (3 : Int32)).toInt64) - (1 : Int64))), .second, .val (.long sA), .second, .val (.long sB), .second, .val (.long (q1 - q4)), .second, .unset, .unset, .unset, .unset, .unset, .unset, .unset, .unset, .unset, .unset, .unset, .unset] [(.long sA), (.ref b1)])) rfl (by rw [hml]; rfl) (Steps.refl _) (argsL := [(.long sA)]) (rest := []) (lenOf pd_4 rfl) rfl (by show 2 * 0 + _ ≤ _; exact Nat.le_of_eq rfl) (hb hby at_93) (fun _ _ => ⟨rfl, e47, (by decide : 1 + 0 ≤ _), (by decide : 3 + 0 ≤ _)⟩)
      dsimp only [Pt.U, Pt.locs, Pt.cells, Pt.slots] at X99 l99 y99 z99 st99 hQ99
      subst l99 y99 z99
      obtain ⟨rfl, Nq99, e99⟩ := hQ99
      have N99 := Fr.app N47 Nq99
      obtain ⟨_, _, ⟨T100, L100, k100, n100⟩, -, X100, ⟨Lc100, hQ100, l100, y100, z100⟩, st100⟩ := Jvm.LawKit.callS X99 hx (y := (⟨"com/example/cluster_log/clusterlog/LeaseRenewPinLaw", "later", "(JJ)Z"⟩ : MethodName)) hown (mvT hZ (hw _ (List.mem_of_getElem? (i := 47) rfl))) (mvT hZ (hw _ (List.mem_of_getElem? (i := 48) rfl))) (mvT hZ (hw _ (List.mem_of_getElem? (i := 49) rfl))) (mvT hZ (hw _ (List.mem_of_getElem? (i := 50) rfl))) (by decide) (backOf (W := 0) (rm8 l Z aw hw [] (sA + ln) q1 T17.heap n0 (Nat.le_trans (Nat.le_trans Z0 E1.1) c17_0.1) ) hZ (hw _ (List.mem_of_getElem? (i := 50) rfl)) (hw _ (List.mem_of_getElem? (i := 49) rfl)) (by decide) (by decide)) (g := (mkF m 108 #[.val (.int p0), .val (.long q1), .second, .val (.long q2), .second, .val (.long q3), .second, .val (.long q4), .second, .val (.int p5), .val (.ref b1), .val (.long ln), .second, .val (.long ((((p5 >>> ((2 : Int32) &&& 31)) % (3 : Int32)).toInt64) - (1 : Int64))), .second, .val (.long sA), .second, .val (.long sB), .second, .val (.long (q1 - q4)), .second, .val (.int (0 : Int32)), .val (.long (sA + ln)), .second, .unset, .unset, .unset, .unset, .unset, .unset, .unset, .unset, .unset] [(.long q1), (.long (sA + ln))])) rfl (by rw [hml]; rfl) (argsL := [(.long (sA + ln)), (.long q1)]) (rest := []) (lenOf pd_5 rfl) rfl (by show 2 * 0 + _ ≤ _; exact Nat.le_of_eq rfl) (hb hby at_108) (fun _ _ => ⟨rfl, e99, (by decide : 1 + 0 ≤ _), (by decide : 3 + 0 ≤ _)⟩)
      dsimp only [Pt.U, Pt.locs, Pt.cells, Pt.slots] at X100 l100 y100 z100 st100 hQ100
      subst l100 y100 z100
      obtain ⟨⟨r101, rfl, Pr101⟩, Nq100, e100⟩ := hQ100
      have N100 := Fr.app N99 Nq100
      have pre102 : ∀ t, Steps p.tables e below (T100.setTop (mkF m 111 #[.val (.int p0), .val (.long q1), .second, .val (.long q2), .second, .val (.long q3), .second, .val (.long q4), .second, .val (.int p5), .val (.ref b1), .val (.long ln), .second, .val (.long ((((p5 >>> ((2 : Int32) &&& 31)) % (3 : Int32)).toInt64) - (1 : Int64))), .second, .val (.long sA), .second, .val (.long sB), .second, .val (.long (q1 - q4)), .second, .val (.int (0 : Int32)), .val (.long (sA + ln)), .second, .unset, .unset, .unset, .unset, .unset, .unset, .unset, .unset, .unset] [(.int r101)])) t → Steps p.tables e below (s₁.setTop (entryFrame m #[(.int p0), (.long q1), (.long q2), (.long q3), (.long q4), (.int p5)] maxLocals)) t := fun t kt => pre48 t (by
          show Steps p.tables e below (T47.setTop (mkF m 93 #[.val (.int p0), .val (.long q1), .second, .val (.long q2), .second, .val (.long q3), .second, .val (.long q4), .second, .val (.int p5), .val (.ref b1), .val (.long ln), .second, .val (.long ((((p5 >>> ((2 : Int32) &&& 31)) % (3 : Int32)).toInt64) - (1 : Int64))), .second, .val (.long sA), .second, .val (.long sB), .second, .val (.long (q1 - q4)), .second, .unset, .unset, .unset, .unset, .unset, .unset, .unset, .unset, .unset, .unset, .unset, .unset] [(.long sA), (.ref b1)])) _
          refine st99.trans ?_
          show Steps p.tables e below (T99.setTop (mkF m 96 #[.val (.int p0), .val (.long q1), .second, .val (.long q2), .second, .val (.long q3), .second, .val (.long q4), .second, .val (.int p5), .val (.ref b1), .val (.long ln), .second, .val (.long ((((p5 >>> ((2 : Int32) &&& 31)) % (3 : Int32)).toInt64) - (1 : Int64))), .second, .val (.long sA), .second, .val (.long sB), .second, .val (.long (q1 - q4)), .second, .unset, .unset, .unset, .unset, .unset, .unset, .unset, .unset, .unset, .unset, .unset, .unset] [(.int (0 : Int32))])) _
          refine XS.istore X99.here hx rfl (hb hby at_96) rfl (l' := #[.val (.int p0), .val (.long q1), .second, .val (.long q2), .second, .val (.long q3), .second, .val (.long q4), .second, .val (.int p5), .val (.ref b1), .val (.long ln), .second, .val (.long ((((p5 >>> ((2 : Int32) &&& 31)) % (3 : Int32)).toInt64) - (1 : Int64))), .second, .val (.long sA), .second, .val (.long sB), .second, .val (.long (q1 - q4)), .second, .val (.int (0 : Int32)), .unset, .unset, .unset, .unset, .unset, .unset, .unset, .unset, .unset, .unset, .unset]) rfl ?_
          show Steps p.tables e below (T99.setTop (mkF m 98 #[.val (.int p0), .val (.long q1), .second, .val (.long q2), .second, .val (.long q3), .second, .val (.long q4), .second, .val (.int p5), .val (.ref b1), .val (.long ln), .second, .val (.long ((((p5 >>> ((2 : Int32) &&& 31)) % (3 : Int32)).toInt64) - (1 : Int64))), .second, .val (.long sA), .second, .val (.long sB), .second, .val (.long (q1 - q4)), .second, .val (.int (0 : Int32)), .unset, .unset, .unset, .unset, .unset, .unset, .unset, .unset, .unset, .unset, .unset] [])) _
          refine XS.lload X99.here hx rfl (hb hby at_98) rfl ?_
          show Steps p.tables e below (T99.setTop (mkF m 100 #[.val (.int p0), .val (.long q1), .second, .val (.long q2), .second, .val (.long q3), .second, .val (.long q4), .second, .val (.int p5), .val (.ref b1), .val (.long ln), .second, .val (.long ((((p5 >>> ((2 : Int32) &&& 31)) % (3 : Int32)).toInt64) - (1 : Int64))), .second, .val (.long sA), .second, .val (.long sB), .second, .val (.long (q1 - q4)), .second, .val (.int (0 : Int32)), .unset, .unset, .unset, .unset, .unset, .unset, .unset, .unset, .unset, .unset, .unset] [(.long sA)])) _
          refine XS.lload X99.here hx rfl (hb hby at_100) rfl ?_
          show Steps p.tables e below (T99.setTop (mkF m 102 #[.val (.int p0), .val (.long q1), .second, .val (.long q2), .second, .val (.long q3), .second, .val (.long q4), .second, .val (.int p5), .val (.ref b1), .val (.long ln), .second, .val (.long ((((p5 >>> ((2 : Int32) &&& 31)) % (3 : Int32)).toInt64) - (1 : Int64))), .second, .val (.long sA), .second, .val (.long sB), .second, .val (.long (q1 - q4)), .second, .val (.int (0 : Int32)), .unset, .unset, .unset, .unset, .unset, .unset, .unset, .unset, .unset, .unset, .unset] [(.long ln), (.long sA)])) _
          refine XS.ladd X99.here hx rfl (hb hby at_102) rfl ?_
          show Steps p.tables e below (T99.setTop (mkF m 103 #[.val (.int p0), .val (.long q1), .second, .val (.long q2), .second, .val (.long q3), .second, .val (.long q4), .second, .val (.int p5), .val (.ref b1), .val (.long ln), .second, .val (.long ((((p5 >>> ((2 : Int32) &&& 31)) % (3 : Int32)).toInt64) - (1 : Int64))), .second, .val (.long sA), .second, .val (.long sB), .second, .val (.long (q1 - q4)), .second, .val (.int (0 : Int32)), .unset, .unset, .unset, .unset, .unset, .unset, .unset, .unset, .unset, .unset, .unset] [(.long (sA + ln))])) _
          refine XS.lstore X99.here hx rfl (hb hby at_103) rfl (l' := #[.val (.int p0), .val (.long q1), .second, .val (.long q2), .second, .val (.long q3), .second, .val (.long q4), .second, .val (.int p5), .val (.ref b1), .val (.long ln), .second, .val (.long ((((p5 >>> ((2 : Int32) &&& 31)) % (3 : Int32)).toInt64) - (1 : Int64))), .second, .val (.long sA), .second, .val (.long sB), .second, .val (.long (q1 - q4)), .second, .val (.int (0 : Int32)), .val (.long (sA + ln)), .second, .unset, .unset, .unset, .unset, .unset, .unset, .unset, .unset, .unset]) rfl ?_
          show Steps p.tables e below (T99.setTop (mkF m 105 #[.val (.int p0), .val (.long q1), .second, .val (.long q2), .second, .val (.long q3), .second, .val (.long q4), .second, .val (.int p5), .val (.ref b1), .val (.long ln), .second, .val (.long ((((p5 >>> ((2 : Int32) &&& 31)) % (3 : Int32)).toInt64) - (1 : Int64))), .second, .val (.long sA), .second, .val (.long sB), .second, .val (.long (q1 - q4)), .second, .val (.int (0 : Int32)), .val (.long (sA + ln)), .second, .unset, .unset, .unset, .unset, .unset, .unset, .unset, .unset, .unset] [])) _
          refine XS.lload X99.here hx rfl (hb hby at_105) rfl ?_
          show Steps p.tables e below (T99.setTop (mkF m 107 #[.val (.int p0), .val (.long q1), .second, .val (.long q2), .second, .val (.long q3), .second, .val (.long q4), .second, .val (.int p5), .val (.ref b1), .val (.long ln), .second, .val (.long ((((p5 >>> ((2 : Int32) &&& 31)) % (3 : Int32)).toInt64) - (1 : Int64))), .second, .val (.long sA), .second, .val (.long sB), .second, .val (.long (q1 - q4)), .second, .val (.int (0 : Int32)), .val (.long (sA + ln)), .second, .unset, .unset, .unset, .unset, .unset, .unset, .unset, .unset, .unset] [(.long (sA + ln))])) _
          refine XS.lloadN X99.here hx rfl (hb hby at_107) rfl ?_
          show Steps p.tables e below (T99.setTop (mkF m 108 #[.val (.int p0), .val (.long q1), .second, .val (.long q2), .second, .val (.long q3), .second, .val (.long q4), .second, .val (.int p5), .val (.ref b1), .val (.long ln), .second, .val (.long ((((p5 >>> ((2 : Int32) &&& 31)) % (3 : Int32)).toInt64) - (1 : Int64))), .second, .val (.long sA), .second, .val (.long sB), .second, .val (.long (q1 - q4)), .second, .val (.int (0 : Int32)), .val (.long (sA + ln)), .second, .unset, .unset, .unset, .unset, .unset, .unset, .unset, .unset, .unset] [(.long q1), (.long (sA + ln))])) _
          refine st100 _ ?_
          exact kt)
      obtain rfl : (0 : Int32) = r101 := Pr101.2 hs49
      obtain ⟨cq103, kq103, q103a, q103b, q103c⟩ := isOf hZ e100 c17_1
      obtain ⟨_, _, ⟨T103, L103, k103, n103⟩, -, X103, ⟨Lc103, hQ103, l103, y103, z103⟩, st103⟩ := X100.virtualBack hx (y := (⟨"com/example/cluster_log/clusterlog/Lease", "left", "(J)J"⟩ : MethodName)) (z := (⟨"com/example/cluster_log/clusterlog/Lease", "left", "(J)J"⟩ : MethodName)) hown (mvT hZ (hw _ (List.mem_of_getElem? (i := 37) rfl))) (mvT hZ (hw _ (List.mem_of_getElem? (i := 38) rfl))) (notFace_of_selects (args := #[]) (mvT hZ (hw _ (List.mem_of_getElem? (i := 40) rfl)))) (mvT hZ (hw _ (List.mem_of_getElem? (i := 40) rfl))) (mvT hZ (hw _ (List.mem_of_getElem? (i := 39) rfl))) (by decide) (backOf (W := 0) (rm6 l Z aw hw [] b1 q4 q1 T17.heap n0 (Nat.le_trans (Nat.le_trans Z0 E1.1) c17_0.1) c17_3) hZ (hw _ (List.mem_of_getElem? (i := 41) rfl)) (hw _ (List.mem_of_getElem? (i := 2) rfl)) (by decide) (by decide)) q103a q103c (g := (mkF m 139 #[.val (.int p0), .val (.long q1), .second, .val (.long q2), .second, .val (.long q3), .second, .val (.long q4), .second, .val (.int p5), .val (.ref b1), .val (.long ln), .second, .val (.long ((((p5 >>> ((2 : Int32) &&& 31)) % (3 : Int32)).toInt64) - (1 : Int64))), .second, .val (.long sA), .second, .val (.long sB), .second, .val (.long (q1 - q4)), .second, .val (.int (0 : Int32)), .val (.long (sA + ln)), .second, .val (.int (0 : Int32)), .val (.long q1), .second, .unset, .unset, .unset, .unset, .unset, .unset] [(.long q4), (.ref b1)])) rfl (by rw [hml]; rfl) (Steps.refl _) (argsL := [(.long q4)]) (rest := []) (lenOf pd_0 rfl) rfl (by show 2 * 0 + _ ≤ _; exact Nat.le_of_eq rfl) (hb hby at_139) (fun _ _ => ⟨rfl, e100, (by decide : 1 + 0 ≤ _), (by decide : 3 + 0 ≤ _)⟩)
      dsimp only [Pt.U, Pt.locs, Pt.cells, Pt.slots] at X103 l103 y103 z103 st103 hQ103
      subst l103 y103 z103
      obtain ⟨rfl, Nq103, e103⟩ := hQ103
      have N103 := Fr.app N100 Nq103
      have pre104 : ∀ t, Steps p.tables e below (T103.setTop (mkF m 157 #[.val (.int p0), .val (.long q1), .second, .val (.long q2), .second, .val (.long q3), .second, .val (.long q4), .second, .val (.int p5), .val (.ref b1), .val (.long ln), .second, .val (.long ((((p5 >>> ((2 : Int32) &&& 31)) % (3 : Int32)).toInt64) - (1 : Int64))), .second, .val (.long sA), .second, .val (.long sB), .second, .val (.long (q1 - q4)), .second, .val (.int (0 : Int32)), .val (.long (sA + ln)), .second, .val (.int (0 : Int32)), .val (.long q1), .second, .unset, .unset, .unset, .unset, .unset, .unset] [(.long sB), (.ref b1)])) t → Steps p.tables e below (s₁.setTop (entryFrame m #[(.int p0), (.long q1), (.long q2), (.long q3), (.long q4), (.int p5)] maxLocals)) t := fun t kt => pre102 t (by
          show Steps p.tables e below (T100.setTop (mkF m 111 #[.val (.int p0), .val (.long q1), .second, .val (.long q2), .second, .val (.long q3), .second, .val (.long q4), .second, .val (.int p5), .val (.ref b1), .val (.long ln), .second, .val (.long ((((p5 >>> ((2 : Int32) &&& 31)) % (3 : Int32)).toInt64) - (1 : Int64))), .second, .val (.long sA), .second, .val (.long sB), .second, .val (.long (q1 - q4)), .second, .val (.int (0 : Int32)), .val (.long (sA + ln)), .second, .unset, .unset, .unset, .unset, .unset, .unset, .unset, .unset, .unset] [(.int (0 : Int32))])) _
          refine XS.istore X100.here hx rfl (hb hby at_111) rfl (l' := #[.val (.int p0), .val (.long q1), .second, .val (.long q2), .second, .val (.long q3), .second, .val (.long q4), .second, .val (.int p5), .val (.ref b1), .val (.long ln), .second, .val (.long ((((p5 >>> ((2 : Int32) &&& 31)) % (3 : Int32)).toInt64) - (1 : Int64))), .second, .val (.long sA), .second, .val (.long sB), .second, .val (.long (q1 - q4)), .second, .val (.int (0 : Int32)), .val (.long (sA + ln)), .second, .val (.int (0 : Int32)), .unset, .unset, .unset, .unset, .unset, .unset, .unset, .unset]) rfl ?_
          show Steps p.tables e below (T100.setTop (mkF m 113 #[.val (.int p0), .val (.long q1), .second, .val (.long q2), .second, .val (.long q3), .second, .val (.long q4), .second, .val (.int p5), .val (.ref b1), .val (.long ln), .second, .val (.long ((((p5 >>> ((2 : Int32) &&& 31)) % (3 : Int32)).toInt64) - (1 : Int64))), .second, .val (.long sA), .second, .val (.long sB), .second, .val (.long (q1 - q4)), .second, .val (.int (0 : Int32)), .val (.long (sA + ln)), .second, .val (.int (0 : Int32)), .unset, .unset, .unset, .unset, .unset, .unset, .unset, .unset] [])) _
          refine XS.iload X100.here hx rfl (hb hby at_113) rfl ?_
          show Steps p.tables e below (T100.setTop (mkF m 115 #[.val (.int p0), .val (.long q1), .second, .val (.long q2), .second, .val (.long q3), .second, .val (.long q4), .second, .val (.int p5), .val (.ref b1), .val (.long ln), .second, .val (.long ((((p5 >>> ((2 : Int32) &&& 31)) % (3 : Int32)).toInt64) - (1 : Int64))), .second, .val (.long sA), .second, .val (.long sB), .second, .val (.long (q1 - q4)), .second, .val (.int (0 : Int32)), .val (.long (sA + ln)), .second, .val (.int (0 : Int32)), .unset, .unset, .unset, .unset, .unset, .unset, .unset, .unset] [(.int (0 : Int32))])) _
          refine XS.ifYes X100.here hx rfl (pc0 := 115) (pc' := 123) rfl (hb hby at_115) rfl ((if0 _ _).trans (teq (rfl : (0 : Int32) = (0 : Int32))).1) (by decide) (by decide) ?_
          show Steps p.tables e below (T100.setTop (mkF m 123 #[.val (.int p0), .val (.long q1), .second, .val (.long q2), .second, .val (.long q3), .second, .val (.long q4), .second, .val (.int p5), .val (.ref b1), .val (.long ln), .second, .val (.long ((((p5 >>> ((2 : Int32) &&& 31)) % (3 : Int32)).toInt64) - (1 : Int64))), .second, .val (.long sA), .second, .val (.long sB), .second, .val (.long (q1 - q4)), .second, .val (.int (0 : Int32)), .val (.long (sA + ln)), .second, .val (.int (0 : Int32)), .unset, .unset, .unset, .unset, .unset, .unset, .unset, .unset] [])) _
          refine XS.lloadN X100.here hx rfl (hb hby at_123) rfl ?_
          show Steps p.tables e below (T100.setTop (mkF m 124 #[.val (.int p0), .val (.long q1), .second, .val (.long q2), .second, .val (.long q3), .second, .val (.long q4), .second, .val (.int p5), .val (.ref b1), .val (.long ln), .second, .val (.long ((((p5 >>> ((2 : Int32) &&& 31)) % (3 : Int32)).toInt64) - (1 : Int64))), .second, .val (.long sA), .second, .val (.long sB), .second, .val (.long (q1 - q4)), .second, .val (.int (0 : Int32)), .val (.long (sA + ln)), .second, .val (.int (0 : Int32)), .unset, .unset, .unset, .unset, .unset, .unset, .unset, .unset] [(.long q1)])) _
          refine XS.lstore X100.here hx rfl (hb hby at_124) rfl (l' := #[.val (.int p0), .val (.long q1), .second, .val (.long q2), .second, .val (.long q3), .second, .val (.long q4), .second, .val (.int p5), .val (.ref b1), .val (.long ln), .second, .val (.long ((((p5 >>> ((2 : Int32) &&& 31)) % (3 : Int32)).toInt64) - (1 : Int64))), .second, .val (.long sA), .second, .val (.long sB), .second, .val (.long (q1 - q4)), .second, .val (.int (0 : Int32)), .val (.long (sA + ln)), .second, .val (.int (0 : Int32)), .val (.long q1), .second, .unset, .unset, .unset, .unset, .unset, .unset]) rfl ?_
          show Steps p.tables e below (T100.setTop (mkF m 126 #[.val (.int p0), .val (.long q1), .second, .val (.long q2), .second, .val (.long q3), .second, .val (.long q4), .second, .val (.int p5), .val (.ref b1), .val (.long ln), .second, .val (.long ((((p5 >>> ((2 : Int32) &&& 31)) % (3 : Int32)).toInt64) - (1 : Int64))), .second, .val (.long sA), .second, .val (.long sB), .second, .val (.long (q1 - q4)), .second, .val (.int (0 : Int32)), .val (.long (sA + ln)), .second, .val (.int (0 : Int32)), .val (.long q1), .second, .unset, .unset, .unset, .unset, .unset, .unset] [])) _
          refine XS.iload X100.here hx rfl (hb hby at_126) rfl ?_
          show Steps p.tables e below (T100.setTop (mkF m 128 #[.val (.int p0), .val (.long q1), .second, .val (.long q2), .second, .val (.long q3), .second, .val (.long q4), .second, .val (.int p5), .val (.ref b1), .val (.long ln), .second, .val (.long ((((p5 >>> ((2 : Int32) &&& 31)) % (3 : Int32)).toInt64) - (1 : Int64))), .second, .val (.long sA), .second, .val (.long sB), .second, .val (.long (q1 - q4)), .second, .val (.int (0 : Int32)), .val (.long (sA + ln)), .second, .val (.int (0 : Int32)), .val (.long q1), .second, .unset, .unset, .unset, .unset, .unset, .unset] [(.int (0 : Int32))])) _
          refine XS.iload X100.here hx rfl (hb hby at_128) rfl ?_
          show Steps p.tables e below (T100.setTop (mkF m 130 #[.val (.int p0), .val (.long q1), .second, .val (.long q2), .second, .val (.long q3), .second, .val (.long q4), .second, .val (.int p5), .val (.ref b1), .val (.long ln), .second, .val (.long ((((p5 >>> ((2 : Int32) &&& 31)) % (3 : Int32)).toInt64) - (1 : Int64))), .second, .val (.long sA), .second, .val (.long sB), .second, .val (.long (q1 - q4)), .second, .val (.int (0 : Int32)), .val (.long (sA + ln)), .second, .val (.int (0 : Int32)), .val (.long q1), .second, .unset, .unset, .unset, .unset, .unset, .unset] [(.int (0 : Int32)), (.int (0 : Int32))])) _
          refine XS.icmpYes X100.here hx rfl (pc0 := 130) (pc' := 135) rfl (hb hby at_130) rfl (teq (rfl : (0 : Int32) = (0 : Int32))).1 (by decide) (by decide) ?_
          show Steps p.tables e below (T100.setTop (mkF m 135 #[.val (.int p0), .val (.long q1), .second, .val (.long q2), .second, .val (.long q3), .second, .val (.long q4), .second, .val (.int p5), .val (.ref b1), .val (.long ln), .second, .val (.long ((((p5 >>> ((2 : Int32) &&& 31)) % (3 : Int32)).toInt64) - (1 : Int64))), .second, .val (.long sA), .second, .val (.long sB), .second, .val (.long (q1 - q4)), .second, .val (.int (0 : Int32)), .val (.long (sA + ln)), .second, .val (.int (0 : Int32)), .val (.long q1), .second, .unset, .unset, .unset, .unset, .unset, .unset] [])) _
          refine XS.aload X100.here hx rfl (hb hby at_135) rfl rfl ?_
          show Steps p.tables e below (T100.setTop (mkF m 137 #[.val (.int p0), .val (.long q1), .second, .val (.long q2), .second, .val (.long q3), .second, .val (.long q4), .second, .val (.int p5), .val (.ref b1), .val (.long ln), .second, .val (.long ((((p5 >>> ((2 : Int32) &&& 31)) % (3 : Int32)).toInt64) - (1 : Int64))), .second, .val (.long sA), .second, .val (.long sB), .second, .val (.long (q1 - q4)), .second, .val (.int (0 : Int32)), .val (.long (sA + ln)), .second, .val (.int (0 : Int32)), .val (.long q1), .second, .unset, .unset, .unset, .unset, .unset, .unset] [(.ref b1)])) _
          refine XS.lload X100.here hx rfl (hb hby at_137) rfl ?_
          show Steps p.tables e below (T100.setTop (mkF m 139 #[.val (.int p0), .val (.long q1), .second, .val (.long q2), .second, .val (.long q3), .second, .val (.long q4), .second, .val (.int p5), .val (.ref b1), .val (.long ln), .second, .val (.long ((((p5 >>> ((2 : Int32) &&& 31)) % (3 : Int32)).toInt64) - (1 : Int64))), .second, .val (.long sA), .second, .val (.long sB), .second, .val (.long (q1 - q4)), .second, .val (.int (0 : Int32)), .val (.long (sA + ln)), .second, .val (.int (0 : Int32)), .val (.long q1), .second, .unset, .unset, .unset, .unset, .unset, .unset] [(.long q4), (.ref b1)])) _
          refine st103.trans ?_
          show Steps p.tables e below (T103.setTop (mkF m 142 #[.val (.int p0), .val (.long q1), .second, .val (.long q2), .second, .val (.long q3), .second, .val (.long q4), .second, .val (.int p5), .val (.ref b1), .val (.long ln), .second, .val (.long ((((p5 >>> ((2 : Int32) &&& 31)) % (3 : Int32)).toInt64) - (1 : Int64))), .second, .val (.long sA), .second, .val (.long sB), .second, .val (.long (q1 - q4)), .second, .val (.int (0 : Int32)), .val (.long (sA + ln)), .second, .val (.int (0 : Int32)), .val (.long q1), .second, .unset, .unset, .unset, .unset, .unset, .unset] [(.long (q1 - q4))])) _
          refine XS.lload X103.here hx rfl (hb hby at_142) rfl ?_
          show Steps p.tables e below (T103.setTop (mkF m 144 #[.val (.int p0), .val (.long q1), .second, .val (.long q2), .second, .val (.long q3), .second, .val (.long q4), .second, .val (.int p5), .val (.ref b1), .val (.long ln), .second, .val (.long ((((p5 >>> ((2 : Int32) &&& 31)) % (3 : Int32)).toInt64) - (1 : Int64))), .second, .val (.long sA), .second, .val (.long sB), .second, .val (.long (q1 - q4)), .second, .val (.int (0 : Int32)), .val (.long (sA + ln)), .second, .val (.int (0 : Int32)), .val (.long q1), .second, .unset, .unset, .unset, .unset, .unset, .unset] [(.long q1), (.long (q1 - q4))])) _
          refine XS.lload X103.here hx rfl (hb hby at_144) rfl ?_
          show Steps p.tables e below (T103.setTop (mkF m 146 #[.val (.int p0), .val (.long q1), .second, .val (.long q2), .second, .val (.long q3), .second, .val (.long q4), .second, .val (.int p5), .val (.ref b1), .val (.long ln), .second, .val (.long ((((p5 >>> ((2 : Int32) &&& 31)) % (3 : Int32)).toInt64) - (1 : Int64))), .second, .val (.long sA), .second, .val (.long sB), .second, .val (.long (q1 - q4)), .second, .val (.int (0 : Int32)), .val (.long (sA + ln)), .second, .val (.int (0 : Int32)), .val (.long q1), .second, .unset, .unset, .unset, .unset, .unset, .unset] [(.long q4), (.long q1), (.long (q1 - q4))])) _
          refine XS.lsub X103.here hx rfl (hb hby at_146) rfl ?_
          show Steps p.tables e below (T103.setTop (mkF m 147 #[.val (.int p0), .val (.long q1), .second, .val (.long q2), .second, .val (.long q3), .second, .val (.long q4), .second, .val (.int p5), .val (.ref b1), .val (.long ln), .second, .val (.long ((((p5 >>> ((2 : Int32) &&& 31)) % (3 : Int32)).toInt64) - (1 : Int64))), .second, .val (.long sA), .second, .val (.long sB), .second, .val (.long (q1 - q4)), .second, .val (.int (0 : Int32)), .val (.long (sA + ln)), .second, .val (.int (0 : Int32)), .val (.long q1), .second, .unset, .unset, .unset, .unset, .unset, .unset] [(.long (q1 - q4)), (.long (q1 - q4))])) _
          refine XS.lcmp X103.here hx rfl (hb hby at_147) rfl ?_
          show Steps p.tables e below (T103.setTop (mkF m 148 #[.val (.int p0), .val (.long q1), .second, .val (.long q2), .second, .val (.long q3), .second, .val (.long q4), .second, .val (.int p5), .val (.ref b1), .val (.long ln), .second, .val (.long ((((p5 >>> ((2 : Int32) &&& 31)) % (3 : Int32)).toInt64) - (1 : Int64))), .second, .val (.long sA), .second, .val (.long sB), .second, .val (.long (q1 - q4)), .second, .val (.int (0 : Int32)), .val (.long (sA + ln)), .second, .val (.int (0 : Int32)), .val (.long q1), .second, .unset, .unset, .unset, .unset, .unset, .unset] [(.int (lcmpW (q1 - q4) (q1 - q4)))])) _
          refine XS.ifYes X103.here hx rfl (pc0 := 148) (pc' := 153) rfl (hb hby at_148) rfl ((if0 _ _).trans (teq ((lw_eq _ _).mpr rfl)).1) (by decide) (by decide) ?_
          show Steps p.tables e below (T103.setTop (mkF m 153 #[.val (.int p0), .val (.long q1), .second, .val (.long q2), .second, .val (.long q3), .second, .val (.long q4), .second, .val (.int p5), .val (.ref b1), .val (.long ln), .second, .val (.long ((((p5 >>> ((2 : Int32) &&& 31)) % (3 : Int32)).toInt64) - (1 : Int64))), .second, .val (.long sA), .second, .val (.long sB), .second, .val (.long (q1 - q4)), .second, .val (.int (0 : Int32)), .val (.long (sA + ln)), .second, .val (.int (0 : Int32)), .val (.long q1), .second, .unset, .unset, .unset, .unset, .unset, .unset] [])) _
          refine XS.aload X103.here hx rfl (hb hby at_153) rfl rfl ?_
          show Steps p.tables e below (T103.setTop (mkF m 155 #[.val (.int p0), .val (.long q1), .second, .val (.long q2), .second, .val (.long q3), .second, .val (.long q4), .second, .val (.int p5), .val (.ref b1), .val (.long ln), .second, .val (.long ((((p5 >>> ((2 : Int32) &&& 31)) % (3 : Int32)).toInt64) - (1 : Int64))), .second, .val (.long sA), .second, .val (.long sB), .second, .val (.long (q1 - q4)), .second, .val (.int (0 : Int32)), .val (.long (sA + ln)), .second, .val (.int (0 : Int32)), .val (.long q1), .second, .unset, .unset, .unset, .unset, .unset, .unset] [(.ref b1)])) _
          refine XS.lload X103.here hx rfl (hb hby at_155) rfl ?_
          exact kt)
      by_cases hs105 : (0 : Int64) < ((sB + ln) - q1)
      · skip
        obtain ⟨cq106, kq106, q106a, q106b, q106c⟩ := isOf hZ e103 c17_1
        obtain ⟨_, _, ⟨T106, L106, k106, n106⟩, -, X106, ⟨Lc106, hQ106, l106, y106, z106⟩, st106⟩ := X103.virtualBack hx (y := (⟨"com/example/cluster_log/clusterlog/Lease", "renew", "(J)Z"⟩ : MethodName)) (z := (⟨"com/example/cluster_log/clusterlog/Lease", "renew", "(J)Z"⟩ : MethodName)) hown (mvT hZ (hw _ (List.mem_of_getElem? (i := 42) rfl))) (mvT hZ (hw _ (List.mem_of_getElem? (i := 43) rfl))) (notFace_of_selects (args := #[]) (mvT hZ (hw _ (List.mem_of_getElem? (i := 45) rfl)))) (mvT hZ (hw _ (List.mem_of_getElem? (i := 45) rfl))) (mvT hZ (hw _ (List.mem_of_getElem? (i := 44) rfl))) (by decide) (backOf (W := 0) (rmY l Z aw hw [] b1 sB ln q1 T17.heap n0 (Nat.le_trans (Nat.le_trans Z0 E1.1) c17_0.1) hs105 c17_2 c17_3 c17_1 ge_b1) hZ (hw _ (List.mem_of_getElem? (i := 46) rfl)) (hw _ (List.mem_of_getElem? (i := 2) rfl)) (by decide) (by decide)) q106a q106c (g := (mkF m 157 #[.val (.int p0), .val (.long q1), .second, .val (.long q2), .second, .val (.long q3), .second, .val (.long q4), .second, .val (.int p5), .val (.ref b1), .val (.long ln), .second, .val (.long ((((p5 >>> ((2 : Int32) &&& 31)) % (3 : Int32)).toInt64) - (1 : Int64))), .second, .val (.long sA), .second, .val (.long sB), .second, .val (.long (q1 - q4)), .second, .val (.int (0 : Int32)), .val (.long (sA + ln)), .second, .val (.int (0 : Int32)), .val (.long q1), .second, .unset, .unset, .unset, .unset, .unset, .unset] [(.long sB), (.ref b1)])) rfl (by rw [hml]; rfl) (Steps.refl _) (argsL := [(.long sB)]) (rest := []) (lenOf pd_4 rfl) rfl (by show 2 * 0 + _ ≤ _; exact Nat.le_of_eq rfl) (hb hby at_157) (fun _ _ => ⟨rfl, e103, (by decide : 1 + 0 ≤ _), (by decide : 3 + 0 ≤ _)⟩)
        dsimp only [Pt.U, Pt.locs, Pt.cells, Pt.slots] at X106 l106 y106 z106 st106 hQ106
        subst l106 y106 z106
        obtain ⟨rfl, Nq106, c106_0, c106_1, c106_2, c106_3⟩ := hQ106
        have N106 := Fr.app N103 Nq106
        have f107 := (own_sta_keep f18 c106_0 (allS (own_exa_ns c17_1) all0))
        have f108 := (f19.keep c106_0)
        have f109 := (f20.keep c106_0 (ninS ne15 nin0))
        have f110 := (f21.keep c106_0)
        have f111 := (f22.keep c106_0 (ninS ne15 nin0))
        have f112 := (f23.keep c106_0 (ninS ne15 nin0))
        have f113 := (f24.keep c106_0 (ninS ne15 nin0))
        have f114 := (f25.keep c106_0 (ninS ne15 nin0))
        have f115 := (f26.keep c106_0 (ninS ne15 nin0))
        have f116 := (f27.keep c106_0 (ninS ne15 nin0))
        have f117 := (f28.keep c106_0 (ninS ne15 nin0))
        have f118 := (f29.keep c106_0 (ninS ne15 nin0))
        have f119 := (f30.keep c106_0 (ninS ne15 nin0))
        have f120 := (c17_1.keep c106_0)
        have K121 : Keep h0 T106.heap [] := Keep.trans K32 c106_0 (allS (Or.inr sz_b1) all0)
        obtain ⟨_, _, ⟨T122, L122, k122, n122⟩, -, X122, ⟨Lc122, hQ122, l122, y122, z122⟩, st122⟩ := Jvm.LawKit.callS X106 hx (y := (⟨"com/example/cluster_log/clusterlog/LeaseRenewPinLaw", "later", "(JJ)Z"⟩ : MethodName)) hown (mvT hZ (hw _ (List.mem_of_getElem? (i := 47) rfl))) (mvT hZ (hw _ (List.mem_of_getElem? (i := 48) rfl))) (mvT hZ (hw _ (List.mem_of_getElem? (i := 49) rfl))) (mvT hZ (hw _ (List.mem_of_getElem? (i := 50) rfl))) (by decide) (backOf (W := 0) (rm8 l Z aw hw [] (sB + ln) q1 T106.heap n0 (Nat.le_trans (Nat.le_trans (Nat.le_trans Z0 E1.1) c17_0.1) c106_0.1) ) hZ (hw _ (List.mem_of_getElem? (i := 50) rfl)) (hw _ (List.mem_of_getElem? (i := 49) rfl)) (by decide) (by decide)) (g := (mkF m 173 #[.val (.int p0), .val (.long q1), .second, .val (.long q2), .second, .val (.long q3), .second, .val (.long q4), .second, .val (.int p5), .val (.ref b1), .val (.long ln), .second, .val (.long ((((p5 >>> ((2 : Int32) &&& 31)) % (3 : Int32)).toInt64) - (1 : Int64))), .second, .val (.long sA), .second, .val (.long sB), .second, .val (.long (q1 - q4)), .second, .val (.int (0 : Int32)), .val (.long (sA + ln)), .second, .val (.int (0 : Int32)), .val (.long q1), .second, .val (.int (1 : Int32)), .val (.long (sB + ln)), .second, .unset, .unset, .unset] [(.long q1), (.long (sB + ln))])) rfl (by rw [hml]; rfl) (argsL := [(.long (sB + ln)), (.long q1)]) (rest := []) (lenOf pd_5 rfl) rfl (by show 2 * 0 + _ ≤ _; exact Nat.le_of_eq rfl) (hb hby at_173) (fun _ _ => ⟨rfl, rfl, (by decide : 1 + 0 ≤ _), (by decide : 3 + 0 ≤ _)⟩)
        dsimp only [Pt.U, Pt.locs, Pt.cells, Pt.slots] at X122 l122 y122 z122 st122 hQ122
        subst l122 y122 z122
        obtain ⟨⟨r123, rfl, Pr123⟩, Nq122, e122⟩ := hQ122
        have N122 := Fr.app N106 Nq122
        have pre124 : ∀ t, Steps p.tables e below (T122.setTop (mkF m 176 #[.val (.int p0), .val (.long q1), .second, .val (.long q2), .second, .val (.long q3), .second, .val (.long q4), .second, .val (.int p5), .val (.ref b1), .val (.long ln), .second, .val (.long ((((p5 >>> ((2 : Int32) &&& 31)) % (3 : Int32)).toInt64) - (1 : Int64))), .second, .val (.long sA), .second, .val (.long sB), .second, .val (.long (q1 - q4)), .second, .val (.int (0 : Int32)), .val (.long (sA + ln)), .second, .val (.int (0 : Int32)), .val (.long q1), .second, .val (.int (1 : Int32)), .val (.long (sB + ln)), .second, .unset, .unset, .unset] [(.int r123)])) t → Steps p.tables e below (s₁.setTop (entryFrame m #[(.int p0), (.long q1), (.long q2), (.long q3), (.long q4), (.int p5)] maxLocals)) t := fun t kt => pre104 t (by
            show Steps p.tables e below (T103.setTop (mkF m 157 #[.val (.int p0), .val (.long q1), .second, .val (.long q2), .second, .val (.long q3), .second, .val (.long q4), .second, .val (.int p5), .val (.ref b1), .val (.long ln), .second, .val (.long ((((p5 >>> ((2 : Int32) &&& 31)) % (3 : Int32)).toInt64) - (1 : Int64))), .second, .val (.long sA), .second, .val (.long sB), .second, .val (.long (q1 - q4)), .second, .val (.int (0 : Int32)), .val (.long (sA + ln)), .second, .val (.int (0 : Int32)), .val (.long q1), .second, .unset, .unset, .unset, .unset, .unset, .unset] [(.long sB), (.ref b1)])) _
            refine st106.trans ?_
            show Steps p.tables e below (T106.setTop (mkF m 160 #[.val (.int p0), .val (.long q1), .second, .val (.long q2), .second, .val (.long q3), .second, .val (.long q4), .second, .val (.int p5), .val (.ref b1), .val (.long ln), .second, .val (.long ((((p5 >>> ((2 : Int32) &&& 31)) % (3 : Int32)).toInt64) - (1 : Int64))), .second, .val (.long sA), .second, .val (.long sB), .second, .val (.long (q1 - q4)), .second, .val (.int (0 : Int32)), .val (.long (sA + ln)), .second, .val (.int (0 : Int32)), .val (.long q1), .second, .unset, .unset, .unset, .unset, .unset, .unset] [(.int (1 : Int32))])) _
            refine XS.istore X106.here hx rfl (hb hby at_160) rfl (l' := #[.val (.int p0), .val (.long q1), .second, .val (.long q2), .second, .val (.long q3), .second, .val (.long q4), .second, .val (.int p5), .val (.ref b1), .val (.long ln), .second, .val (.long ((((p5 >>> ((2 : Int32) &&& 31)) % (3 : Int32)).toInt64) - (1 : Int64))), .second, .val (.long sA), .second, .val (.long sB), .second, .val (.long (q1 - q4)), .second, .val (.int (0 : Int32)), .val (.long (sA + ln)), .second, .val (.int (0 : Int32)), .val (.long q1), .second, .val (.int (1 : Int32)), .unset, .unset, .unset, .unset, .unset]) rfl ?_
            show Steps p.tables e below (T106.setTop (mkF m 162 #[.val (.int p0), .val (.long q1), .second, .val (.long q2), .second, .val (.long q3), .second, .val (.long q4), .second, .val (.int p5), .val (.ref b1), .val (.long ln), .second, .val (.long ((((p5 >>> ((2 : Int32) &&& 31)) % (3 : Int32)).toInt64) - (1 : Int64))), .second, .val (.long sA), .second, .val (.long sB), .second, .val (.long (q1 - q4)), .second, .val (.int (0 : Int32)), .val (.long (sA + ln)), .second, .val (.int (0 : Int32)), .val (.long q1), .second, .val (.int (1 : Int32)), .unset, .unset, .unset, .unset, .unset] [])) _
            refine XS.lload X106.here hx rfl (hb hby at_162) rfl ?_
            show Steps p.tables e below (T106.setTop (mkF m 164 #[.val (.int p0), .val (.long q1), .second, .val (.long q2), .second, .val (.long q3), .second, .val (.long q4), .second, .val (.int p5), .val (.ref b1), .val (.long ln), .second, .val (.long ((((p5 >>> ((2 : Int32) &&& 31)) % (3 : Int32)).toInt64) - (1 : Int64))), .second, .val (.long sA), .second, .val (.long sB), .second, .val (.long (q1 - q4)), .second, .val (.int (0 : Int32)), .val (.long (sA + ln)), .second, .val (.int (0 : Int32)), .val (.long q1), .second, .val (.int (1 : Int32)), .unset, .unset, .unset, .unset, .unset] [(.long sB)])) _
            refine XS.lload X106.here hx rfl (hb hby at_164) rfl ?_
            show Steps p.tables e below (T106.setTop (mkF m 166 #[.val (.int p0), .val (.long q1), .second, .val (.long q2), .second, .val (.long q3), .second, .val (.long q4), .second, .val (.int p5), .val (.ref b1), .val (.long ln), .second, .val (.long ((((p5 >>> ((2 : Int32) &&& 31)) % (3 : Int32)).toInt64) - (1 : Int64))), .second, .val (.long sA), .second, .val (.long sB), .second, .val (.long (q1 - q4)), .second, .val (.int (0 : Int32)), .val (.long (sA + ln)), .second, .val (.int (0 : Int32)), .val (.long q1), .second, .val (.int (1 : Int32)), .unset, .unset, .unset, .unset, .unset] [(.long ln), (.long sB)])) _
            refine XS.ladd X106.here hx rfl (hb hby at_166) rfl ?_
            show Steps p.tables e below (T106.setTop (mkF m 167 #[.val (.int p0), .val (.long q1), .second, .val (.long q2), .second, .val (.long q3), .second, .val (.long q4), .second, .val (.int p5), .val (.ref b1), .val (.long ln), .second, .val (.long ((((p5 >>> ((2 : Int32) &&& 31)) % (3 : Int32)).toInt64) - (1 : Int64))), .second, .val (.long sA), .second, .val (.long sB), .second, .val (.long (q1 - q4)), .second, .val (.int (0 : Int32)), .val (.long (sA + ln)), .second, .val (.int (0 : Int32)), .val (.long q1), .second, .val (.int (1 : Int32)), .unset, .unset, .unset, .unset, .unset] [(.long (sB + ln))])) _
            refine XS.lstore X106.here hx rfl (hb hby at_167) rfl (l' := #[.val (.int p0), .val (.long q1), .second, .val (.long q2), .second, .val (.long q3), .second, .val (.long q4), .second, .val (.int p5), .val (.ref b1), .val (.long ln), .second, .val (.long ((((p5 >>> ((2 : Int32) &&& 31)) % (3 : Int32)).toInt64) - (1 : Int64))), .second, .val (.long sA), .second, .val (.long sB), .second, .val (.long (q1 - q4)), .second, .val (.int (0 : Int32)), .val (.long (sA + ln)), .second, .val (.int (0 : Int32)), .val (.long q1), .second, .val (.int (1 : Int32)), .val (.long (sB + ln)), .second, .unset, .unset, .unset]) rfl ?_
            show Steps p.tables e below (T106.setTop (mkF m 169 #[.val (.int p0), .val (.long q1), .second, .val (.long q2), .second, .val (.long q3), .second, .val (.long q4), .second, .val (.int p5), .val (.ref b1), .val (.long ln), .second, .val (.long ((((p5 >>> ((2 : Int32) &&& 31)) % (3 : Int32)).toInt64) - (1 : Int64))), .second, .val (.long sA), .second, .val (.long sB), .second, .val (.long (q1 - q4)), .second, .val (.int (0 : Int32)), .val (.long (sA + ln)), .second, .val (.int (0 : Int32)), .val (.long q1), .second, .val (.int (1 : Int32)), .val (.long (sB + ln)), .second, .unset, .unset, .unset] [])) _
            refine XS.lload X106.here hx rfl (hb hby at_169) rfl ?_
            show Steps p.tables e below (T106.setTop (mkF m 171 #[.val (.int p0), .val (.long q1), .second, .val (.long q2), .second, .val (.long q3), .second, .val (.long q4), .second, .val (.int p5), .val (.ref b1), .val (.long ln), .second, .val (.long ((((p5 >>> ((2 : Int32) &&& 31)) % (3 : Int32)).toInt64) - (1 : Int64))), .second, .val (.long sA), .second, .val (.long sB), .second, .val (.long (q1 - q4)), .second, .val (.int (0 : Int32)), .val (.long (sA + ln)), .second, .val (.int (0 : Int32)), .val (.long q1), .second, .val (.int (1 : Int32)), .val (.long (sB + ln)), .second, .unset, .unset, .unset] [(.long (sB + ln))])) _
            refine XS.lload X106.here hx rfl (hb hby at_171) rfl ?_
            show Steps p.tables e below (T106.setTop (mkF m 173 #[.val (.int p0), .val (.long q1), .second, .val (.long q2), .second, .val (.long q3), .second, .val (.long q4), .second, .val (.int p5), .val (.ref b1), .val (.long ln), .second, .val (.long ((((p5 >>> ((2 : Int32) &&& 31)) % (3 : Int32)).toInt64) - (1 : Int64))), .second, .val (.long sA), .second, .val (.long sB), .second, .val (.long (q1 - q4)), .second, .val (.int (0 : Int32)), .val (.long (sA + ln)), .second, .val (.int (0 : Int32)), .val (.long q1), .second, .val (.int (1 : Int32)), .val (.long (sB + ln)), .second, .unset, .unset, .unset] [(.long q1), (.long (sB + ln))])) _
            refine st122 _ ?_
            exact kt)
        obtain rfl : (1 : Int32) = r123 := Pr123.1 hs105
        obtain ⟨cq125, kq125, q125a, q125b, q125c⟩ := isOf hZ e122 c106_1
        obtain ⟨_, _, ⟨T125, L125, k125, n125⟩, -, X125, ⟨Lc125, hQ125, l125, y125, z125⟩, st125⟩ := X122.virtualBack hx (y := (⟨"com/example/cluster_log/clusterlog/Lease", "left", "(J)J"⟩ : MethodName)) (z := (⟨"com/example/cluster_log/clusterlog/Lease", "left", "(J)J"⟩ : MethodName)) hown (mvT hZ (hw _ (List.mem_of_getElem? (i := 37) rfl))) (mvT hZ (hw _ (List.mem_of_getElem? (i := 38) rfl))) (notFace_of_selects (args := #[]) (mvT hZ (hw _ (List.mem_of_getElem? (i := 40) rfl)))) (mvT hZ (hw _ (List.mem_of_getElem? (i := 40) rfl))) (mvT hZ (hw _ (List.mem_of_getElem? (i := 39) rfl))) (by decide) (backOf (W := 0) (rm6 l Z aw hw [] b1 q4 (sB + ln) T106.heap n0 (Nat.le_trans (Nat.le_trans (Nat.le_trans Z0 E1.1) c17_0.1) c106_0.1) c106_3) hZ (hw _ (List.mem_of_getElem? (i := 41) rfl)) (hw _ (List.mem_of_getElem? (i := 2) rfl)) (by decide) (by decide)) q125a q125c (g := (mkF m 205 #[.val (.int p0), .val (.long q1), .second, .val (.long q2), .second, .val (.long q3), .second, .val (.long q4), .second, .val (.int p5), .val (.ref b1), .val (.long ln), .second, .val (.long ((((p5 >>> ((2 : Int32) &&& 31)) % (3 : Int32)).toInt64) - (1 : Int64))), .second, .val (.long sA), .second, .val (.long sB), .second, .val (.long (q1 - q4)), .second, .val (.int (0 : Int32)), .val (.long (sA + ln)), .second, .val (.int (0 : Int32)), .val (.long q1), .second, .val (.int (1 : Int32)), .val (.long (sB + ln)), .second, .val (.int (1 : Int32)), .val (.long (sB + ln)), .second] [(.long q4), (.ref b1)])) rfl (by rw [hml]; rfl) (Steps.refl _) (argsL := [(.long q4)]) (rest := []) (lenOf pd_0 rfl) rfl (by show 2 * 0 + _ ≤ _; exact Nat.le_of_eq rfl) (hb hby at_205) (fun _ _ => ⟨rfl, e122, (by decide : 1 + 0 ≤ _), (by decide : 3 + 0 ≤ _)⟩)
        dsimp only [Pt.U, Pt.locs, Pt.cells, Pt.slots] at X125 l125 y125 z125 st125 hQ125
        subst l125 y125 z125
        obtain ⟨rfl, Nq125, e125⟩ := hQ125
        have N125 := Fr.app N122 Nq125
        have pre126 : ∀ t, Steps p.tables e below (T125.setTop (mkF m 222 #[.val (.int p0), .val (.long q1), .second, .val (.long q2), .second, .val (.long q3), .second, .val (.long q4), .second, .val (.int p5), .val (.ref b1), .val (.long ln), .second, .val (.long ((((p5 >>> ((2 : Int32) &&& 31)) % (3 : Int32)).toInt64) - (1 : Int64))), .second, .val (.long sA), .second, .val (.long sB), .second, .val (.long (q1 - q4)), .second, .val (.int (0 : Int32)), .val (.long (sA + ln)), .second, .val (.int (0 : Int32)), .val (.long q1), .second, .val (.int (1 : Int32)), .val (.long (sB + ln)), .second, .val (.int (1 : Int32)), .val (.long (sB + ln)), .second] [(.int (1 : Int32))])) t → Steps p.tables e below (s₁.setTop (entryFrame m #[(.int p0), (.long q1), (.long q2), (.long q3), (.long q4), (.int p5)] maxLocals)) t := fun t kt => pre124 t (by
            show Steps p.tables e below (T122.setTop (mkF m 176 #[.val (.int p0), .val (.long q1), .second, .val (.long q2), .second, .val (.long q3), .second, .val (.long q4), .second, .val (.int p5), .val (.ref b1), .val (.long ln), .second, .val (.long ((((p5 >>> ((2 : Int32) &&& 31)) % (3 : Int32)).toInt64) - (1 : Int64))), .second, .val (.long sA), .second, .val (.long sB), .second, .val (.long (q1 - q4)), .second, .val (.int (0 : Int32)), .val (.long (sA + ln)), .second, .val (.int (0 : Int32)), .val (.long q1), .second, .val (.int (1 : Int32)), .val (.long (sB + ln)), .second, .unset, .unset, .unset] [(.int (1 : Int32))])) _
            refine XS.istore X122.here hx rfl (hb hby at_176) rfl (l' := #[.val (.int p0), .val (.long q1), .second, .val (.long q2), .second, .val (.long q3), .second, .val (.long q4), .second, .val (.int p5), .val (.ref b1), .val (.long ln), .second, .val (.long ((((p5 >>> ((2 : Int32) &&& 31)) % (3 : Int32)).toInt64) - (1 : Int64))), .second, .val (.long sA), .second, .val (.long sB), .second, .val (.long (q1 - q4)), .second, .val (.int (0 : Int32)), .val (.long (sA + ln)), .second, .val (.int (0 : Int32)), .val (.long q1), .second, .val (.int (1 : Int32)), .val (.long (sB + ln)), .second, .val (.int (1 : Int32)), .unset, .unset]) rfl ?_
            show Steps p.tables e below (T122.setTop (mkF m 178 #[.val (.int p0), .val (.long q1), .second, .val (.long q2), .second, .val (.long q3), .second, .val (.long q4), .second, .val (.int p5), .val (.ref b1), .val (.long ln), .second, .val (.long ((((p5 >>> ((2 : Int32) &&& 31)) % (3 : Int32)).toInt64) - (1 : Int64))), .second, .val (.long sA), .second, .val (.long sB), .second, .val (.long (q1 - q4)), .second, .val (.int (0 : Int32)), .val (.long (sA + ln)), .second, .val (.int (0 : Int32)), .val (.long q1), .second, .val (.int (1 : Int32)), .val (.long (sB + ln)), .second, .val (.int (1 : Int32)), .unset, .unset] [])) _
            refine XS.iload X122.here hx rfl (hb hby at_178) rfl ?_
            show Steps p.tables e below (T122.setTop (mkF m 180 #[.val (.int p0), .val (.long q1), .second, .val (.long q2), .second, .val (.long q3), .second, .val (.long q4), .second, .val (.int p5), .val (.ref b1), .val (.long ln), .second, .val (.long ((((p5 >>> ((2 : Int32) &&& 31)) % (3 : Int32)).toInt64) - (1 : Int64))), .second, .val (.long sA), .second, .val (.long sB), .second, .val (.long (q1 - q4)), .second, .val (.int (0 : Int32)), .val (.long (sA + ln)), .second, .val (.int (0 : Int32)), .val (.long q1), .second, .val (.int (1 : Int32)), .val (.long (sB + ln)), .second, .val (.int (1 : Int32)), .unset, .unset] [(.int (1 : Int32))])) _
            refine XS.ifNo X122.here hx rfl (hb hby at_180) rfl ((if0 _ _).trans (feq (by decide : ¬ ((1 : Int32) = (0 : Int32)))).1) ?_
            show Steps p.tables e below (T122.setTop (mkF m 183 #[.val (.int p0), .val (.long q1), .second, .val (.long q2), .second, .val (.long q3), .second, .val (.long q4), .second, .val (.int p5), .val (.ref b1), .val (.long ln), .second, .val (.long ((((p5 >>> ((2 : Int32) &&& 31)) % (3 : Int32)).toInt64) - (1 : Int64))), .second, .val (.long sA), .second, .val (.long sB), .second, .val (.long (q1 - q4)), .second, .val (.int (0 : Int32)), .val (.long (sA + ln)), .second, .val (.int (0 : Int32)), .val (.long q1), .second, .val (.int (1 : Int32)), .val (.long (sB + ln)), .second, .val (.int (1 : Int32)), .unset, .unset] [])) _
            refine XS.lload X122.here hx rfl (hb hby at_183) rfl ?_
            show Steps p.tables e below (T122.setTop (mkF m 185 #[.val (.int p0), .val (.long q1), .second, .val (.long q2), .second, .val (.long q3), .second, .val (.long q4), .second, .val (.int p5), .val (.ref b1), .val (.long ln), .second, .val (.long ((((p5 >>> ((2 : Int32) &&& 31)) % (3 : Int32)).toInt64) - (1 : Int64))), .second, .val (.long sA), .second, .val (.long sB), .second, .val (.long (q1 - q4)), .second, .val (.int (0 : Int32)), .val (.long (sA + ln)), .second, .val (.int (0 : Int32)), .val (.long q1), .second, .val (.int (1 : Int32)), .val (.long (sB + ln)), .second, .val (.int (1 : Int32)), .unset, .unset] [(.long (sB + ln))])) _
            refine XS.goto X122.here hx rfl (pc0 := 185) (pc' := 190) rfl (hb hby at_185) (by decide) (by decide) ?_
            show Steps p.tables e below (T122.setTop (mkF m 190 #[.val (.int p0), .val (.long q1), .second, .val (.long q2), .second, .val (.long q3), .second, .val (.long q4), .second, .val (.int p5), .val (.ref b1), .val (.long ln), .second, .val (.long ((((p5 >>> ((2 : Int32) &&& 31)) % (3 : Int32)).toInt64) - (1 : Int64))), .second, .val (.long sA), .second, .val (.long sB), .second, .val (.long (q1 - q4)), .second, .val (.int (0 : Int32)), .val (.long (sA + ln)), .second, .val (.int (0 : Int32)), .val (.long q1), .second, .val (.int (1 : Int32)), .val (.long (sB + ln)), .second, .val (.int (1 : Int32)), .unset, .unset] [(.long (sB + ln))])) _
            refine XS.lstore X122.here hx rfl (hb hby at_190) rfl (l' := #[.val (.int p0), .val (.long q1), .second, .val (.long q2), .second, .val (.long q3), .second, .val (.long q4), .second, .val (.int p5), .val (.ref b1), .val (.long ln), .second, .val (.long ((((p5 >>> ((2 : Int32) &&& 31)) % (3 : Int32)).toInt64) - (1 : Int64))), .second, .val (.long sA), .second, .val (.long sB), .second, .val (.long (q1 - q4)), .second, .val (.int (0 : Int32)), .val (.long (sA + ln)), .second, .val (.int (0 : Int32)), .val (.long q1), .second, .val (.int (1 : Int32)), .val (.long (sB + ln)), .second, .val (.int (1 : Int32)), .val (.long (sB + ln)), .second]) rfl ?_
            show Steps p.tables e below (T122.setTop (mkF m 192 #[.val (.int p0), .val (.long q1), .second, .val (.long q2), .second, .val (.long q3), .second, .val (.long q4), .second, .val (.int p5), .val (.ref b1), .val (.long ln), .second, .val (.long ((((p5 >>> ((2 : Int32) &&& 31)) % (3 : Int32)).toInt64) - (1 : Int64))), .second, .val (.long sA), .second, .val (.long sB), .second, .val (.long (q1 - q4)), .second, .val (.int (0 : Int32)), .val (.long (sA + ln)), .second, .val (.int (0 : Int32)), .val (.long q1), .second, .val (.int (1 : Int32)), .val (.long (sB + ln)), .second, .val (.int (1 : Int32)), .val (.long (sB + ln)), .second] [])) _
            refine XS.iload X122.here hx rfl (hb hby at_192) rfl ?_
            show Steps p.tables e below (T122.setTop (mkF m 194 #[.val (.int p0), .val (.long q1), .second, .val (.long q2), .second, .val (.long q3), .second, .val (.long q4), .second, .val (.int p5), .val (.ref b1), .val (.long ln), .second, .val (.long ((((p5 >>> ((2 : Int32) &&& 31)) % (3 : Int32)).toInt64) - (1 : Int64))), .second, .val (.long sA), .second, .val (.long sB), .second, .val (.long (q1 - q4)), .second, .val (.int (0 : Int32)), .val (.long (sA + ln)), .second, .val (.int (0 : Int32)), .val (.long q1), .second, .val (.int (1 : Int32)), .val (.long (sB + ln)), .second, .val (.int (1 : Int32)), .val (.long (sB + ln)), .second] [(.int (1 : Int32))])) _
            refine XS.iload X122.here hx rfl (hb hby at_194) rfl ?_
            show Steps p.tables e below (T122.setTop (mkF m 196 #[.val (.int p0), .val (.long q1), .second, .val (.long q2), .second, .val (.long q3), .second, .val (.long q4), .second, .val (.int p5), .val (.ref b1), .val (.long ln), .second, .val (.long ((((p5 >>> ((2 : Int32) &&& 31)) % (3 : Int32)).toInt64) - (1 : Int64))), .second, .val (.long sA), .second, .val (.long sB), .second, .val (.long (q1 - q4)), .second, .val (.int (0 : Int32)), .val (.long (sA + ln)), .second, .val (.int (0 : Int32)), .val (.long q1), .second, .val (.int (1 : Int32)), .val (.long (sB + ln)), .second, .val (.int (1 : Int32)), .val (.long (sB + ln)), .second] [(.int (1 : Int32)), (.int (1 : Int32))])) _
            refine XS.icmpYes X122.here hx rfl (pc0 := 196) (pc' := 201) rfl (hb hby at_196) rfl (teq (rfl : (1 : Int32) = (1 : Int32))).1 (by decide) (by decide) ?_
            show Steps p.tables e below (T122.setTop (mkF m 201 #[.val (.int p0), .val (.long q1), .second, .val (.long q2), .second, .val (.long q3), .second, .val (.long q4), .second, .val (.int p5), .val (.ref b1), .val (.long ln), .second, .val (.long ((((p5 >>> ((2 : Int32) &&& 31)) % (3 : Int32)).toInt64) - (1 : Int64))), .second, .val (.long sA), .second, .val (.long sB), .second, .val (.long (q1 - q4)), .second, .val (.int (0 : Int32)), .val (.long (sA + ln)), .second, .val (.int (0 : Int32)), .val (.long q1), .second, .val (.int (1 : Int32)), .val (.long (sB + ln)), .second, .val (.int (1 : Int32)), .val (.long (sB + ln)), .second] [])) _
            refine XS.aload X122.here hx rfl (hb hby at_201) rfl rfl ?_
            show Steps p.tables e below (T122.setTop (mkF m 203 #[.val (.int p0), .val (.long q1), .second, .val (.long q2), .second, .val (.long q3), .second, .val (.long q4), .second, .val (.int p5), .val (.ref b1), .val (.long ln), .second, .val (.long ((((p5 >>> ((2 : Int32) &&& 31)) % (3 : Int32)).toInt64) - (1 : Int64))), .second, .val (.long sA), .second, .val (.long sB), .second, .val (.long (q1 - q4)), .second, .val (.int (0 : Int32)), .val (.long (sA + ln)), .second, .val (.int (0 : Int32)), .val (.long q1), .second, .val (.int (1 : Int32)), .val (.long (sB + ln)), .second, .val (.int (1 : Int32)), .val (.long (sB + ln)), .second] [(.ref b1)])) _
            refine XS.lload X122.here hx rfl (hb hby at_203) rfl ?_
            show Steps p.tables e below (T122.setTop (mkF m 205 #[.val (.int p0), .val (.long q1), .second, .val (.long q2), .second, .val (.long q3), .second, .val (.long q4), .second, .val (.int p5), .val (.ref b1), .val (.long ln), .second, .val (.long ((((p5 >>> ((2 : Int32) &&& 31)) % (3 : Int32)).toInt64) - (1 : Int64))), .second, .val (.long sA), .second, .val (.long sB), .second, .val (.long (q1 - q4)), .second, .val (.int (0 : Int32)), .val (.long (sA + ln)), .second, .val (.int (0 : Int32)), .val (.long q1), .second, .val (.int (1 : Int32)), .val (.long (sB + ln)), .second, .val (.int (1 : Int32)), .val (.long (sB + ln)), .second] [(.long q4), (.ref b1)])) _
            refine st125.trans ?_
            show Steps p.tables e below (T125.setTop (mkF m 208 #[.val (.int p0), .val (.long q1), .second, .val (.long q2), .second, .val (.long q3), .second, .val (.long q4), .second, .val (.int p5), .val (.ref b1), .val (.long ln), .second, .val (.long ((((p5 >>> ((2 : Int32) &&& 31)) % (3 : Int32)).toInt64) - (1 : Int64))), .second, .val (.long sA), .second, .val (.long sB), .second, .val (.long (q1 - q4)), .second, .val (.int (0 : Int32)), .val (.long (sA + ln)), .second, .val (.int (0 : Int32)), .val (.long q1), .second, .val (.int (1 : Int32)), .val (.long (sB + ln)), .second, .val (.int (1 : Int32)), .val (.long (sB + ln)), .second] [(.long ((sB + ln) - q4))])) _
            refine XS.lload X125.here hx rfl (hb hby at_208) rfl ?_
            show Steps p.tables e below (T125.setTop (mkF m 210 #[.val (.int p0), .val (.long q1), .second, .val (.long q2), .second, .val (.long q3), .second, .val (.long q4), .second, .val (.int p5), .val (.ref b1), .val (.long ln), .second, .val (.long ((((p5 >>> ((2 : Int32) &&& 31)) % (3 : Int32)).toInt64) - (1 : Int64))), .second, .val (.long sA), .second, .val (.long sB), .second, .val (.long (q1 - q4)), .second, .val (.int (0 : Int32)), .val (.long (sA + ln)), .second, .val (.int (0 : Int32)), .val (.long q1), .second, .val (.int (1 : Int32)), .val (.long (sB + ln)), .second, .val (.int (1 : Int32)), .val (.long (sB + ln)), .second] [(.long (sB + ln)), (.long ((sB + ln) - q4))])) _
            refine XS.lload X125.here hx rfl (hb hby at_210) rfl ?_
            show Steps p.tables e below (T125.setTop (mkF m 212 #[.val (.int p0), .val (.long q1), .second, .val (.long q2), .second, .val (.long q3), .second, .val (.long q4), .second, .val (.int p5), .val (.ref b1), .val (.long ln), .second, .val (.long ((((p5 >>> ((2 : Int32) &&& 31)) % (3 : Int32)).toInt64) - (1 : Int64))), .second, .val (.long sA), .second, .val (.long sB), .second, .val (.long (q1 - q4)), .second, .val (.int (0 : Int32)), .val (.long (sA + ln)), .second, .val (.int (0 : Int32)), .val (.long q1), .second, .val (.int (1 : Int32)), .val (.long (sB + ln)), .second, .val (.int (1 : Int32)), .val (.long (sB + ln)), .second] [(.long q4), (.long (sB + ln)), (.long ((sB + ln) - q4))])) _
            refine XS.lsub X125.here hx rfl (hb hby at_212) rfl ?_
            show Steps p.tables e below (T125.setTop (mkF m 213 #[.val (.int p0), .val (.long q1), .second, .val (.long q2), .second, .val (.long q3), .second, .val (.long q4), .second, .val (.int p5), .val (.ref b1), .val (.long ln), .second, .val (.long ((((p5 >>> ((2 : Int32) &&& 31)) % (3 : Int32)).toInt64) - (1 : Int64))), .second, .val (.long sA), .second, .val (.long sB), .second, .val (.long (q1 - q4)), .second, .val (.int (0 : Int32)), .val (.long (sA + ln)), .second, .val (.int (0 : Int32)), .val (.long q1), .second, .val (.int (1 : Int32)), .val (.long (sB + ln)), .second, .val (.int (1 : Int32)), .val (.long (sB + ln)), .second] [(.long ((sB + ln) - q4)), (.long ((sB + ln) - q4))])) _
            refine XS.lcmp X125.here hx rfl (hb hby at_213) rfl ?_
            show Steps p.tables e below (T125.setTop (mkF m 214 #[.val (.int p0), .val (.long q1), .second, .val (.long q2), .second, .val (.long q3), .second, .val (.long q4), .second, .val (.int p5), .val (.ref b1), .val (.long ln), .second, .val (.long ((((p5 >>> ((2 : Int32) &&& 31)) % (3 : Int32)).toInt64) - (1 : Int64))), .second, .val (.long sA), .second, .val (.long sB), .second, .val (.long (q1 - q4)), .second, .val (.int (0 : Int32)), .val (.long (sA + ln)), .second, .val (.int (0 : Int32)), .val (.long q1), .second, .val (.int (1 : Int32)), .val (.long (sB + ln)), .second, .val (.int (1 : Int32)), .val (.long (sB + ln)), .second] [(.int (lcmpW ((sB + ln) - q4) ((sB + ln) - q4)))])) _
            refine XS.ifNo X125.here hx rfl (hb hby at_214) rfl ((if0 _ _).trans (teq ((lw_eq _ _).mpr rfl)).2) ?_
            show Steps p.tables e below (T125.setTop (mkF m 217 #[.val (.int p0), .val (.long q1), .second, .val (.long q2), .second, .val (.long q3), .second, .val (.long q4), .second, .val (.int p5), .val (.ref b1), .val (.long ln), .second, .val (.long ((((p5 >>> ((2 : Int32) &&& 31)) % (3 : Int32)).toInt64) - (1 : Int64))), .second, .val (.long sA), .second, .val (.long sB), .second, .val (.long (q1 - q4)), .second, .val (.int (0 : Int32)), .val (.long (sA + ln)), .second, .val (.int (0 : Int32)), .val (.long q1), .second, .val (.int (1 : Int32)), .val (.long (sB + ln)), .second, .val (.int (1 : Int32)), .val (.long (sB + ln)), .second] [])) _
            refine XS.iconst X125.here hx rfl (hb hby at_217) ?_
            show Steps p.tables e below (T125.setTop (mkF m 218 #[.val (.int p0), .val (.long q1), .second, .val (.long q2), .second, .val (.long q3), .second, .val (.long q4), .second, .val (.int p5), .val (.ref b1), .val (.long ln), .second, .val (.long ((((p5 >>> ((2 : Int32) &&& 31)) % (3 : Int32)).toInt64) - (1 : Int64))), .second, .val (.long sA), .second, .val (.long sB), .second, .val (.long (q1 - q4)), .second, .val (.int (0 : Int32)), .val (.long (sA + ln)), .second, .val (.int (0 : Int32)), .val (.long q1), .second, .val (.int (1 : Int32)), .val (.long (sB + ln)), .second, .val (.int (1 : Int32)), .val (.long (sB + ln)), .second] [(.int (1 : Int32))])) _
            refine XS.goto X125.here hx rfl (pc0 := 218) (pc' := 222) rfl (hb hby at_218) (by decide) (by decide) ?_
            exact kt)
        obtain ⟨fs, hr, hrun, hended, hW, hsame⟩ := X125.leave (v := some (.int (1 : Int32))) (fun h => by rw [Bd.returns] at h; cases h)
        refine ⟨_, _, pre126 _ ?_, hrun, hended, _, _, rfl, ?_, ⟨_, rfl⟩, hW, hsame.mono (by decide) (by decide)⟩
        · show Steps p.tables e below (T125.setTop (mkF m 222 #[.val (.int p0), .val (.long q1), .second, .val (.long q2), .second, .val (.long q3), .second, .val (.long q4), .second, .val (.int p5), .val (.ref b1), .val (.long ln), .second, .val (.long ((((p5 >>> ((2 : Int32) &&& 31)) % (3 : Int32)).toInt64) - (1 : Int64))), .second, .val (.long sA), .second, .val (.long sB), .second, .val (.long (q1 - q4)), .second, .val (.int (0 : Int32)), .val (.long (sA + ln)), .second, .val (.int (0 : Int32)), .val (.long q1), .second, .val (.int (1 : Int32)), .val (.long (sB + ln)), .second, .val (.int (1 : Int32)), .val (.long (sB + ln)), .second] [(.int (1 : Int32))])) _
          exact retN X125 hx (t := .boolean) Bd.returns (by simp) (hb hby at_222) hr
        · show Q0 Z _ _ _ _ _ _ _ _ h0 n0 _ T125.heap _
          rw [e125]
          exact ⟨rfl, N125, trivial⟩
      · skip
        obtain ⟨cq127, kq127, q127a, q127b, q127c⟩ := isOf hZ e103 c17_1
        obtain ⟨_, _, ⟨T127, L127, k127, n127⟩, -, X127, ⟨Lc127, hQ127, l127, y127, z127⟩, st127⟩ := X103.virtualBack hx (y := (⟨"com/example/cluster_log/clusterlog/Lease", "renew", "(J)Z"⟩ : MethodName)) (z := (⟨"com/example/cluster_log/clusterlog/Lease", "renew", "(J)Z"⟩ : MethodName)) hown (mvT hZ (hw _ (List.mem_of_getElem? (i := 42) rfl))) (mvT hZ (hw _ (List.mem_of_getElem? (i := 43) rfl))) (notFace_of_selects (args := #[]) (mvT hZ (hw _ (List.mem_of_getElem? (i := 45) rfl)))) (mvT hZ (hw _ (List.mem_of_getElem? (i := 45) rfl))) (mvT hZ (hw _ (List.mem_of_getElem? (i := 44) rfl))) (by decide) (backOf (W := 0) (rmN l Z aw hw [] b1 sB ln q1 T17.heap n0 (Nat.le_trans (Nat.le_trans Z0 E1.1) c17_0.1) hs105 c17_2 c17_3) hZ (hw _ (List.mem_of_getElem? (i := 46) rfl)) (hw _ (List.mem_of_getElem? (i := 2) rfl)) (by decide) (by decide)) q127a q127c (g := (mkF m 157 #[.val (.int p0), .val (.long q1), .second, .val (.long q2), .second, .val (.long q3), .second, .val (.long q4), .second, .val (.int p5), .val (.ref b1), .val (.long ln), .second, .val (.long ((((p5 >>> ((2 : Int32) &&& 31)) % (3 : Int32)).toInt64) - (1 : Int64))), .second, .val (.long sA), .second, .val (.long sB), .second, .val (.long (q1 - q4)), .second, .val (.int (0 : Int32)), .val (.long (sA + ln)), .second, .val (.int (0 : Int32)), .val (.long q1), .second, .unset, .unset, .unset, .unset, .unset, .unset] [(.long sB), (.ref b1)])) rfl (by rw [hml]; rfl) (Steps.refl _) (argsL := [(.long sB)]) (rest := []) (lenOf pd_4 rfl) rfl (by show 2 * 0 + _ ≤ _; exact Nat.le_of_eq rfl) (hb hby at_157) (fun _ _ => ⟨rfl, e103, (by decide : 1 + 0 ≤ _), (by decide : 3 + 0 ≤ _)⟩)
        dsimp only [Pt.U, Pt.locs, Pt.cells, Pt.slots] at X127 l127 y127 z127 st127 hQ127
        subst l127 y127 z127
        obtain ⟨rfl, Nq127, e127⟩ := hQ127
        have N127 := Fr.app N103 Nq127
        obtain ⟨_, _, ⟨T128, L128, k128, n128⟩, -, X128, ⟨Lc128, hQ128, l128, y128, z128⟩, st128⟩ := Jvm.LawKit.callS X127 hx (y := (⟨"com/example/cluster_log/clusterlog/LeaseRenewPinLaw", "later", "(JJ)Z"⟩ : MethodName)) hown (mvT hZ (hw _ (List.mem_of_getElem? (i := 47) rfl))) (mvT hZ (hw _ (List.mem_of_getElem? (i := 48) rfl))) (mvT hZ (hw _ (List.mem_of_getElem? (i := 49) rfl))) (mvT hZ (hw _ (List.mem_of_getElem? (i := 50) rfl))) (by decide) (backOf (W := 0) (rm8 l Z aw hw [] (sB + ln) q1 T17.heap n0 (Nat.le_trans (Nat.le_trans Z0 E1.1) c17_0.1) ) hZ (hw _ (List.mem_of_getElem? (i := 50) rfl)) (hw _ (List.mem_of_getElem? (i := 49) rfl)) (by decide) (by decide)) (g := (mkF m 173 #[.val (.int p0), .val (.long q1), .second, .val (.long q2), .second, .val (.long q3), .second, .val (.long q4), .second, .val (.int p5), .val (.ref b1), .val (.long ln), .second, .val (.long ((((p5 >>> ((2 : Int32) &&& 31)) % (3 : Int32)).toInt64) - (1 : Int64))), .second, .val (.long sA), .second, .val (.long sB), .second, .val (.long (q1 - q4)), .second, .val (.int (0 : Int32)), .val (.long (sA + ln)), .second, .val (.int (0 : Int32)), .val (.long q1), .second, .val (.int (0 : Int32)), .val (.long (sB + ln)), .second, .unset, .unset, .unset] [(.long q1), (.long (sB + ln))])) rfl (by rw [hml]; rfl) (argsL := [(.long (sB + ln)), (.long q1)]) (rest := []) (lenOf pd_5 rfl) rfl (by show 2 * 0 + _ ≤ _; exact Nat.le_of_eq rfl) (hb hby at_173) (fun _ _ => ⟨rfl, e127, (by decide : 1 + 0 ≤ _), (by decide : 3 + 0 ≤ _)⟩)
        dsimp only [Pt.U, Pt.locs, Pt.cells, Pt.slots] at X128 l128 y128 z128 st128 hQ128
        subst l128 y128 z128
        obtain ⟨⟨r129, rfl, Pr129⟩, Nq128, e128⟩ := hQ128
        have N128 := Fr.app N127 Nq128
        have pre130 : ∀ t, Steps p.tables e below (T128.setTop (mkF m 176 #[.val (.int p0), .val (.long q1), .second, .val (.long q2), .second, .val (.long q3), .second, .val (.long q4), .second, .val (.int p5), .val (.ref b1), .val (.long ln), .second, .val (.long ((((p5 >>> ((2 : Int32) &&& 31)) % (3 : Int32)).toInt64) - (1 : Int64))), .second, .val (.long sA), .second, .val (.long sB), .second, .val (.long (q1 - q4)), .second, .val (.int (0 : Int32)), .val (.long (sA + ln)), .second, .val (.int (0 : Int32)), .val (.long q1), .second, .val (.int (0 : Int32)), .val (.long (sB + ln)), .second, .unset, .unset, .unset] [(.int r129)])) t → Steps p.tables e below (s₁.setTop (entryFrame m #[(.int p0), (.long q1), (.long q2), (.long q3), (.long q4), (.int p5)] maxLocals)) t := fun t kt => pre104 t (by
            show Steps p.tables e below (T103.setTop (mkF m 157 #[.val (.int p0), .val (.long q1), .second, .val (.long q2), .second, .val (.long q3), .second, .val (.long q4), .second, .val (.int p5), .val (.ref b1), .val (.long ln), .second, .val (.long ((((p5 >>> ((2 : Int32) &&& 31)) % (3 : Int32)).toInt64) - (1 : Int64))), .second, .val (.long sA), .second, .val (.long sB), .second, .val (.long (q1 - q4)), .second, .val (.int (0 : Int32)), .val (.long (sA + ln)), .second, .val (.int (0 : Int32)), .val (.long q1), .second, .unset, .unset, .unset, .unset, .unset, .unset] [(.long sB), (.ref b1)])) _
            refine st127.trans ?_
            show Steps p.tables e below (T127.setTop (mkF m 160 #[.val (.int p0), .val (.long q1), .second, .val (.long q2), .second, .val (.long q3), .second, .val (.long q4), .second, .val (.int p5), .val (.ref b1), .val (.long ln), .second, .val (.long ((((p5 >>> ((2 : Int32) &&& 31)) % (3 : Int32)).toInt64) - (1 : Int64))), .second, .val (.long sA), .second, .val (.long sB), .second, .val (.long (q1 - q4)), .second, .val (.int (0 : Int32)), .val (.long (sA + ln)), .second, .val (.int (0 : Int32)), .val (.long q1), .second, .unset, .unset, .unset, .unset, .unset, .unset] [(.int (0 : Int32))])) _
            refine XS.istore X127.here hx rfl (hb hby at_160) rfl (l' := #[.val (.int p0), .val (.long q1), .second, .val (.long q2), .second, .val (.long q3), .second, .val (.long q4), .second, .val (.int p5), .val (.ref b1), .val (.long ln), .second, .val (.long ((((p5 >>> ((2 : Int32) &&& 31)) % (3 : Int32)).toInt64) - (1 : Int64))), .second, .val (.long sA), .second, .val (.long sB), .second, .val (.long (q1 - q4)), .second, .val (.int (0 : Int32)), .val (.long (sA + ln)), .second, .val (.int (0 : Int32)), .val (.long q1), .second, .val (.int (0 : Int32)), .unset, .unset, .unset, .unset, .unset]) rfl ?_
            show Steps p.tables e below (T127.setTop (mkF m 162 #[.val (.int p0), .val (.long q1), .second, .val (.long q2), .second, .val (.long q3), .second, .val (.long q4), .second, .val (.int p5), .val (.ref b1), .val (.long ln), .second, .val (.long ((((p5 >>> ((2 : Int32) &&& 31)) % (3 : Int32)).toInt64) - (1 : Int64))), .second, .val (.long sA), .second, .val (.long sB), .second, .val (.long (q1 - q4)), .second, .val (.int (0 : Int32)), .val (.long (sA + ln)), .second, .val (.int (0 : Int32)), .val (.long q1), .second, .val (.int (0 : Int32)), .unset, .unset, .unset, .unset, .unset] [])) _
            refine XS.lload X127.here hx rfl (hb hby at_162) rfl ?_
            show Steps p.tables e below (T127.setTop (mkF m 164 #[.val (.int p0), .val (.long q1), .second, .val (.long q2), .second, .val (.long q3), .second, .val (.long q4), .second, .val (.int p5), .val (.ref b1), .val (.long ln), .second, .val (.long ((((p5 >>> ((2 : Int32) &&& 31)) % (3 : Int32)).toInt64) - (1 : Int64))), .second, .val (.long sA), .second, .val (.long sB), .second, .val (.long (q1 - q4)), .second, .val (.int (0 : Int32)), .val (.long (sA + ln)), .second, .val (.int (0 : Int32)), .val (.long q1), .second, .val (.int (0 : Int32)), .unset, .unset, .unset, .unset, .unset] [(.long sB)])) _
            refine XS.lload X127.here hx rfl (hb hby at_164) rfl ?_
            show Steps p.tables e below (T127.setTop (mkF m 166 #[.val (.int p0), .val (.long q1), .second, .val (.long q2), .second, .val (.long q3), .second, .val (.long q4), .second, .val (.int p5), .val (.ref b1), .val (.long ln), .second, .val (.long ((((p5 >>> ((2 : Int32) &&& 31)) % (3 : Int32)).toInt64) - (1 : Int64))), .second, .val (.long sA), .second, .val (.long sB), .second, .val (.long (q1 - q4)), .second, .val (.int (0 : Int32)), .val (.long (sA + ln)), .second, .val (.int (0 : Int32)), .val (.long q1), .second, .val (.int (0 : Int32)), .unset, .unset, .unset, .unset, .unset] [(.long ln), (.long sB)])) _
            refine XS.ladd X127.here hx rfl (hb hby at_166) rfl ?_
            show Steps p.tables e below (T127.setTop (mkF m 167 #[.val (.int p0), .val (.long q1), .second, .val (.long q2), .second, .val (.long q3), .second, .val (.long q4), .second, .val (.int p5), .val (.ref b1), .val (.long ln), .second, .val (.long ((((p5 >>> ((2 : Int32) &&& 31)) % (3 : Int32)).toInt64) - (1 : Int64))), .second, .val (.long sA), .second, .val (.long sB), .second, .val (.long (q1 - q4)), .second, .val (.int (0 : Int32)), .val (.long (sA + ln)), .second, .val (.int (0 : Int32)), .val (.long q1), .second, .val (.int (0 : Int32)), .unset, .unset, .unset, .unset, .unset] [(.long (sB + ln))])) _
            refine XS.lstore X127.here hx rfl (hb hby at_167) rfl (l' := #[.val (.int p0), .val (.long q1), .second, .val (.long q2), .second, .val (.long q3), .second, .val (.long q4), .second, .val (.int p5), .val (.ref b1), .val (.long ln), .second, .val (.long ((((p5 >>> ((2 : Int32) &&& 31)) % (3 : Int32)).toInt64) - (1 : Int64))), .second, .val (.long sA), .second, .val (.long sB), .second, .val (.long (q1 - q4)), .second, .val (.int (0 : Int32)), .val (.long (sA + ln)), .second, .val (.int (0 : Int32)), .val (.long q1), .second, .val (.int (0 : Int32)), .val (.long (sB + ln)), .second, .unset, .unset, .unset]) rfl ?_
            show Steps p.tables e below (T127.setTop (mkF m 169 #[.val (.int p0), .val (.long q1), .second, .val (.long q2), .second, .val (.long q3), .second, .val (.long q4), .second, .val (.int p5), .val (.ref b1), .val (.long ln), .second, .val (.long ((((p5 >>> ((2 : Int32) &&& 31)) % (3 : Int32)).toInt64) - (1 : Int64))), .second, .val (.long sA), .second, .val (.long sB), .second, .val (.long (q1 - q4)), .second, .val (.int (0 : Int32)), .val (.long (sA + ln)), .second, .val (.int (0 : Int32)), .val (.long q1), .second, .val (.int (0 : Int32)), .val (.long (sB + ln)), .second, .unset, .unset, .unset] [])) _
            refine XS.lload X127.here hx rfl (hb hby at_169) rfl ?_
            show Steps p.tables e below (T127.setTop (mkF m 171 #[.val (.int p0), .val (.long q1), .second, .val (.long q2), .second, .val (.long q3), .second, .val (.long q4), .second, .val (.int p5), .val (.ref b1), .val (.long ln), .second, .val (.long ((((p5 >>> ((2 : Int32) &&& 31)) % (3 : Int32)).toInt64) - (1 : Int64))), .second, .val (.long sA), .second, .val (.long sB), .second, .val (.long (q1 - q4)), .second, .val (.int (0 : Int32)), .val (.long (sA + ln)), .second, .val (.int (0 : Int32)), .val (.long q1), .second, .val (.int (0 : Int32)), .val (.long (sB + ln)), .second, .unset, .unset, .unset] [(.long (sB + ln))])) _
            refine XS.lload X127.here hx rfl (hb hby at_171) rfl ?_
            show Steps p.tables e below (T127.setTop (mkF m 173 #[.val (.int p0), .val (.long q1), .second, .val (.long q2), .second, .val (.long q3), .second, .val (.long q4), .second, .val (.int p5), .val (.ref b1), .val (.long ln), .second, .val (.long ((((p5 >>> ((2 : Int32) &&& 31)) % (3 : Int32)).toInt64) - (1 : Int64))), .second, .val (.long sA), .second, .val (.long sB), .second, .val (.long (q1 - q4)), .second, .val (.int (0 : Int32)), .val (.long (sA + ln)), .second, .val (.int (0 : Int32)), .val (.long q1), .second, .val (.int (0 : Int32)), .val (.long (sB + ln)), .second, .unset, .unset, .unset] [(.long q1), (.long (sB + ln))])) _
            refine st128 _ ?_
            exact kt)
        obtain rfl : (0 : Int32) = r129 := Pr129.2 hs105
        obtain ⟨cq131, kq131, q131a, q131b, q131c⟩ := isOf hZ e128 c17_1
        obtain ⟨_, _, ⟨T131, L131, k131, n131⟩, -, X131, ⟨Lc131, hQ131, l131, y131, z131⟩, st131⟩ := X128.virtualBack hx (y := (⟨"com/example/cluster_log/clusterlog/Lease", "left", "(J)J"⟩ : MethodName)) (z := (⟨"com/example/cluster_log/clusterlog/Lease", "left", "(J)J"⟩ : MethodName)) hown (mvT hZ (hw _ (List.mem_of_getElem? (i := 37) rfl))) (mvT hZ (hw _ (List.mem_of_getElem? (i := 38) rfl))) (notFace_of_selects (args := #[]) (mvT hZ (hw _ (List.mem_of_getElem? (i := 40) rfl)))) (mvT hZ (hw _ (List.mem_of_getElem? (i := 40) rfl))) (mvT hZ (hw _ (List.mem_of_getElem? (i := 39) rfl))) (by decide) (backOf (W := 0) (rm6 l Z aw hw [] b1 q4 q1 T17.heap n0 (Nat.le_trans (Nat.le_trans Z0 E1.1) c17_0.1) c17_3) hZ (hw _ (List.mem_of_getElem? (i := 41) rfl)) (hw _ (List.mem_of_getElem? (i := 2) rfl)) (by decide) (by decide)) q131a q131c (g := (mkF m 205 #[.val (.int p0), .val (.long q1), .second, .val (.long q2), .second, .val (.long q3), .second, .val (.long q4), .second, .val (.int p5), .val (.ref b1), .val (.long ln), .second, .val (.long ((((p5 >>> ((2 : Int32) &&& 31)) % (3 : Int32)).toInt64) - (1 : Int64))), .second, .val (.long sA), .second, .val (.long sB), .second, .val (.long (q1 - q4)), .second, .val (.int (0 : Int32)), .val (.long (sA + ln)), .second, .val (.int (0 : Int32)), .val (.long q1), .second, .val (.int (0 : Int32)), .val (.long (sB + ln)), .second, .val (.int (0 : Int32)), .val (.long q1), .second] [(.long q4), (.ref b1)])) rfl (by rw [hml]; rfl) (Steps.refl _) (argsL := [(.long q4)]) (rest := []) (lenOf pd_0 rfl) rfl (by show 2 * 0 + _ ≤ _; exact Nat.le_of_eq rfl) (hb hby at_205) (fun _ _ => ⟨rfl, e128, (by decide : 1 + 0 ≤ _), (by decide : 3 + 0 ≤ _)⟩)
        dsimp only [Pt.U, Pt.locs, Pt.cells, Pt.slots] at X131 l131 y131 z131 st131 hQ131
        subst l131 y131 z131
        obtain ⟨rfl, Nq131, e131⟩ := hQ131
        have N131 := Fr.app N128 Nq131
        have pre132 : ∀ t, Steps p.tables e below (T131.setTop (mkF m 222 #[.val (.int p0), .val (.long q1), .second, .val (.long q2), .second, .val (.long q3), .second, .val (.long q4), .second, .val (.int p5), .val (.ref b1), .val (.long ln), .second, .val (.long ((((p5 >>> ((2 : Int32) &&& 31)) % (3 : Int32)).toInt64) - (1 : Int64))), .second, .val (.long sA), .second, .val (.long sB), .second, .val (.long (q1 - q4)), .second, .val (.int (0 : Int32)), .val (.long (sA + ln)), .second, .val (.int (0 : Int32)), .val (.long q1), .second, .val (.int (0 : Int32)), .val (.long (sB + ln)), .second, .val (.int (0 : Int32)), .val (.long q1), .second] [(.int (1 : Int32))])) t → Steps p.tables e below (s₁.setTop (entryFrame m #[(.int p0), (.long q1), (.long q2), (.long q3), (.long q4), (.int p5)] maxLocals)) t := fun t kt => pre130 t (by
            show Steps p.tables e below (T128.setTop (mkF m 176 #[.val (.int p0), .val (.long q1), .second, .val (.long q2), .second, .val (.long q3), .second, .val (.long q4), .second, .val (.int p5), .val (.ref b1), .val (.long ln), .second, .val (.long ((((p5 >>> ((2 : Int32) &&& 31)) % (3 : Int32)).toInt64) - (1 : Int64))), .second, .val (.long sA), .second, .val (.long sB), .second, .val (.long (q1 - q4)), .second, .val (.int (0 : Int32)), .val (.long (sA + ln)), .second, .val (.int (0 : Int32)), .val (.long q1), .second, .val (.int (0 : Int32)), .val (.long (sB + ln)), .second, .unset, .unset, .unset] [(.int (0 : Int32))])) _
            refine XS.istore X128.here hx rfl (hb hby at_176) rfl (l' := #[.val (.int p0), .val (.long q1), .second, .val (.long q2), .second, .val (.long q3), .second, .val (.long q4), .second, .val (.int p5), .val (.ref b1), .val (.long ln), .second, .val (.long ((((p5 >>> ((2 : Int32) &&& 31)) % (3 : Int32)).toInt64) - (1 : Int64))), .second, .val (.long sA), .second, .val (.long sB), .second, .val (.long (q1 - q4)), .second, .val (.int (0 : Int32)), .val (.long (sA + ln)), .second, .val (.int (0 : Int32)), .val (.long q1), .second, .val (.int (0 : Int32)), .val (.long (sB + ln)), .second, .val (.int (0 : Int32)), .unset, .unset]) rfl ?_
            show Steps p.tables e below (T128.setTop (mkF m 178 #[.val (.int p0), .val (.long q1), .second, .val (.long q2), .second, .val (.long q3), .second, .val (.long q4), .second, .val (.int p5), .val (.ref b1), .val (.long ln), .second, .val (.long ((((p5 >>> ((2 : Int32) &&& 31)) % (3 : Int32)).toInt64) - (1 : Int64))), .second, .val (.long sA), .second, .val (.long sB), .second, .val (.long (q1 - q4)), .second, .val (.int (0 : Int32)), .val (.long (sA + ln)), .second, .val (.int (0 : Int32)), .val (.long q1), .second, .val (.int (0 : Int32)), .val (.long (sB + ln)), .second, .val (.int (0 : Int32)), .unset, .unset] [])) _
            refine XS.iload X128.here hx rfl (hb hby at_178) rfl ?_
            show Steps p.tables e below (T128.setTop (mkF m 180 #[.val (.int p0), .val (.long q1), .second, .val (.long q2), .second, .val (.long q3), .second, .val (.long q4), .second, .val (.int p5), .val (.ref b1), .val (.long ln), .second, .val (.long ((((p5 >>> ((2 : Int32) &&& 31)) % (3 : Int32)).toInt64) - (1 : Int64))), .second, .val (.long sA), .second, .val (.long sB), .second, .val (.long (q1 - q4)), .second, .val (.int (0 : Int32)), .val (.long (sA + ln)), .second, .val (.int (0 : Int32)), .val (.long q1), .second, .val (.int (0 : Int32)), .val (.long (sB + ln)), .second, .val (.int (0 : Int32)), .unset, .unset] [(.int (0 : Int32))])) _
            refine XS.ifYes X128.here hx rfl (pc0 := 180) (pc' := 188) rfl (hb hby at_180) rfl ((if0 _ _).trans (teq (rfl : (0 : Int32) = (0 : Int32))).1) (by decide) (by decide) ?_
            show Steps p.tables e below (T128.setTop (mkF m 188 #[.val (.int p0), .val (.long q1), .second, .val (.long q2), .second, .val (.long q3), .second, .val (.long q4), .second, .val (.int p5), .val (.ref b1), .val (.long ln), .second, .val (.long ((((p5 >>> ((2 : Int32) &&& 31)) % (3 : Int32)).toInt64) - (1 : Int64))), .second, .val (.long sA), .second, .val (.long sB), .second, .val (.long (q1 - q4)), .second, .val (.int (0 : Int32)), .val (.long (sA + ln)), .second, .val (.int (0 : Int32)), .val (.long q1), .second, .val (.int (0 : Int32)), .val (.long (sB + ln)), .second, .val (.int (0 : Int32)), .unset, .unset] [])) _
            refine XS.lload X128.here hx rfl (hb hby at_188) rfl ?_
            show Steps p.tables e below (T128.setTop (mkF m 190 #[.val (.int p0), .val (.long q1), .second, .val (.long q2), .second, .val (.long q3), .second, .val (.long q4), .second, .val (.int p5), .val (.ref b1), .val (.long ln), .second, .val (.long ((((p5 >>> ((2 : Int32) &&& 31)) % (3 : Int32)).toInt64) - (1 : Int64))), .second, .val (.long sA), .second, .val (.long sB), .second, .val (.long (q1 - q4)), .second, .val (.int (0 : Int32)), .val (.long (sA + ln)), .second, .val (.int (0 : Int32)), .val (.long q1), .second, .val (.int (0 : Int32)), .val (.long (sB + ln)), .second, .val (.int (0 : Int32)), .unset, .unset] [(.long q1)])) _
            refine XS.lstore X128.here hx rfl (hb hby at_190) rfl (l' := #[.val (.int p0), .val (.long q1), .second, .val (.long q2), .second, .val (.long q3), .second, .val (.long q4), .second, .val (.int p5), .val (.ref b1), .val (.long ln), .second, .val (.long ((((p5 >>> ((2 : Int32) &&& 31)) % (3 : Int32)).toInt64) - (1 : Int64))), .second, .val (.long sA), .second, .val (.long sB), .second, .val (.long (q1 - q4)), .second, .val (.int (0 : Int32)), .val (.long (sA + ln)), .second, .val (.int (0 : Int32)), .val (.long q1), .second, .val (.int (0 : Int32)), .val (.long (sB + ln)), .second, .val (.int (0 : Int32)), .val (.long q1), .second]) rfl ?_
            show Steps p.tables e below (T128.setTop (mkF m 192 #[.val (.int p0), .val (.long q1), .second, .val (.long q2), .second, .val (.long q3), .second, .val (.long q4), .second, .val (.int p5), .val (.ref b1), .val (.long ln), .second, .val (.long ((((p5 >>> ((2 : Int32) &&& 31)) % (3 : Int32)).toInt64) - (1 : Int64))), .second, .val (.long sA), .second, .val (.long sB), .second, .val (.long (q1 - q4)), .second, .val (.int (0 : Int32)), .val (.long (sA + ln)), .second, .val (.int (0 : Int32)), .val (.long q1), .second, .val (.int (0 : Int32)), .val (.long (sB + ln)), .second, .val (.int (0 : Int32)), .val (.long q1), .second] [])) _
            refine XS.iload X128.here hx rfl (hb hby at_192) rfl ?_
            show Steps p.tables e below (T128.setTop (mkF m 194 #[.val (.int p0), .val (.long q1), .second, .val (.long q2), .second, .val (.long q3), .second, .val (.long q4), .second, .val (.int p5), .val (.ref b1), .val (.long ln), .second, .val (.long ((((p5 >>> ((2 : Int32) &&& 31)) % (3 : Int32)).toInt64) - (1 : Int64))), .second, .val (.long sA), .second, .val (.long sB), .second, .val (.long (q1 - q4)), .second, .val (.int (0 : Int32)), .val (.long (sA + ln)), .second, .val (.int (0 : Int32)), .val (.long q1), .second, .val (.int (0 : Int32)), .val (.long (sB + ln)), .second, .val (.int (0 : Int32)), .val (.long q1), .second] [(.int (0 : Int32))])) _
            refine XS.iload X128.here hx rfl (hb hby at_194) rfl ?_
            show Steps p.tables e below (T128.setTop (mkF m 196 #[.val (.int p0), .val (.long q1), .second, .val (.long q2), .second, .val (.long q3), .second, .val (.long q4), .second, .val (.int p5), .val (.ref b1), .val (.long ln), .second, .val (.long ((((p5 >>> ((2 : Int32) &&& 31)) % (3 : Int32)).toInt64) - (1 : Int64))), .second, .val (.long sA), .second, .val (.long sB), .second, .val (.long (q1 - q4)), .second, .val (.int (0 : Int32)), .val (.long (sA + ln)), .second, .val (.int (0 : Int32)), .val (.long q1), .second, .val (.int (0 : Int32)), .val (.long (sB + ln)), .second, .val (.int (0 : Int32)), .val (.long q1), .second] [(.int (0 : Int32)), (.int (0 : Int32))])) _
            refine XS.icmpYes X128.here hx rfl (pc0 := 196) (pc' := 201) rfl (hb hby at_196) rfl (teq (rfl : (0 : Int32) = (0 : Int32))).1 (by decide) (by decide) ?_
            show Steps p.tables e below (T128.setTop (mkF m 201 #[.val (.int p0), .val (.long q1), .second, .val (.long q2), .second, .val (.long q3), .second, .val (.long q4), .second, .val (.int p5), .val (.ref b1), .val (.long ln), .second, .val (.long ((((p5 >>> ((2 : Int32) &&& 31)) % (3 : Int32)).toInt64) - (1 : Int64))), .second, .val (.long sA), .second, .val (.long sB), .second, .val (.long (q1 - q4)), .second, .val (.int (0 : Int32)), .val (.long (sA + ln)), .second, .val (.int (0 : Int32)), .val (.long q1), .second, .val (.int (0 : Int32)), .val (.long (sB + ln)), .second, .val (.int (0 : Int32)), .val (.long q1), .second] [])) _
            refine XS.aload X128.here hx rfl (hb hby at_201) rfl rfl ?_
            show Steps p.tables e below (T128.setTop (mkF m 203 #[.val (.int p0), .val (.long q1), .second, .val (.long q2), .second, .val (.long q3), .second, .val (.long q4), .second, .val (.int p5), .val (.ref b1), .val (.long ln), .second, .val (.long ((((p5 >>> ((2 : Int32) &&& 31)) % (3 : Int32)).toInt64) - (1 : Int64))), .second, .val (.long sA), .second, .val (.long sB), .second, .val (.long (q1 - q4)), .second, .val (.int (0 : Int32)), .val (.long (sA + ln)), .second, .val (.int (0 : Int32)), .val (.long q1), .second, .val (.int (0 : Int32)), .val (.long (sB + ln)), .second, .val (.int (0 : Int32)), .val (.long q1), .second] [(.ref b1)])) _
            refine XS.lload X128.here hx rfl (hb hby at_203) rfl ?_
            show Steps p.tables e below (T128.setTop (mkF m 205 #[.val (.int p0), .val (.long q1), .second, .val (.long q2), .second, .val (.long q3), .second, .val (.long q4), .second, .val (.int p5), .val (.ref b1), .val (.long ln), .second, .val (.long ((((p5 >>> ((2 : Int32) &&& 31)) % (3 : Int32)).toInt64) - (1 : Int64))), .second, .val (.long sA), .second, .val (.long sB), .second, .val (.long (q1 - q4)), .second, .val (.int (0 : Int32)), .val (.long (sA + ln)), .second, .val (.int (0 : Int32)), .val (.long q1), .second, .val (.int (0 : Int32)), .val (.long (sB + ln)), .second, .val (.int (0 : Int32)), .val (.long q1), .second] [(.long q4), (.ref b1)])) _
            refine st131.trans ?_
            show Steps p.tables e below (T131.setTop (mkF m 208 #[.val (.int p0), .val (.long q1), .second, .val (.long q2), .second, .val (.long q3), .second, .val (.long q4), .second, .val (.int p5), .val (.ref b1), .val (.long ln), .second, .val (.long ((((p5 >>> ((2 : Int32) &&& 31)) % (3 : Int32)).toInt64) - (1 : Int64))), .second, .val (.long sA), .second, .val (.long sB), .second, .val (.long (q1 - q4)), .second, .val (.int (0 : Int32)), .val (.long (sA + ln)), .second, .val (.int (0 : Int32)), .val (.long q1), .second, .val (.int (0 : Int32)), .val (.long (sB + ln)), .second, .val (.int (0 : Int32)), .val (.long q1), .second] [(.long (q1 - q4))])) _
            refine XS.lload X131.here hx rfl (hb hby at_208) rfl ?_
            show Steps p.tables e below (T131.setTop (mkF m 210 #[.val (.int p0), .val (.long q1), .second, .val (.long q2), .second, .val (.long q3), .second, .val (.long q4), .second, .val (.int p5), .val (.ref b1), .val (.long ln), .second, .val (.long ((((p5 >>> ((2 : Int32) &&& 31)) % (3 : Int32)).toInt64) - (1 : Int64))), .second, .val (.long sA), .second, .val (.long sB), .second, .val (.long (q1 - q4)), .second, .val (.int (0 : Int32)), .val (.long (sA + ln)), .second, .val (.int (0 : Int32)), .val (.long q1), .second, .val (.int (0 : Int32)), .val (.long (sB + ln)), .second, .val (.int (0 : Int32)), .val (.long q1), .second] [(.long q1), (.long (q1 - q4))])) _
            refine XS.lload X131.here hx rfl (hb hby at_210) rfl ?_
            show Steps p.tables e below (T131.setTop (mkF m 212 #[.val (.int p0), .val (.long q1), .second, .val (.long q2), .second, .val (.long q3), .second, .val (.long q4), .second, .val (.int p5), .val (.ref b1), .val (.long ln), .second, .val (.long ((((p5 >>> ((2 : Int32) &&& 31)) % (3 : Int32)).toInt64) - (1 : Int64))), .second, .val (.long sA), .second, .val (.long sB), .second, .val (.long (q1 - q4)), .second, .val (.int (0 : Int32)), .val (.long (sA + ln)), .second, .val (.int (0 : Int32)), .val (.long q1), .second, .val (.int (0 : Int32)), .val (.long (sB + ln)), .second, .val (.int (0 : Int32)), .val (.long q1), .second] [(.long q4), (.long q1), (.long (q1 - q4))])) _
            refine XS.lsub X131.here hx rfl (hb hby at_212) rfl ?_
            show Steps p.tables e below (T131.setTop (mkF m 213 #[.val (.int p0), .val (.long q1), .second, .val (.long q2), .second, .val (.long q3), .second, .val (.long q4), .second, .val (.int p5), .val (.ref b1), .val (.long ln), .second, .val (.long ((((p5 >>> ((2 : Int32) &&& 31)) % (3 : Int32)).toInt64) - (1 : Int64))), .second, .val (.long sA), .second, .val (.long sB), .second, .val (.long (q1 - q4)), .second, .val (.int (0 : Int32)), .val (.long (sA + ln)), .second, .val (.int (0 : Int32)), .val (.long q1), .second, .val (.int (0 : Int32)), .val (.long (sB + ln)), .second, .val (.int (0 : Int32)), .val (.long q1), .second] [(.long (q1 - q4)), (.long (q1 - q4))])) _
            refine XS.lcmp X131.here hx rfl (hb hby at_213) rfl ?_
            show Steps p.tables e below (T131.setTop (mkF m 214 #[.val (.int p0), .val (.long q1), .second, .val (.long q2), .second, .val (.long q3), .second, .val (.long q4), .second, .val (.int p5), .val (.ref b1), .val (.long ln), .second, .val (.long ((((p5 >>> ((2 : Int32) &&& 31)) % (3 : Int32)).toInt64) - (1 : Int64))), .second, .val (.long sA), .second, .val (.long sB), .second, .val (.long (q1 - q4)), .second, .val (.int (0 : Int32)), .val (.long (sA + ln)), .second, .val (.int (0 : Int32)), .val (.long q1), .second, .val (.int (0 : Int32)), .val (.long (sB + ln)), .second, .val (.int (0 : Int32)), .val (.long q1), .second] [(.int (lcmpW (q1 - q4) (q1 - q4)))])) _
            refine XS.ifNo X131.here hx rfl (hb hby at_214) rfl ((if0 _ _).trans (teq ((lw_eq _ _).mpr rfl)).2) ?_
            show Steps p.tables e below (T131.setTop (mkF m 217 #[.val (.int p0), .val (.long q1), .second, .val (.long q2), .second, .val (.long q3), .second, .val (.long q4), .second, .val (.int p5), .val (.ref b1), .val (.long ln), .second, .val (.long ((((p5 >>> ((2 : Int32) &&& 31)) % (3 : Int32)).toInt64) - (1 : Int64))), .second, .val (.long sA), .second, .val (.long sB), .second, .val (.long (q1 - q4)), .second, .val (.int (0 : Int32)), .val (.long (sA + ln)), .second, .val (.int (0 : Int32)), .val (.long q1), .second, .val (.int (0 : Int32)), .val (.long (sB + ln)), .second, .val (.int (0 : Int32)), .val (.long q1), .second] [])) _
            refine XS.iconst X131.here hx rfl (hb hby at_217) ?_
            show Steps p.tables e below (T131.setTop (mkF m 218 #[.val (.int p0), .val (.long q1), .second, .val (.long q2), .second, .val (.long q3), .second, .val (.long q4), .second, .val (.int p5), .val (.ref b1), .val (.long ln), .second, .val (.long ((((p5 >>> ((2 : Int32) &&& 31)) % (3 : Int32)).toInt64) - (1 : Int64))), .second, .val (.long sA), .second, .val (.long sB), .second, .val (.long (q1 - q4)), .second, .val (.int (0 : Int32)), .val (.long (sA + ln)), .second, .val (.int (0 : Int32)), .val (.long q1), .second, .val (.int (0 : Int32)), .val (.long (sB + ln)), .second, .val (.int (0 : Int32)), .val (.long q1), .second] [(.int (1 : Int32))])) _
            refine XS.goto X131.here hx rfl (pc0 := 218) (pc' := 222) rfl (hb hby at_218) (by decide) (by decide) ?_
            exact kt)
        obtain ⟨fs, hr, hrun, hended, hW, hsame⟩ := X131.leave (v := some (.int (1 : Int32))) (fun h => by rw [Bd.returns] at h; cases h)
        refine ⟨_, _, pre132 _ ?_, hrun, hended, _, _, rfl, ?_, ⟨_, rfl⟩, hW, hsame.mono (by decide) (by decide)⟩
        · show Steps p.tables e below (T131.setTop (mkF m 222 #[.val (.int p0), .val (.long q1), .second, .val (.long q2), .second, .val (.long q3), .second, .val (.long q4), .second, .val (.int p5), .val (.ref b1), .val (.long ln), .second, .val (.long ((((p5 >>> ((2 : Int32) &&& 31)) % (3 : Int32)).toInt64) - (1 : Int64))), .second, .val (.long sA), .second, .val (.long sB), .second, .val (.long (q1 - q4)), .second, .val (.int (0 : Int32)), .val (.long (sA + ln)), .second, .val (.int (0 : Int32)), .val (.long q1), .second, .val (.int (0 : Int32)), .val (.long (sB + ln)), .second, .val (.int (0 : Int32)), .val (.long q1), .second] [(.int (1 : Int32))])) _
          exact retN X131 hx (t := .boolean) Bd.returns (by simp) (hb hby at_222) hr
        · show Q0 Z _ _ _ _ _ _ _ _ h0 n0 _ T131.heap _
          rw [e131]
          exact ⟨rfl, N131, trivial⟩
set_option maxRecDepth 65536 in
set_option maxHeartbeats 40000000 in
theorem comes_1 {Post : Tables → Env → Array Value → State → Outcome → State → Prop} (hpost : ∀ tb e args s v u, (limb_1_1.after args s (.returned v) u = true ∧ limb_1_2.after args s (.returned v) u = true ∧ True) → FrameEnd s (.returned v) u (Jvm.fieldLocs frame_1_writes args s ++ Jvm.arrayLocs frame_1_arrays args s ++ Jvm.staticLocs frame_1_statics s) 16 128 → Post tb e args s (.returned v) u) :
    ArmFor flags0 classFile x code maxLocals ret World_1 tables_1 room_1 Calls_1 rest_1 Pre_1 Post := by
  intro l hfl _ _ p e ha hc hk s m args below hf hA hF happ hP
  obtain ⟨hcalls, hrest, hpre⟩ := hP
  obtain ⟨-, -, -, hnamed, -, -, -, hat⟩ := (Spec.applies_iff hf).mp happ
  obtain ⟨hg, hn⟩ := and_e (Cond.before_iff.mp (show (Jvm.Cond.and given_1 narrow_1).before args s = true from hpre))
  obtain ⟨hg0, hgr0⟩ := and_e hg
  obtain ⟨hg1, hgr1⟩ := and_e hgr0
  obtain ⟨hg2, hgr2⟩ := and_e hgr1
  obtain ⟨hg3, hgr3⟩ := and_e hgr2
  obtain ⟨hg4, hgr4⟩ := and_e hgr3
  obtain ⟨hg5, hgr5⟩ := and_e hgr4
  obtain ⟨w0, w1, w2, w3, w4, w5, rfl⟩ : ∃ w0 w1 w2 w3 w4 w5 : Value, args = #[w0, w1, w2, w3, w4, w5] := by
    have hs : args.size = 6 := by simpa [Cond.value, given_1] using hg0
    obtain ⟨L⟩ := args
    match L, hs with
    | [w0, w1, w2, w3, w4, w5], _ => exact ⟨w0, w1, w2, w3, w4, w5, rfl⟩
  have hw := fun d (hd : d ∈ tables_1) => atoms_spec (ws := Jvm.Cond.code x code maxLocals ret :: tables_1) hat d (List.mem_cons_of_mem _ hd)
  have hfit : Fit s := fun {y c} hc i hi => by
    obtain ⟨ha, rfl⟩ := Array.getElem?_eq_some_iff.mp hc
    have q := List.all_eq_true.mp ((Array.all_eq_true_iff_forall_mem.mp hF) _ (Array.getElem_mem ha)) i (List.mem_range.mpr hi)
    simpa [Array.getElem?_eq_getElem hi] using q
  obtain ⟨hsets, hown0⟩ := atoms_of _ (rest_1_c_eq ▸ (show rest_1_c.before _ s = true from hrest))
  obtain ⟨i0, ei0⟩ := is_v hg1
  obtain rfl : w0 = (.int i0) := Option.some.inj ei0
  obtain ⟨i1, ei1⟩ := isL_v hg2
  obtain rfl : w1 = (.long i1) := Option.some.inj ei1
  obtain ⟨i2, ei2⟩ := isL_v hg3
  obtain rfl : w2 = (.long i2) := Option.some.inj ei2
  obtain ⟨i3, ei3⟩ := isL_v hg4
  obtain rfl : w3 = (.long i3) := Option.some.inj ei3
  obtain ⟨i4, ei4⟩ := isL_v hg5
  obtain rfl : w4 = (.long i4) := Option.some.inj ei4
  obtain ⟨i5, ei5⟩ := is_v hgr5
  obtain rfl : w5 = (.int i5) := Option.some.inj ei5
  obtain ⟨w_MILLISECONDS_1, ev2⟩ := exa_v (Cond.before_iff.mp (hsets _ (List.mem_of_getElem? (i := 2) rfl)))
  have S_MILLISECONDS_0 : Sta s s.heap "java/util/concurrent/TimeUnit" "MILLISECONDS" "Ljava/util/concurrent/TimeUnit;" (.ref w_MILLISECONDS_1) := Sta.start ev2 (Or.inl (hsets _ (List.mem_of_getElem? (i := 1) rfl)))
  have E_1 : Exa s s.heap w_MILLISECONDS_1 "java/util/concurrent/TimeUnit" := Exa.start ev2 (Cond.before_iff.mp (hsets _ (List.mem_of_getElem? (i := 2) rfl)))
  obtain ⟨w_name_3, ev4⟩ := exa_v (Cond.before_iff.mp (hsets _ (List.mem_of_getElem? (i := 3) rfl)))
  have F_name_2 : Fld s s.heap w_MILLISECONDS_1 "java/lang/Enum" "name" "Ljava/lang/String;" (.ref w_name_3) := Fld.start ((fld_at ev2).symm.trans ev4)
  have E_3 : Exa s s.heap w_name_3 "java/lang/String" := Exa.start ev4 (Cond.before_iff.mp (hsets _ (List.mem_of_getElem? (i := 3) rfl)))
  have F_ordinal_4 : Fld s s.heap w_MILLISECONDS_1 "java/lang/Enum" "ordinal" "I" (.int (2 : Int32)) := Fld.start ((fld_at ev2).symm.trans (own_eqI (Cond.before_iff.mp (hsets _ (List.mem_of_getElem? (i := 4) rfl)))))
  have F_scale_5 : Fld s s.heap w_MILLISECONDS_1 "java/util/concurrent/TimeUnit" "scale" "J" (.long (1000000 : Int64)) := Fld.start ((fld_at ev2).symm.trans (own_eqJ (Cond.before_iff.mp (hsets _ (List.mem_of_getElem? (i := 5) rfl)))))
  have F_maxNanos_6 : Fld s s.heap w_MILLISECONDS_1 "java/util/concurrent/TimeUnit" "maxNanos" "J" (.long (9223372036854 : Int64)) := Fld.start ((fld_at ev2).symm.trans (own_eqJ (Cond.before_iff.mp (hsets _ (List.mem_of_getElem? (i := 6) rfl)))))
  have F_microRatio_7 : Fld s s.heap w_MILLISECONDS_1 "java/util/concurrent/TimeUnit" "microRatio" "J" (.long (1000 : Int64)) := Fld.start ((fld_at ev2).symm.trans (own_eqJ (Cond.before_iff.mp (hsets _ (List.mem_of_getElem? (i := 7) rfl)))))
  have F_maxMicros_8 : Fld s s.heap w_MILLISECONDS_1 "java/util/concurrent/TimeUnit" "maxMicros" "J" (.long (9223372036854775 : Int64)) := Fld.start ((fld_at ev2).symm.trans (own_eqJ (Cond.before_iff.mp (hsets _ (List.mem_of_getElem? (i := 8) rfl)))))
  have F_milliRatio_9 : Fld s s.heap w_MILLISECONDS_1 "java/util/concurrent/TimeUnit" "milliRatio" "I" (.int (1 : Int32)) := Fld.start ((fld_at ev2).symm.trans (own_eqI (Cond.before_iff.mp (hsets _ (List.mem_of_getElem? (i := 9) rfl)))))
  have F_maxMillis_10 : Fld s s.heap w_MILLISECONDS_1 "java/util/concurrent/TimeUnit" "maxMillis" "J" (.long (9223372036854775807 : Int64)) := Fld.start ((fld_at ev2).symm.trans (own_eqJ (Cond.before_iff.mp (hsets _ (List.mem_of_getElem? (i := 10) rfl)))))
  have F_secRatio_11 : Fld s s.heap w_MILLISECONDS_1 "java/util/concurrent/TimeUnit" "secRatio" "I" (.int (1000 : Int32)) := Fld.start ((fld_at ev2).symm.trans (own_eqI (Cond.before_iff.mp (hsets _ (List.mem_of_getElem? (i := 11) rfl)))))
  have F_maxSecs_12 : Fld s s.heap w_MILLISECONDS_1 "java/util/concurrent/TimeUnit" "maxSecs" "J" (.long (9223372036854775 : Int64)) := Fld.start ((fld_at ev2).symm.trans (own_eqJ (Cond.before_iff.mp (hsets _ (List.mem_of_getElem? (i := 12) rfl)))))
  obtain ⟨n, o, h1, h2, h3, _, L, rfl, ⟨rfl, N, -⟩, hq⟩ := rm0 l s _ hw tables_1 i0 i1 i2 i3 i4 i5 w_MILLISECONDS_1 w_name_3 s.heap s.heap.size (Nat.le_refl _) S_MILLISECONDS_0 E_1 F_name_2 E_3 F_ordinal_4 F_scale_5 F_maxNanos_6 F_microRatio_7 F_maxMicros_8 F_milliRatio_9 F_maxMillis_10 F_secRatio_11 F_maxSecs_12 p e ha hc hk s m _ below hf ((Spec.applies_iff_loose hf).mp happ).1 ⟨rfl, State.Warmed39.refl s, rfl⟩ trivial
  refine ⟨n, _, h1, h2, h3, hpost _ _ _ _ _ _ ⟨Cond.after_iff.mpr rfl, Cond.after_iff.mpr (eq_i res_at (Term.int_eval (1)) rfl), trivial⟩ ⟨hq.1, hq.2.1, (hq.2.2.sift fun y hy => Or.inr (N y hy)).mono (by decide) (by decide)⟩⟩
theorem main_1_1 : Claimed_1_1 := comes_1 fun _ _ _ _ _ _ h hF => ⟨h.1, hF⟩
theorem main_1_2 : Claimed_1_2 := comes_1 fun _ _ _ _ _ _ h hF => ⟨h.2.1, hF⟩
end Jvm.Pilot.@@N@@
namespace Jvm.Pilot.@@N@@
open Jvm Jvm.ClassFile Sem Op Lib Jvm.Free Jvm.Stand Jvm.Pilot.@@N@@.Jvm.D
/-! MADE BY PROGRAM (witnessworld.py) out of the Statement's table words and the real class files: 17 classes; the members and pool entries that the words name. The judged class is class 1, her method 2. -/
namespace start1
open Jvm.ClassFile
def u (s : String) : CpInfo := .utf8 (stringToUtf16 s)
/-- a pool by its gaps: so many unusable entries, then the entry; so many at the end -/
def gap : Nat → List CpInfo → List CpInfo
  | 0, r => r
  | n + 1, r => .unusable :: gap n r
def poolList (es : List (Nat × CpInfo)) (last : Nat) : List CpInfo := es.foldr (fun e r => gap e.1 (e.2 :: r)) (gap last [])
def pool (es : List (Nat × CpInfo)) (last : Nat) : Array CpInfo := ⟨poolList es last⟩
def fileOf (pool : Array CpInfo) (this : Nat) (attrs : Array Attribute := #[]) (ms : Array MethodInfo := #[]) (fl : Nat := 33) (sup : Nat := 0) (ifs : Array Nat := #[]) (fds : Array FieldInfo := #[]) : ClassFile where
  minorVersion := 0
  majorVersion := 65
  constantPool := pool
  accessFlags := fl
  thisClass := this
  superClass := sup
  interfaces := ifs
  fields := fds
  methods := ms
  attributes := attrs
def plain (name : String) (sup : Option ClassId) : Class where
  name := name
  kind := .ordinary
  loader := none
  accessFlags := 33
  super := sup
  interfaces := #[]
  cf := none
  fields := #[]
  methods := #[]
  instanceTypes := #[]
  staticTypes := #[]
  resolved := #[]
  callSites := []
  init := .initialized
  statics := none
  mirror := none

def pool0 : Array CpInfo := pool [(5, u "<init>"), (0, u "()V"), (1, .class_ 10), (1, u "java/lang/Object")] 113

def k0c0 : Code := { maxStack := 0, maxLocals := 1, code := object_method_1_code, exceptionTable := #[], attributes := #[] }
def k0m0 : Method := { name := "<init>", desc := "()V", sig := { parameters := [], returnType := none }, accessFlags := 1, code := some k0c0 }
/-- java/lang/Object -/
def k0 : Class := { plain "java/lang/Object" none with
  accessFlags := 33
  interfaces := #[]
  cf := some (fileOf pool0 8 #[] #[{ accessFlags := 1, nameIndex := 5, descriptorIndex := 6, attributes := #[] }] 33 0 #[] #[])
  fields := #[]
  methods := #[k0m0]
  instanceTypes := #[]
  staticTypes := #[]
  resolved := Array.replicate 124 none
  statics := none }

def pool1 : Array CpInfo := pool [(2, .class_ 4), (1, u "java/lang/Object"), (0, u "<init>"), (0, u "()V"), (0, .class_ 8), (0, u "com/example/cluster_log/clusterlog/Lease"), (0, .methodref 7 10), (0, .nameAndType 5 11), (0, u "(IJ)V"), (0, .methodref 7 13), (0, .nameAndType 14 15), (0, u "length"), (0, u "()J"), (0, .methodref 7 17), (0, .nameAndType 18 19), (0, u "left"), (0, u "(J)J"), (0, .methodref 7 21), (0, .nameAndType 22 23), (0, u "renew"), (0, u "(J)Z"), (0, .methodref 25 26), (0, .class_ 27), (0, .nameAndType 28 29), (0, u "com/example/cluster_log/clusterlog/LeaseRenewPinLaw"), (0, u "later"), (0, u "(JJ)Z"), (3, u "law"), (0, u "(IJJJJI)Z")] 2

def k1m0 : Method := { name := "<init>", desc := "()V", sig := { parameters := [], returnType := none }, accessFlags := 1, code := none }
def k1c1 : Code := { maxStack := 4, maxLocals := 4, code := method_2_code, exceptionTable := #[], attributes := #[] }
def k1m1 : Method := { name := "later", desc := "(JJ)Z", sig := { parameters := [.long, .long], returnType := some .boolean }, accessFlags := 10, code := some k1c1 }
def k1c2 : Code := { maxStack := 6, maxLocals := 33, code := code, exceptionTable := #[], attributes := #[] }
def k1m2 : Method := { name := "law", desc := "(IJJJJI)Z", sig := { parameters := [.int, .long, .long, .long, .long, .int], returnType := some .boolean }, accessFlags := 9, code := some k1c2 }
/-- com/example/cluster_log/clusterlog/LeaseRenewPinLaw -/
def k1 : Class := { plain "com/example/cluster_log/clusterlog/LeaseRenewPinLaw" (some 0) with
  accessFlags := 49
  interfaces := #[]
  cf := some (fileOf pool1 25 #[] #[{ accessFlags := 1, nameIndex := 5, descriptorIndex := 6, attributes := #[] }, { accessFlags := 10, nameIndex := 28, descriptorIndex := 29, attributes := #[] }, { accessFlags := 9, nameIndex := 33, descriptorIndex := 34, attributes := #[] }] 49 2 #[] #[])
  fields := #[]
  methods := #[k1m0, k1m1, k1m2]
  instanceTypes := #[]
  staticTypes := #[]
  resolved := Array.replicate 37 none
  statics := none }

def pool2 : Array CpInfo := pool [(1, .methodref 2 3), (0, .class_ 4), (0, .nameAndType 5 6), (0, u "java/lang/Object"), (0, u "<init>"), (0, u "()V"), (0, .fieldref 8 9), (0, .class_ 10), (0, .nameAndType 11 12), (0, u "java/util/concurrent/TimeUnit"), (0, u "MILLISECONDS"), (0, u "Ljava/util/concurrent/TimeUnit;"), (0, .methodref 8 14), (0, .nameAndType 15 16), (0, u "toNanos"), (0, u "(J)J"), (0, .class_ 18), (0, u "com/example/cluster_log/clusterlog/Lease"), (0, .long 9), (1, .long 10), (1, .fieldref 17 24), (0, .nameAndType 25 26), (0, u "length"), (0, u "J"), (0, .methodref 28 29), (0, .class_ 30), (0, .nameAndType 31 32), (0, u "java/lang/Math"), (0, u "max"), (0, u "(II)I"), (0, .fieldref 17 34), (0, .nameAndType 35 26), (0, u "heartbeatMs"), (0, .fieldref 17 37), (0, .nameAndType 38 26), (0, u "end"), (0, u "LEASE_TENTHS"), (0, u "I"), (2, u "HEARTBEATS_PER_TIMEOUT"), (1, u "(IJ)V"), (2, u "()J"), (0, u "renew"), (0, u "(J)Z"), (1, u "left")] 3

def k2c0 : Code := { maxStack := 5, maxLocals := 4, code := prog_8_method_1_code, exceptionTable := #[], attributes := #[] }
def k2m0 : Method := { name := "<init>", desc := "(IJ)V", sig := { parameters := [.int, .long], returnType := none }, accessFlags := 0, code := some k2c0 }
def k2c1 : Code := { maxStack := 2, maxLocals := 1, code := prog_8_method_2_code, exceptionTable := #[], attributes := #[] }
def k2m1 : Method := { name := "length", desc := "()J", sig := { parameters := [], returnType := some .long }, accessFlags := 0, code := some k2c1 }
def k2c2 : Code := { maxStack := 4, maxLocals := 5, code := prog_8_method_4_code, exceptionTable := #[], attributes := #[] }
def k2m2 : Method := { name := "renew", desc := "(J)Z", sig := { parameters := [.long], returnType := some .boolean }, accessFlags := 0, code := some k2c2 }
def k2c3 : Code := { maxStack := 4, maxLocals := 3, code := prog_8_method_5_code, exceptionTable := #[], attributes := #[] }
def k2m3 : Method := { name := "left", desc := "(J)J", sig := { parameters := [.long], returnType := some .long }, accessFlags := 0, code := some k2c3 }
/-- com/example/cluster_log/clusterlog/Lease -/
def k2 : Class := { plain "com/example/cluster_log/clusterlog/Lease" (some 0) with
  accessFlags := 48
  interfaces := #[]
  cf := some (fileOf pool2 17 #[] #[{ accessFlags := 0, nameIndex := 5, descriptorIndex := 45, attributes := #[] }, { accessFlags := 0, nameIndex := 25, descriptorIndex := 48, attributes := #[] }, { accessFlags := 0, nameIndex := 49, descriptorIndex := 50, attributes := #[] }, { accessFlags := 0, nameIndex := 52, descriptorIndex := 16, attributes := #[] }] 48 2 #[] #[{ accessFlags := 26, nameIndex := 39, descriptorIndex := 40, attributes := #[] }, { accessFlags := 26, nameIndex := 43, descriptorIndex := 40, attributes := #[] }, { accessFlags := 18, nameIndex := 25, descriptorIndex := 26, attributes := #[] }, { accessFlags := 18, nameIndex := 35, descriptorIndex := 26, attributes := #[] }, { accessFlags := 2, nameIndex := 38, descriptorIndex := 26, attributes := #[] }])
  fields := #[{ name := "LEASE_TENTHS", type := .int, accessFlags := 26, slot := 0, constantValue := 0 }, { name := "HEARTBEATS_PER_TIMEOUT", type := .int, accessFlags := 26, slot := 1, constantValue := 0 }, { name := "length", type := .long, accessFlags := 18, slot := 0, constantValue := 0 }, { name := "heartbeatMs", type := .long, accessFlags := 18, slot := 1, constantValue := 0 }, { name := "end", type := .long, accessFlags := 2, slot := 2, constantValue := 0 }]
  methods := #[k2m0, k2m1, k2m2, k2m3]
  instanceTypes := #[.long, .long, .long]
  staticTypes := #[.int, .int]
  resolved := Array.replicate 56 none
  statics := none }

def pool3 : Array CpInfo := pool [(1, .class_ 2), (0, u "java/lang/constant/Constable"), (0, .class_ 4), (0, u "java/lang/Object")] 6

/-- java/lang/constant/Constable -/
def k3 : Class := { plain "java/lang/constant/Constable" (some 0) with
  accessFlags := 1537
  interfaces := #[]
  cf := some (fileOf pool3 1 #[] #[] 1537 3 #[] #[])
  fields := #[]
  methods := #[]
  instanceTypes := #[]
  staticTypes := #[]
  resolved := Array.replicate 11 none
  statics := none }

def pool4 : Array CpInfo := pool [(1, .class_ 2), (0, u "java/lang/Comparable"), (0, .class_ 4), (0, u "java/lang/Object")] 7

/-- java/lang/Comparable -/
def k4 : Class := { plain "java/lang/Comparable" (some 0) with
  accessFlags := 1537
  interfaces := #[]
  cf := some (fileOf pool4 1 #[] #[] 1537 3 #[] #[])
  fields := #[]
  methods := #[]
  instanceTypes := #[]
  staticTypes := #[]
  resolved := Array.replicate 12 none
  statics := none }

def pool5 : Array CpInfo := pool [(1, .class_ 2), (0, u "java/io/Serializable"), (0, .class_ 4), (0, u "java/lang/Object")] 2

/-- java/io/Serializable -/
def k5 : Class := { plain "java/io/Serializable" (some 0) with
  accessFlags := 1537
  interfaces := #[]
  cf := some (fileOf pool5 1 #[] #[] 1537 3 #[] #[])
  fields := #[]
  methods := #[]
  instanceTypes := #[]
  staticTypes := #[]
  resolved := Array.replicate 7 none
  statics := none }

def pool6 : Array CpInfo := pool [(2, .class_ 4), (1, u "java/lang/Enum"), (0, u "name"), (0, u "Ljava/lang/String;"), (2, u "ordinal"), (0, u "I"), (1, .class_ 14), (1, u "java/lang/Object"), (4, u "hash"), (86, .class_ 108), (1, u "java/lang/Enum$EnumDesc"), (2, .class_ 112), (0, u "java/lang/constant/Constable"), (0, .class_ 114), (0, u "java/lang/Comparable"), (0, .class_ 116), (0, u "java/io/Serializable")] 87

/-- java/lang/Enum -/
def k6 : Class := { plain "java/lang/Enum" (some 0) with
  accessFlags := 1057
  interfaces := #[3, 4, 5]
  cf := some (fileOf pool6 2 #[.nestMembers #[106]] #[] 1057 12 #[111, 113, 115] #[{ accessFlags := 18, nameIndex := 5, descriptorIndex := 6, attributes := #[] }, { accessFlags := 18, nameIndex := 9, descriptorIndex := 10, attributes := #[] }, { accessFlags := 2, nameIndex := 19, descriptorIndex := 10, attributes := #[] }])
  fields := #[{ name := "name", type := (.object "java/lang/String"), accessFlags := 18, slot := 0, constantValue := 0 }, { name := "ordinal", type := .int, accessFlags := 18, slot := 1, constantValue := 0 }, { name := "hash", type := .int, accessFlags := 2, slot := 2, constantValue := 0 }]
  methods := #[]
  instanceTypes := #[(.object "java/lang/String"), .int, .int]
  staticTypes := #[]
  resolved := Array.replicate 204 none
  statics := none }

def pool7 : Array CpInfo := pool [(1, .class_ 2), (0, u "java/util/concurrent/TimeUnit"), (2, u "NANOSECONDS"), (0, u "Ljava/util/concurrent/TimeUnit;"), (2, u "MICROSECONDS"), (2, u "MILLISECONDS"), (2, u "SECONDS"), (2, u "MINUTES"), (2, u "HOURS"), (2, u "DAYS"), (2, u "$VALUES"), (0, u "[Ljava/util/concurrent/TimeUnit;"), (6, .class_ 37), (1, u "java/lang/Enum"), (6, .fieldref 1 45), (0, .nameAndType 46 47), (0, u "scale"), (0, u "J"), (4, .fieldref 1 53), (0, .nameAndType 54 47), (0, u "maxNanos"), (4, u "microRatio"), (2, u "maxMicros"), (4, u "milliRatio"), (0, u "I"), (2, u "maxMillis"), (4, u "secRatio"), (2, u "maxSecs"), (8, u "toNanos"), (0, u "(J)J"), (73, .class_ 165), (1, u "java/util/concurrent/TimeUnit$1"), (46, u "NANO_SCALE"), (3, u "MICRO_SCALE"), (0, u "MILLI_SCALE"), (0, u "SECOND_SCALE"), (0, u "MINUTE_SCALE"), (0, u "HOUR_SCALE"), (0, u "DAY_SCALE")] 61

def k7c0 : Code := { maxStack := 6, maxLocals := 7, code := jdk_2799_method_7_code, exceptionTable := #[], attributes := #[] }
def k7m0 : Method := { name := "toNanos", desc := "(J)J", sig := { parameters := [.long], returnType := some .long }, accessFlags := 1, code := some k7c0 }
/-- java/util/concurrent/TimeUnit -/
def k7 : Class := { plain "java/util/concurrent/TimeUnit" (some 6) with
  accessFlags := 16433
  interfaces := #[]
  cf := some (fileOf pool7 1 #[.nestMembers #[163]] #[{ accessFlags := 1, nameIndex := 88, descriptorIndex := 89, attributes := #[] }] 16433 35 #[] #[{ accessFlags := 16409, nameIndex := 5, descriptorIndex := 6, attributes := #[] }, { accessFlags := 16409, nameIndex := 9, descriptorIndex := 6, attributes := #[] }, { accessFlags := 16409, nameIndex := 12, descriptorIndex := 6, attributes := #[] }, { accessFlags := 16409, nameIndex := 15, descriptorIndex := 6, attributes := #[] }, { accessFlags := 16409, nameIndex := 18, descriptorIndex := 6, attributes := #[] }, { accessFlags := 16409, nameIndex := 21, descriptorIndex := 6, attributes := #[] }, { accessFlags := 16409, nameIndex := 24, descriptorIndex := 6, attributes := #[] }, { accessFlags := 26, nameIndex := 212, descriptorIndex := 47, attributes := #[] }, { accessFlags := 26, nameIndex := 216, descriptorIndex := 47, attributes := #[] }, { accessFlags := 26, nameIndex := 217, descriptorIndex := 47, attributes := #[] }, { accessFlags := 26, nameIndex := 218, descriptorIndex := 47, attributes := #[] }, { accessFlags := 26, nameIndex := 219, descriptorIndex := 47, attributes := #[] }, { accessFlags := 26, nameIndex := 220, descriptorIndex := 47, attributes := #[] }, { accessFlags := 26, nameIndex := 221, descriptorIndex := 47, attributes := #[] }, { accessFlags := 18, nameIndex := 46, descriptorIndex := 47, attributes := #[] }, { accessFlags := 18, nameIndex := 54, descriptorIndex := 47, attributes := #[] }, { accessFlags := 18, nameIndex := 62, descriptorIndex := 47, attributes := #[] }, { accessFlags := 18, nameIndex := 71, descriptorIndex := 47, attributes := #[] }, { accessFlags := 18, nameIndex := 79, descriptorIndex := 47, attributes := #[] }, { accessFlags := 18, nameIndex := 59, descriptorIndex := 47, attributes := #[] }, { accessFlags := 18, nameIndex := 67, descriptorIndex := 68, attributes := #[] }, { accessFlags := 18, nameIndex := 76, descriptorIndex := 68, attributes := #[] }, { accessFlags := 4122, nameIndex := 27, descriptorIndex := 28, attributes := #[] }])
  fields := #[{ name := "NANOSECONDS", type := (.object "java/util/concurrent/TimeUnit"), accessFlags := 16409, slot := 0, constantValue := 0 }, { name := "MICROSECONDS", type := (.object "java/util/concurrent/TimeUnit"), accessFlags := 16409, slot := 1, constantValue := 0 }, { name := "MILLISECONDS", type := (.object "java/util/concurrent/TimeUnit"), accessFlags := 16409, slot := 2, constantValue := 0 }, { name := "SECONDS", type := (.object "java/util/concurrent/TimeUnit"), accessFlags := 16409, slot := 3, constantValue := 0 }, { name := "MINUTES", type := (.object "java/util/concurrent/TimeUnit"), accessFlags := 16409, slot := 4, constantValue := 0 }, { name := "HOURS", type := (.object "java/util/concurrent/TimeUnit"), accessFlags := 16409, slot := 5, constantValue := 0 }, { name := "DAYS", type := (.object "java/util/concurrent/TimeUnit"), accessFlags := 16409, slot := 6, constantValue := 0 }, { name := "NANO_SCALE", type := .long, accessFlags := 26, slot := 7, constantValue := 0 }, { name := "MICRO_SCALE", type := .long, accessFlags := 26, slot := 8, constantValue := 0 }, { name := "MILLI_SCALE", type := .long, accessFlags := 26, slot := 9, constantValue := 0 }, { name := "SECOND_SCALE", type := .long, accessFlags := 26, slot := 10, constantValue := 0 }, { name := "MINUTE_SCALE", type := .long, accessFlags := 26, slot := 11, constantValue := 0 }, { name := "HOUR_SCALE", type := .long, accessFlags := 26, slot := 12, constantValue := 0 }, { name := "DAY_SCALE", type := .long, accessFlags := 26, slot := 13, constantValue := 0 }, { name := "scale", type := .long, accessFlags := 18, slot := 3, constantValue := 0 }, { name := "maxNanos", type := .long, accessFlags := 18, slot := 4, constantValue := 0 }, { name := "maxMicros", type := .long, accessFlags := 18, slot := 5, constantValue := 0 }, { name := "maxMillis", type := .long, accessFlags := 18, slot := 6, constantValue := 0 }, { name := "maxSecs", type := .long, accessFlags := 18, slot := 7, constantValue := 0 }, { name := "microRatio", type := .long, accessFlags := 18, slot := 8, constantValue := 0 }, { name := "milliRatio", type := .int, accessFlags := 18, slot := 9, constantValue := 0 }, { name := "secRatio", type := .int, accessFlags := 18, slot := 10, constantValue := 0 }, { name := "$VALUES", type := (.array (.object "java/util/concurrent/TimeUnit")), accessFlags := 4122, slot := 14, constantValue := 0 }]
  methods := #[k7m0]
  instanceTypes := #[(.object "java/lang/String"), .int, .int, .long, .long, .long, .long, .long, .long, .int, .int]
  staticTypes := #[(.object "java/util/concurrent/TimeUnit"), (.object "java/util/concurrent/TimeUnit"), (.object "java/util/concurrent/TimeUnit"), (.object "java/util/concurrent/TimeUnit"), (.object "java/util/concurrent/TimeUnit"), (.object "java/util/concurrent/TimeUnit"), (.object "java/util/concurrent/TimeUnit"), .long, .long, .long, .long, .long, .long, .long, (.array (.object "java/util/concurrent/TimeUnit"))]
  resolved := Array.replicate 283 none
  statics := some 0 }

def pool8 : Array CpInfo := pool [(1, .class_ 2), (0, u "java/lang/Math"), (1, .class_ 6), (1, u "java/lang/Object"), (0, u "<init>"), (0, u "()V"), (89, .class_ 100), (1, u "java/lang/Math$RandomNumberGeneratorHolder"), (71, u "negativeZeroFloatBits"), (0, u "J"), (2, u "negativeZeroDoubleBits"), (21, u "max"), (46, u "$assertionsDisabled"), (0, u "Z"), (88, u "(II)I"), (2, u "twoToTheDoubleScaleDown"), (0, u "D"), (4, u "twoToTheDoubleScaleUp"), (9, u "E"), (3, u "PI"), (2, u "TAU"), (2, u "DEGREES_TO_RADIANS"), (0, u "RADIANS_TO_DEGREES")] 94

def k8m0 : Method := { name := "<init>", desc := "()V", sig := { parameters := [], returnType := none }, accessFlags := 2, code := none }
def k8c1 : Code := { maxStack := 2, maxLocals := 2, code := jdk_29_method_65_code, exceptionTable := #[], attributes := #[] }
def k8m1 : Method := { name := "max", desc := "(II)I", sig := { parameters := [.int, .int], returnType := some .int }, accessFlags := 9, code := some k8c1 }
/-- java/lang/Math -/
def k8 : Class := { plain "java/lang/Math" (some 0) with
  accessFlags := 49
  interfaces := #[]
  cf := some (fileOf pool8 1 #[.nestMembers #[98]] #[{ accessFlags := 2, nameIndex := 7, descriptorIndex := 8, attributes := #[] }, { accessFlags := 9, nameIndex := 198, descriptorIndex := 335, attributes := #[] }] 49 4 #[] #[{ accessFlags := 25, nameIndex := 354, descriptorIndex := 339, attributes := #[] }, { accessFlags := 25, nameIndex := 358, descriptorIndex := 339, attributes := #[] }, { accessFlags := 25, nameIndex := 361, descriptorIndex := 339, attributes := #[] }, { accessFlags := 26, nameIndex := 364, descriptorIndex := 339, attributes := #[] }, { accessFlags := 26, nameIndex := 365, descriptorIndex := 339, attributes := #[] }, { accessFlags := 26, nameIndex := 172, descriptorIndex := 173, attributes := #[] }, { accessFlags := 26, nameIndex := 176, descriptorIndex := 173, attributes := #[] }, { accessFlags := 8, nameIndex := 344, descriptorIndex := 339, attributes := #[] }, { accessFlags := 8, nameIndex := 338, descriptorIndex := 339, attributes := #[] }, { accessFlags := 4120, nameIndex := 245, descriptorIndex := 246, attributes := #[] }])
  fields := #[{ name := "E", type := .double, accessFlags := 25, slot := 0, constantValue := 0 }, { name := "PI", type := .double, accessFlags := 25, slot := 1, constantValue := 0 }, { name := "TAU", type := .double, accessFlags := 25, slot := 2, constantValue := 0 }, { name := "DEGREES_TO_RADIANS", type := .double, accessFlags := 26, slot := 3, constantValue := 0 }, { name := "RADIANS_TO_DEGREES", type := .double, accessFlags := 26, slot := 4, constantValue := 0 }, { name := "negativeZeroFloatBits", type := .long, accessFlags := 26, slot := 5, constantValue := 0 }, { name := "negativeZeroDoubleBits", type := .long, accessFlags := 26, slot := 6, constantValue := 0 }, { name := "twoToTheDoubleScaleUp", type := .double, accessFlags := 8, slot := 7, constantValue := 0 }, { name := "twoToTheDoubleScaleDown", type := .double, accessFlags := 8, slot := 8, constantValue := 0 }, { name := "$assertionsDisabled", type := .boolean, accessFlags := 4120, slot := 9, constantValue := 0 }]
  methods := #[k8m0, k8m1]
  instanceTypes := #[]
  staticTypes := #[.double, .double, .double, .double, .double, .long, .long, .double, .double, .boolean]
  resolved := Array.replicate 460 none
  statics := none }

def pool9 : Array CpInfo := pool [(2, .class_ 4), (1, u "java/lang/CharSequence"), (42, .class_ 48), (0, u "java/lang/CharSequence$1CodePointIterator"), (10, .class_ 60), (0, u "java/lang/CharSequence$1CharIterator"), (5, .class_ 67), (0, u "java/lang/Object")] 63

/-- java/lang/CharSequence -/
def k9 : Class := { plain "java/lang/CharSequence" (some 0) with
  accessFlags := 1537
  interfaces := #[]
  cf := some (fileOf pool9 2 #[.nestMembers #[47, 59]] #[] 1537 66 #[] #[])
  fields := #[]
  methods := #[]
  instanceTypes := #[]
  staticTypes := #[]
  resolved := Array.replicate 131 none
  statics := none }

def pool10 : Array CpInfo := pool [(1, .class_ 2), (0, u "java/lang/constant/ConstantDesc"), (0, .class_ 4), (0, u "java/lang/Object")] 32

/-- java/lang/constant/ConstantDesc -/
def k10 : Class := { plain "java/lang/constant/ConstantDesc" (some 0) with
  accessFlags := 1537
  interfaces := #[]
  cf := some (fileOf pool10 1 #[] #[] 1537 3 #[] #[])
  fields := #[]
  methods := #[]
  instanceTypes := #[]
  staticTypes := #[]
  resolved := Array.replicate 37 none
  statics := none }

def pool11 : Array CpInfo := pool [(2, .class_ 4), (1, u "java/lang/Object"), (0, u "<init>"), (0, u "()V"), (3, .class_ 12), (1, u "java/lang/String"), (0, u "value"), (0, u "[B"), (2, u "coder"), (0, u "B"), (2, u "hash"), (0, u "I"), (2, u "hashIsZero"), (0, u "Z"), (13, u "COMPACT_STRINGS"), (534, .class_ 576), (0, u "java/lang/CharSequence"), (22, u "CASE_INSENSITIVE_ORDER"), (0, u "Ljava/util/Comparator;"), (500, u "serialPersistentFields"), (0, u "[Ljava/io/ObjectStreamField;"), (0, .class_ 1104), (0, u "java/lang/String$CaseInsensitiveComparator"), (1, .class_ 1107), (0, u "java/io/Serializable"), (0, .class_ 1109), (0, u "java/lang/Comparable"), (0, .class_ 1111), (0, u "java/lang/constant/Constable"), (0, .class_ 1113), (0, u "java/lang/constant/ConstantDesc"), (2, u "serialVersionUID"), (0, u "J"), (3, u "REPL"), (0, u "C"), (2, u "LATIN1"), (1, u "UTF16")] 323

def k11m0 : Method := { name := "<init>", desc := "()V", sig := { parameters := [], returnType := none }, accessFlags := 1, code := none }
/-- java/lang/String -/
def k11 : Class := { plain "java/lang/String" (some 0) with
  accessFlags := 49
  interfaces := #[5, 4, 9, 3, 10]
  cf := some (fileOf pool11 10 #[.nestMembers #[1103]] #[{ accessFlags := 1, nameIndex := 5, descriptorIndex := 6, attributes := #[] }] 49 2 #[1106, 1108, 575, 1110, 1112] #[{ accessFlags := 18, nameIndex := 13, descriptorIndex := 14, attributes := #[] }, { accessFlags := 18, nameIndex := 17, descriptorIndex := 18, attributes := #[] }, { accessFlags := 2, nameIndex := 21, descriptorIndex := 22, attributes := #[] }, { accessFlags := 2, nameIndex := 25, descriptorIndex := 26, attributes := #[] }, { accessFlags := 26, nameIndex := 1116, descriptorIndex := 1117, attributes := #[] }, { accessFlags := 24, nameIndex := 40, descriptorIndex := 26, attributes := #[] }, { accessFlags := 26, nameIndex := 1101, descriptorIndex := 1102, attributes := #[] }, { accessFlags := 26, nameIndex := 1121, descriptorIndex := 1122, attributes := #[] }, { accessFlags := 25, nameIndex := 599, descriptorIndex := 600, attributes := #[] }, { accessFlags := 24, nameIndex := 1125, descriptorIndex := 18, attributes := #[] }, { accessFlags := 24, nameIndex := 1127, descriptorIndex := 18, attributes := #[] }])
  fields := #[{ name := "value", type := (.array .byte), accessFlags := 18, slot := 0, constantValue := 0 }, { name := "coder", type := .byte, accessFlags := 18, slot := 1, constantValue := 0 }, { name := "hash", type := .int, accessFlags := 2, slot := 2, constantValue := 0 }, { name := "hashIsZero", type := .boolean, accessFlags := 2, slot := 3, constantValue := 0 }, { name := "serialVersionUID", type := .long, accessFlags := 26, slot := 0, constantValue := 0 }, { name := "COMPACT_STRINGS", type := .boolean, accessFlags := 24, slot := 1, constantValue := 0 }, { name := "serialPersistentFields", type := (.array (.object "java/io/ObjectStreamField")), accessFlags := 26, slot := 2, constantValue := 0 }, { name := "REPL", type := .char, accessFlags := 26, slot := 3, constantValue := 0 }, { name := "CASE_INSENSITIVE_ORDER", type := (.object "java/util/Comparator"), accessFlags := 25, slot := 4, constantValue := 0 }, { name := "LATIN1", type := .byte, accessFlags := 24, slot := 5, constantValue := 0 }, { name := "UTF16", type := .byte, accessFlags := 24, slot := 6, constantValue := 0 }]
  methods := #[k11m0]
  instanceTypes := #[(.array .byte), .byte, .int, .boolean]
  staticTypes := #[.long, .boolean, (.array (.object "java/io/ObjectStreamField")), .char, (.object "java/util/Comparator"), .byte, .byte]
  resolved := Array.replicate 1451 none
  statics := none }

def pool12 : Array CpInfo := pool [(1, u "java/lang/Cloneable"), (0, .class_ 1), (0, u "java/lang/Object"), (0, .class_ 3)] 3

/-- java/lang/Cloneable -/
def k12 : Class := { plain "java/lang/Cloneable" (some 0) with
  accessFlags := 1537
  interfaces := #[]
  cf := some (fileOf pool12 2 #[] #[] 1537 4 #[] #[])
  fields := #[]
  methods := #[]
  instanceTypes := #[]
  staticTypes := #[]
  resolved := Array.replicate 8 none
  statics := none }

/-- the primitive byte -/
def k13 : Class := { plain "byte" none with kind := .primitive 'B', accessFlags := 0x411 }
/-- [B -/
def k14 : Class := { plain "[B" (some 0) with kind := .array 13 .byte, interfaces := #[12, 5], accessFlags := 1041 }

/-- the primitive int -/
def k15 : Class := { plain "int" none with kind := .primitive 'I', accessFlags := 0x411 }
/-- [I -/
def k16 : Class := { plain "[I" (some 0) with kind := .array 15 .int, interfaces := #[12, 5], accessFlags := 1041 }

def heap : Heap := #[{ cls := 7, slots := #[.null, .null, .ref 2, .null, .null, .null, .null, .long 0, .long 0, .long 0, .long 0, .long 0, .long 0, .long 0, .null], vm := .statics 7 },
  { cls := 11, slots := #[.null, .int 0, .int 0, .int 0], vm := .none },
  { cls := 7, slots := #[.ref 1, .int 2, .int 0, .long 1000000, .long 9223372036854, .long 9223372036854775, .long 9223372036854775807, .long 9223372036854775, .long 1000, .int 1, .int 1000], vm := .none }]
def classes : Array Class := #[k0, k1, k2, k3, k4, k5, k6, k7, k8, k9, k10, k11, k12, k13, k14, k15, k16]
def interned : List (Array UInt16 × Addr) := []
def slotsUsed : Nat := 30
def theMethod : MethodId := ⟨1, 2⟩
def args0 : Array Value := #[.int 3, .long 4, .long 5, .long 6, .long 7, .int 3]
def aboutOver (below : List Frame) : State where
  vm := { classes := classes, interned := interned.toArray }
  heap := heap
  slotsUsed := slotsUsed
  threads := #[{ frames := .invoking theMethod args0 :: below }]
def below0 : List Frame := [.native { method := ⟨0, 0⟩, args := #[] }]
def about1 : State := aboutOver below0
def p0 : Program := .bare "" "" ""
def e0 : Env := launch0.env 0 0 0
theorem w_frames : about1.frames = Frame.invoking theMethod args0 :: below0 := rfl
set_option maxRecDepth 65536 in
theorem w_args : argsFit about1.vm theMethod args0 = true := by decide +kernel
set_option maxRecDepth 65536 in
theorem w_heap : heapFits about1 = true := by decide +kernel
set_option maxRecDepth 65536 in
theorem w_runnable : about1.curStatus? = some .runnable := by decide +kernel
set_option maxRecDepth 65536 in
theorem w_alone : about1.alone = true := by decide +kernel
set_option maxRecDepth 65536 in
theorem w_named : about1.methodNamed? x = some theMethod := by decide +kernel
set_option maxRecDepth 65536 in
theorem w_hears : about1.hears theMethod below0 = true := by decide +kernel
set_option maxRecDepth 65536 in
theorem w_ripe : about1.ripe theMethod args0 below0 = true := by decide +kernel
theorem w_running : about1.status = .running := rfl
set_option maxRecDepth 65536 in
theorem w_room : about1.hasRoom e0.platform room_1 = true :=
  launch0.hasRoom_least _ room_1 (by decide +kernel) (by decide +kernel) (by decide +kernel) (by decide +kernel) (by decide +kernel) (by decide +kernel)
theorem allAtoms_all (ts : List Jvm.Cond) (a : Array Jvm.Value) (st : Jvm.State) : (allAtoms ts).before a st = ts.all (fun c => c.before a st) := by
  induction ts with
  | nil => rfl
  | cons c t ih =>
    show (Jvm.Cond.and c (allAtoms t)).before a st = _
    rw [Jvm.Cond.before_and, ih, List.all_cons]
def words1 : List Jvm.Cond := Jvm.Cond.code x code maxLocals ret :: tables_1
/-- a 'code' word, met by the world's own term for the bytes: nothing is compared byte by byte -/
theorem code_word {y : MethodName} {bytes : ByteArray} {mx : Nat} {rt : Option FieldType} {a : Array Value} {s : State} {m : MethodId} {meth : Method} {c : Code} (h1 : s.methodNamed? y = some m) (h2 : s.vm.method? m = some meth) (h3 : meth.code = some c) (h4 : c.code = bytes)
    (h5 : (c.maxLocals == mx && c.exceptionTable.isEmpty && decide (c.maxStack ≤ mostOperands) && decide (meth.sig.returnType = rt) && !meth.locks && decide (parseMethodDescriptor y.desc = some meth.sig)) = true) : (Jvm.Cond.code y bytes mx rt).before a s = true := by
  simp only [Bool.and_eq_true, beq_iff_eq, Bool.not_eq_true', decide_eq_true_eq] at h5
  obtain ⟨⟨⟨⟨⟨g1, g2⟩, g3⟩, g4⟩, g5⟩, g6⟩ := h5
  simp [Cond.before, Cond.holds, Cond.value, h1, h2, h3, h4, g1, g2, g3, g4, g5, g6]
def isCode : Jvm.Cond → Bool
  | .code _ _ _ _ => true
  | _ => false
theorem all_split {L : List Jvm.Cond} {P : Jvm.Cond → Bool} (h1 : L.all (fun c => isCode c || P c) = true) (h2 : ∀ c ∈ L.filter isCode, P c = true) : L.all P = true := by
  refine List.all_eq_true.mpr fun c hc => ?_
  have h := List.all_eq_true.mp h1 c hc
  rcases Bool.eq_false_or_eq_true (isCode c) with hi | hi
  · exact h2 c (List.mem_filter.mpr ⟨hc, hi⟩)
  · simpa [hi] using h
set_option maxRecDepth 65536 in
theorem w_c0 : (Jvm.Cond.code x code maxLocals ret).before args0 about1 = true := code_word (m := ⟨1, 2⟩) (meth := k1m2) (c := k1c2) (by decide +kernel) rfl rfl rfl (by decide +kernel)
set_option maxRecDepth 65536 in
theorem w_c1 : (Jvm.Cond.code ({ cls := "com/example/cluster_log/clusterlog/Lease", name := "<init>", desc := "(IJ)V" } : Jvm.MethodName) prog_8_method_1_code (4 : Nat) (Option.none : Option Jvm.ClassFile.FieldType)).before args0 about1 = true := code_word (m := ⟨2, 0⟩) (meth := k2m0) (c := k2c0) (by decide +kernel) rfl rfl rfl (by decide +kernel)
set_option maxRecDepth 65536 in
theorem w_c2 : (Jvm.Cond.code ({ cls := "java/lang/Object", name := "<init>", desc := "()V" } : Jvm.MethodName) object_method_1_code (1 : Nat) (Option.none : Option Jvm.ClassFile.FieldType)).before args0 about1 = true := code_word (m := ⟨0, 0⟩) (meth := k0m0) (c := k0c0) (by decide +kernel) rfl rfl rfl (by decide +kernel)
set_option maxRecDepth 65536 in
theorem w_c3 : (Jvm.Cond.code ({ cls := "java/util/concurrent/TimeUnit", name := "toNanos", desc := "(J)J" } : Jvm.MethodName) jdk_2799_method_7_code (7 : Nat) (Option.some Jvm.ClassFile.FieldType.long)).before args0 about1 = true := code_word (m := ⟨7, 0⟩) (meth := k7m0) (c := k7c0) (by decide +kernel) rfl rfl rfl (by decide +kernel)
set_option maxRecDepth 65536 in
theorem w_c4 : (Jvm.Cond.code ({ cls := "java/lang/Math", name := "max", desc := "(II)I" } : Jvm.MethodName) jdk_29_method_65_code (2 : Nat) (Option.some Jvm.ClassFile.FieldType.int)).before args0 about1 = true := code_word (m := ⟨8, 1⟩) (meth := k8m1) (c := k8c1) (by decide +kernel) rfl rfl rfl (by decide +kernel)
set_option maxRecDepth 65536 in
theorem w_c5 : (Jvm.Cond.code ({ cls := "com/example/cluster_log/clusterlog/Lease", name := "length", desc := "()J" } : Jvm.MethodName) prog_8_method_2_code (1 : Nat) (Option.some Jvm.ClassFile.FieldType.long)).before args0 about1 = true := code_word (m := ⟨2, 1⟩) (meth := k2m1) (c := k2c1) (by decide +kernel) rfl rfl rfl (by decide +kernel)
set_option maxRecDepth 65536 in
theorem w_c6 : (Jvm.Cond.code ({ cls := "com/example/cluster_log/clusterlog/Lease", name := "left", desc := "(J)J" } : Jvm.MethodName) prog_8_method_5_code (3 : Nat) (Option.some Jvm.ClassFile.FieldType.long)).before args0 about1 = true := code_word (m := ⟨2, 3⟩) (meth := k2m3) (c := k2c3) (by decide +kernel) rfl rfl rfl (by decide +kernel)
set_option maxRecDepth 65536 in
theorem w_c7 : (Jvm.Cond.code ({ cls := "com/example/cluster_log/clusterlog/Lease", name := "renew", desc := "(J)Z" } : Jvm.MethodName) prog_8_method_4_code (5 : Nat) (Option.some Jvm.ClassFile.FieldType.boolean)).before args0 about1 = true := code_word (m := ⟨2, 2⟩) (meth := k2m2) (c := k2c2) (by decide +kernel) rfl rfl rfl (by decide +kernel)
set_option maxRecDepth 65536 in
theorem w_c8 : (Jvm.Cond.code ({ cls := "com/example/cluster_log/clusterlog/LeaseRenewPinLaw", name := "later", desc := "(JJ)Z" } : Jvm.MethodName) method_2_code (4 : Nat) (Option.some Jvm.ClassFile.FieldType.boolean)).before args0 about1 = true := code_word (m := ⟨1, 1⟩) (meth := k1m1) (c := k1c1) (by decide +kernel) rfl rfl rfl (by decide +kernel)
def codes1 : List Jvm.Cond := [Jvm.Cond.code x code maxLocals ret, Jvm.Cond.code ({ cls := "com/example/cluster_log/clusterlog/Lease", name := "<init>", desc := "(IJ)V" } : Jvm.MethodName) prog_8_method_1_code (4 : Nat) (Option.none : Option Jvm.ClassFile.FieldType), Jvm.Cond.code ({ cls := "java/lang/Object", name := "<init>", desc := "()V" } : Jvm.MethodName) object_method_1_code (1 : Nat) (Option.none : Option Jvm.ClassFile.FieldType), Jvm.Cond.code ({ cls := "java/util/concurrent/TimeUnit", name := "toNanos", desc := "(J)J" } : Jvm.MethodName) jdk_2799_method_7_code (7 : Nat) (Option.some Jvm.ClassFile.FieldType.long), Jvm.Cond.code ({ cls := "java/lang/Math", name := "max", desc := "(II)I" } : Jvm.MethodName) jdk_29_method_65_code (2 : Nat) (Option.some Jvm.ClassFile.FieldType.int), Jvm.Cond.code ({ cls := "com/example/cluster_log/clusterlog/Lease", name := "length", desc := "()J" } : Jvm.MethodName) prog_8_method_2_code (1 : Nat) (Option.some Jvm.ClassFile.FieldType.long), Jvm.Cond.code ({ cls := "com/example/cluster_log/clusterlog/Lease", name := "left", desc := "(J)J" } : Jvm.MethodName) prog_8_method_5_code (3 : Nat) (Option.some Jvm.ClassFile.FieldType.long), Jvm.Cond.code ({ cls := "com/example/cluster_log/clusterlog/Lease", name := "renew", desc := "(J)Z" } : Jvm.MethodName) prog_8_method_4_code (5 : Nat) (Option.some Jvm.ClassFile.FieldType.boolean), Jvm.Cond.code ({ cls := "com/example/cluster_log/clusterlog/LeaseRenewPinLaw", name := "later", desc := "(JJ)Z" } : Jvm.MethodName) method_2_code (4 : Nat) (Option.some Jvm.ClassFile.FieldType.boolean)]
set_option maxRecDepth 65536 in
theorem codes_eq : words1.filter isCode = codes1 := rfl
theorem w_codes : ∀ c ∈ words1.filter isCode, c.before args0 about1 = true := by
  rw [codes_eq]
  intro c hc
  simp only [codes1, List.mem_cons, List.not_mem_nil, or_false] at hc
  rcases hc with rfl | rfl | rfl | rfl | rfl | rfl | rfl | rfl | rfl
  · exact w_c0
  · exact w_c1
  · exact w_c2
  · exact w_c3
  · exact w_c4
  · exact w_c5
  · exact w_c6
  · exact w_c7
  · exact w_c8
set_option maxRecDepth 65536 in
theorem w_t1 : (words1.take 24).all (fun c => isCode c || c.before args0 about1) = true := by decide +kernel
set_option maxRecDepth 65536 in
theorem w_t2 : ((words1.drop 24).take 24).all (fun c => isCode c || c.before args0 about1) = true := by decide +kernel
set_option maxRecDepth 65536 in
theorem w_t3 : ((words1.drop 24).drop 24).all (fun c => isCode c || c.before args0 about1) = true := by decide +kernel
theorem w_tables : (allAtoms (Jvm.Cond.code x code maxLocals ret :: tables_1)).before args0 about1 = true := by
  rw [allAtoms_all]
  show words1.all (fun c => c.before args0 about1) = true
  refine all_split ?_ w_codes
  rw [← List.take_append_drop 24 words1, List.all_append, w_t1, ← List.take_append_drop 24 (words1.drop 24), List.all_append, w_t2, w_t3]
  rfl
set_option maxRecDepth 65536 in
theorem w_rest : rest_1_c.before args0 about1 = true := by decide +kernel
set_option maxRecDepth 65536 in
theorem w_case : (Jvm.Cond.and given_1 narrow_1).before args0 about1 = true := by decide +kernel
theorem w_applies : (headSpec (Jvm.Cond.code x code maxLocals ret :: tables_1) room_1).applies x e0.platform about1 = true :=
  (Spec.applies_iff w_frames).mpr ⟨w_running, w_runnable, w_alone, w_named, w_hears, w_ripe, w_room, w_tables⟩
theorem atStart : AtStart classFile x code maxLocals ret World_1 tables_1 room_1 Calls_1 rest_1 Pre_1 launch0 p0 e0 about1 theMethod args0 below0 :=
  ⟨lists_1, trivial, launch0.admits_env _ _ _, launch0.least_env, fairChoices_fair.cas, fairChoices_fair.clock, w_frames, w_args, w_heap, w_applies, trivial, w_rest, w_case⟩
end start1
theorem witness_1 : WitnessClaimed_1 := ⟨start1.p0, start1.e0, start1.about1, start1.theMethod, start1.args0, start1.below0, start1.atStart⟩
end Jvm.Pilot.@@N@@
