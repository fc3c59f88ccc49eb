import JvmDerived
import JvmDerived.Pilot.@@N@@Statement
import JvmDerived.Pilot.@@N@@Code
set_option linter.unusedVariables false
set_option linter.unusedSimpArgs false
namespace Jvm.RoadKit
open Sem ClassFile Op Lib Jvm.Stand Jvm.Free Jvm.LawKit
section New
variable {p : Program} {l : Launch} {e : Env} {R : Room} {s : State} {m : MethodId} {args : Array Value} {below : List Frame} {meth : Method} {c : Code} {T : State} {locs : List Loc} {cells slots : Nat}
theorem retI (X : Stand p l e R s m args below meth c T locs cells slots) (hx : p.tables.exec = Jvm.exec) {pc : Nat} {Ls : Array Slot} {z : Int32} {rest : List Value} (hret : meth.sig.returnType = some .int) (hd : decode c.code pc = .ok (.ireturn, 1)) {fs : List Frame}
    (hl : ∀ (f : JFrame) (acts : List Action), f.method = m → f.locked = none → f.entered = [] → (doReturn e (T.setTop f) acts (some (.int z))).1 = T.setFrames fs) : Steps p.tables e below (T.setTop (mkF m pc Ls (.int z :: rest))) (T.setFrames fs) := by
  have hm' : T.vm.method? m = some meth := X.method'
  have hn : narrow .int (.int z) = .int z := rfl
  show Steps p.tables e below (T.setTop { method := m, pc := pc, locals := Ls, stack := _ :: rest, locked := none }) _
  jvm_step X.here [X.here.top, hx, hd, hm', hret, hn]
  first | (intro acts; rw [hl _ acts rfl rfl rfl]) | rw [hl _ _ rfl rfl rfl]
  exact Steps.refl _
end New
end Jvm.RoadKit
namespace Jvm.Pilot.@@N@@
open Jvm Jvm.ClassFile Sem Op Lib Jvm.Free Jvm.Stand Jvm.LawKit Jvm.RoadKit Bundle Jvm.Pilot.@@N@@.Jvm.D
theorem own_eqI {t : Term} {args : Array Value} {first s : State} {o : Option Outcome} {idx : List Nat} {k : Int32} (h : (Jvm.Cond.eq t (.int k)).value args first o s idx = some true) : t.eval args first o idx s = some (.int k) := by
  cases ht : t.eval args first o idx s with
  | none => simp [Cond.value, ht] at h
  | some x => cases x <;> simp [Cond.value, ht, Term.eval] at h ⊢ <;> exact h
theorem own_eqJ {t : Term} {args : Array Value} {first s : State} {o : Option Outcome} {idx : List Nat} {k : Int64} (h : (Jvm.Cond.eq t (.long k)).value args first o s idx = some true) : t.eval args first o idx s = some (.long k) := by
  cases ht : t.eval args first o idx s with
  | none => simp [Cond.value, ht] at h
  | some x => cases x <;> simp [Cond.value, ht, Term.eval] at h ⊢ <;> exact h
theorem own_eqR {t u : Term} {args : Array Value} {first s : State} {o : Option Outcome} {idx : List Nat} {x : Addr} (h : (Jvm.Cond.eq t u).value args first o s idx = some true) (hu : u.eval args first o idx s = some (.ref x)) : t.eval args first o idx s = some (.ref x) := by
  cases ht : t.eval args first o idx s with
  | none => simp [Cond.value, ht] at h
  | some z => cases z <;> simp [Cond.value, ht, hu] at h ⊢ <;> exact h
theorem cat_of {v : Value} (h : v.isRef = true) : v.category = 1 := by rcases ref_cases h with rfl | ⟨a, rfl⟩ <;> rfl
theorem own_fits {n : String} {v : Value} (h : v.isRef = true) : fits (.object n) v = true := by rcases ref_cases h with rfl | ⟨a, rfl⟩ <;> rfl
theorem own_exa_ns {Z : State} {h : Heap} {a : Addr} {C : String} (E : Exa Z h a C) : ∀ c : Cell, h[a]? = some c → c.vm.isStatics = false := fun c hc => by
  obtain ⟨cell, k, h1, -, -, h4, -⟩ := E
  cases h1.symm.trans hc; exact h4
theorem own_sta_keep {Z : State} {h h' : Heap} {ws : List Addr} {C n d : String} {v : Value} (F : Sta Z h C n d v) (K : Keep h h' ws) (q : ∀ x ∈ ws, ∀ c : Cell, h[x]? = some c → c.vm.isStatics = false) : Sta Z h' C n d v := by
  obtain ⟨cf, i, k, f, st, cell, h1, h2, h3, h4, h5, h6, r⟩ := F
  refine ⟨cf, i, k, f, st, cell, h1, h2, h3, h4, K.2.1 st cell h5 (fun hm => ?_), h6, r⟩
  have := q st hm cell h5
  rw [h6] at this; cases this
theorem own_pows (c d I J : Nat) (q r : Int) (hJ : 0 < J) (h1 : c * 2 ^ q.toNat = I * J * 2 ^ (-q).toNat) (h2 : d * 2 ^ r.toNat = J * 2 ^ (-r).toNat) :
    c * 1 * 2 ^ (q - r - 0).toNat = I * d * 2 ^ (0 - (q - r)).toNat := by
  have e : (q - r - 0).toNat + (-q).toNat + r.toNat = (0 - (q - r)).toNat + q.toNat + (-r).toNat := by omega
  generalize (q - r - 0).toNat = dp at *
  generalize (0 - (q - r)).toNat = dm at *
  generalize q.toNat = qp at *
  generalize (-q).toNat = qm at *
  generalize r.toNat = rp at *
  generalize (-r).toNat = rm at *
  have hpos : 0 < 2 ^ qp * 2 ^ rm * J := Nat.mul_pos (Nat.mul_pos (Nat.two_pow_pos _) (Nat.two_pow_pos _)) hJ
  refine Nat.eq_of_mul_eq_mul_right hpos ?_
  calc c * 1 * 2 ^ dp * (2 ^ qp * 2 ^ rm * J) = (c * 2 ^ qp) * (J * 2 ^ rm) * 2 ^ dp := by grind
    _ = (I * J * 2 ^ qm) * (d * 2 ^ rp) * 2 ^ dp := by rw [h1, h2]
    _ = I * J * d * (2 ^ dp * 2 ^ qm * 2 ^ rp) := by grind
    _ = I * J * d * (2 ^ dm * 2 ^ qp * 2 ^ rm) := by rw [← Nat.pow_add, ← Nat.pow_add, ← Nat.pow_add, ← Nat.pow_add, e]
    _ = I * d * 2 ^ dm * (2 ^ qp * 2 ^ rm * J) := by grind
theorem own_sign {i j : Int} (hi : i ≠ 0) (hj : j ≠ 0) : (decide (i * j < 0) != decide (j < 0)) = decide (i < 0) := by
  rcases Int.lt_or_gt_of_ne hi with a | a <;> rcases Int.lt_or_gt_of_ne hj with b | b
  · have := Int.mul_pos_of_neg_of_neg a b; simp [a, b, Int.not_lt.mpr (Int.le_of_lt this)]
  · have := Int.mul_neg_of_neg_of_pos a b; simp [a, this, Int.not_lt.mpr (Int.le_of_lt b)]
  · have := Int.mul_neg_of_pos_of_neg a b; simp [b, this, Int.not_lt.mpr (Int.le_of_lt a)]
  · have := Int.mul_pos a b; simp [Int.not_lt.mpr (Int.le_of_lt this), Int.not_lt.mpr (Int.le_of_lt a), Int.not_lt.mpr (Int.le_of_lt b)]
theorem own_whole_div {i j : Int} {x y : UInt64} (hx : FP.Core.DInt (i * j) x) (hy : FP.Core.DInt j y) (hj : j ≠ 0) (hi : i.natAbs ≤ 2 ^ 53) : FP.Core.DInt i (FP.ddiv x y) := by
  show FP.Core.Whole i (FP.Core.val64 (FP.Core.ddiv x y))
  rw [FP.Core.val64_ddiv]
  have hx' : FP.Core.Whole (i * j) (FP.Core.val64 x) := hx
  have hy' : FP.Core.Whole j (FP.Core.val64 y) := hy
  generalize FP.Core.val64 x = dx at hx'
  generalize FP.Core.val64 y = dy at hy'
  cases dx with
  | nan => exact hx'.elim
  | inf => exact hx'.elim
  | fin s c q =>
    cases dy with
    | nan => exact hy'.elim
    | inf => exact hy'.elim
    | fin t d r =>
      have hd : d ≠ 0 := fun e => hj ((FP.Core.whole_zero hy').mp e)
      show FP.Core.Whole i (if d = 0 then _ else FP.Core.roundRatio FP.Core.b64 (s != t) c d (q - r))
      rw [if_neg hd]
      have h1 := FP.Core.whole_natAbs hx'
      have h2 := FP.Core.whole_natAbs hy'
      rw [Int.natAbs_mul] at h1
      have e : FP.Core.roundRatio FP.Core.b64 (s != t) c d (q - r) = FP.Core.roundRatio FP.Core.b64 (s != t) i.natAbs 1 0 :=
        FP.Core.roundRatio_congr (Nat.pos_of_ne_zero hd) (by decide) (own_pows c d i.natAbs j.natAbs q r (Int.natAbs_pos.mpr hj) h1 h2)
      rw [e]
      refine FP.Core.whole_round FP.Core.good_b64 FP.Core.wide_b64 (d := .fin (s != t) i.natAbs 0) hi ?_
      show FP.Core.signed (s != t) (i.natAbs * 1) = i * ((1 : Nat) : Int)
      rw [Nat.mul_one]
      by_cases h0 : i = 0
      · subst h0; cases (s != t) <;> rfl
      · have hs := FP.Core.whole_sign hx' (Int.mul_ne_zero h0 hj)
        have ht := FP.Core.whole_sign hy' hj
        rw [hs, ht, own_sign h0 hj]
        unfold FP.Core.signed
        by_cases h : i < 0 <;> simp [h] <;> omega
theorem own_dint (a b : Int32) : FP.Core.DInt (a % (1000 : Int32)).toInt (FP.ddiv (FP.i2d ((a % (1000 : Int32)) * ((b &&& (1023 : Int32)) + (1 : Int32)))) (FP.i2d ((b &&& (1023 : Int32)) + (1 : Int32)))) := by
  have m1 := c_mask b 1023 10 (by decide) (by decide)
  have m2 := c_iadd (b &&& 1023) 1
  have m3 := rng32 ((b &&& 1023) + 1)
  have m4 : (1 : Int32).toInt = 1 := by decide
  have m5 := Int.emod_nonneg b.toInt (show ((2 ^ 10 : Nat) : Int) ≠ 0 by decide)
  have m6 := Int.emod_lt_of_pos b.toInt (show (0 : Int) < ((2 ^ 10 : Nat) : Int) by decide)
  have m7 : ((2 ^ 10 : Nat) : Int) = 1024 := by decide
  rw [m4] at m2
  rw [m7] at m1 m5 m6
  have r1 : 1 ≤ ((b &&& 1023) + 1).toInt ∧ ((b &&& 1023) + 1).toInt ≤ 1024 := by omega
  have q0 := c_irem a 1000 1000 rfl
  have q1 : -999 ≤ (a % 1000).toInt ∧ (a % 1000).toInt ≤ 999 := by
    by_cases h : 0 ≤ a.toInt
    · have := q0.1 h; have := Int.emod_nonneg a.toInt (show (1000 : Int) ≠ 0 by decide); have := Int.emod_lt_of_pos a.toInt (show (0 : Int) < 1000 by decide); omega
    · have := q0.2 (by omega); have := Int.emod_nonneg (-a.toInt) (show (1000 : Int) ≠ 0 by decide); have := Int.emod_lt_of_pos (-a.toInt) (show (0 : Int) < 1000 by decide); omega
  generalize (b &&& 1023) + 1 = r at *
  generalize a % 1000 = q at *
  have p1 := c_imul q r
  have p2 := rng32 (q * r)
  have p3 : (q.toInt * r.toInt).natAbs ≤ 999 * 1024 := by
    rw [Int.natAbs_mul]
    exact Nat.mul_le_mul (by omega) (by omega)
  have p4 : (q * r).toInt = q.toInt * r.toInt := by
    generalize q.toInt * r.toInt = z at *
    omega
  have hx := FP.Core.i2d_int (q * r)
  rw [p4] at hx
  exact own_whole_div hx (FP.Core.i2d_int r) (by omega) (by have : (2 : Nat) ^ 53 = 9007199254740992 := by decide
                                                            omega)
theorem own_cmp (a b : Int32) : cmpValue (FP.dcmp (FP.ddiv (FP.i2d ((a % (1000 : Int32)) * ((b &&& (1023 : Int32)) + (1 : Int32)))) (FP.i2d ((b &&& (1023 : Int32)) + (1 : Int32)))) (FP.i2d (a % (1000 : Int32)))) .l = (0 : Int32) := by
  have h : FP.dcmp (FP.ddiv (FP.i2d ((a % (1000 : Int32)) * ((b &&& (1023 : Int32)) + (1 : Int32)))) (FP.i2d ((b &&& (1023 : Int32)) + (1 : Int32)))) (FP.i2d (a % (1000 : Int32))) = some (compare (a % (1000 : Int32)).toInt (a % (1000 : Int32)).toInt) := FP.Core.dcmp_int (own_dint a b) (FP.Core.i2d_int _)
  rw [h]
  have : compare (a % (1000 : Int32)).toInt (a % (1000 : Int32)).toInt = .eq := by simp
  rw [this]; rfl
theorem own_nn (a b : Int32) : Jvm.Free.Fl.NoNaN64 (FP.ddiv (FP.i2d ((a % (1000 : Int32)) * ((b &&& (1023 : Int32)) + (1 : Int32)))) (FP.i2d ((b &&& (1023 : Int32)) + (1 : Int32)))) := by
  refine Jvm.Free.Fl.val64_no.mpr fun e => ?_
  have h := own_dint a b
  unfold FP.Core.DInt at h
  rw [show FP.Core.val64 _ = .nan from e] at h
  exact h
theorem pn_0 : plainName "java/lang/Record" = true := by first | (simp [plainName, overriddenIn]; done) | decide +kernel
theorem d2_0 : decode jdk_30_method_1_code 0 = .ok (.aload_n 0, 1) := by decide +kernel
theorem d2_1 : decode jdk_30_method_1_code 1 = .ok (.invokespecial 1, 3) := by decide +kernel
theorem d2_4 : decode jdk_30_method_1_code 4 = .ok (.return_, 1) := by decide +kernel
theorem ef_2 (m : MethodId) (x0 : Addr)  : entryFrame m #[(.ref x0)] 1 = mkF m 0 #[.val (.ref x0)] [] := by first | (simp [entryFrame, mkF, argsToLocals, Value.category]; done) | rfl
def Q2 (Z : State) (a0 : Addr) (h0 : Heap) (n0 : Nat) (v : Option Value) (h : Heap) (L : List Loc) : Prop := v = none ∧ Fr n0 L ∧ h = h0
set_option maxRecDepth 65536 in
set_option maxHeartbeats 40000000 in
theorem rm2 (l : Launch) (Z : State) (aw : Array Value) (hw : ∀ d ∈ tables_1, d.before aw Z = true) (ws : List Jvm.Cond) (a0 : Addr) (h0 : Heap) (n0 : Nat) (Z0 : n0 ≤ h0.size) :
    MetFree l (⟨"java/lang/Record", "<init>", "()V"⟩ : MethodName) (head1 (Jvm.Cond.code (⟨"java/lang/Record", "<init>", "()V"⟩ : MethodName) jdk_30_method_1_code 1 none :: ws) ({ frames := 1, cells := 0, slots := 0, locals := 12 } : Room)) (fun a U => a = #[(.ref a0)] ∧ Z.Warmed39 U.vm ∧ U.heap = h0) (fun _ _ _ _ _ => True) (fun _ U o U' => ∃ v L, o = .returned v ∧ Q2 Z a0 h0 n0 v U'.heap L ∧ FrameEnd U o U' L ({ frames := 1, cells := 0, slots := 0, locals := 12 } : Room).cells ({ frames := 1, cells := 0, slots := 0, locals := 12 } : Room).slots) := by
  refine MetFree.of_bodySF (plainFor_of_name pn_0) hisR ?_
  intro p e s m args below meth c s₁ Bd hml0 hP hK
  obtain ⟨rfl, hZ, hh⟩ := hP
  have hx := Bd.exec
  have hby := Bd.bytes
  have hml : c.maxLocals = 1 := hml0
  have hown : s.vm.findClass "java/lang/Record" = some m.cls := findClass_of_methodNamed Bd.named
  have hnm := (name_of_methodNamed Bd.named Bd.method).1
  have X0 : Stand p l e ({ frames := 1, cells := 0, slots := 0, locals := 12 } : Room) s m #[(.ref a0)] below meth c s₁ [] 0 0 := Stand.of_body Bd
  have e0 : s₁.heap = h0 := by rw [← hh, Bd.state]; rfl
  have N0 := Fr.nil n0
  have pre0 : ∀ t, Steps p.tables e below (s₁.setTop (mkF m 0 #[.val (.ref a0)] [])) t → Steps p.tables e below (s₁.setTop (entryFrame m #[(.ref a0)] 1)) t := fun t k => castTop (ef_2 m a0 ) k
  obtain ⟨T1, X1, e1, st1⟩ := initO X0 hx hZ hown (hw _ (List.mem_of_getElem? (i := 11) rfl)) (hw _ (List.mem_of_getElem? (i := 12) rfl)) (hw _ (List.mem_of_getElem? (i := 13) rfl)) e0 (g := (mkF m 1 #[.val (.ref a0)] [(.ref a0)])) rfl (by rw [hml]; rfl) rfl (hb hby d2_1) (by decide) (W := 0) (by show 2 * 0 + _ ≤ _; exact Nat.le_of_eq rfl) (by decide)
  have pre2 : ∀ t, Steps p.tables e below (T1.setTop (mkF m 4 #[.val (.ref a0)] [])) t → Steps p.tables e below (s₁.setTop (entryFrame m #[(.ref a0)] 1)) t := fun t kt => pre0 t (by
      show Steps p.tables e below (s₁.setTop (mkF m 0 #[.val (.ref a0)] [])) _
      refine XS.aloadN X0.here hx rfl (hb hby d2_0) rfl rfl ?_
      show Steps p.tables e below (s₁.setTop (mkF m 1 #[.val (.ref a0)] [(.ref a0)])) _
      refine st1 _ ?_
      exact kt)
  obtain ⟨fs, hr, hrun, hended, hW, hsame⟩ := X1.leave (v := none) (fun _ => rfl)
  refine ⟨_, _, pre2 _ ?_, hrun, hended, _, _, rfl, ?_, ⟨_, rfl⟩, hW, hsame.mono (by decide) (by decide)⟩
  · show Steps p.tables e below (T1.setTop (mkF m 4 #[.val (.ref a0)] [])) _
    exact X1.returnOut hx Bd.returns (hb hby d2_4) hr
  · show Q2 Z _ h0 n0 _ T1.heap _
    rw [e1]
    exact ⟨rfl, N0, rfl⟩
theorem pd_0 : parseMethodDescriptor "()V" = some ⟨[], none⟩ := by decide +kernel
theorem pn_1 : plainName "com/example/token_handoff/tokenhandoff/BenchReport$Latency" = true := by first | (simp [plainName, overriddenIn]; done) | decide +kernel
theorem d1_0 : decode prog_2_method_1_code 0 = .ok (.aload_n 0, 1) := by decide +kernel
theorem d1_1 : decode prog_2_method_1_code 1 = .ok (.invokespecial 1, 3) := by decide +kernel
theorem d1_4 : decode prog_2_method_1_code 4 = .ok (.aload_n 0, 1) := by decide +kernel
theorem d1_5 : decode prog_2_method_1_code 5 = .ok (.dload_n 1, 1) := by decide +kernel
theorem d1_6 : decode prog_2_method_1_code 6 = .ok (.putfield 7, 3) := by decide +kernel
theorem d1_9 : decode prog_2_method_1_code 9 = .ok (.aload_n 0, 1) := by decide +kernel
theorem d1_10 : decode prog_2_method_1_code 10 = .ok (.lload_n 3, 1) := by decide +kernel
theorem d1_11 : decode prog_2_method_1_code 11 = .ok (.putfield 13, 3) := by decide +kernel
theorem d1_14 : decode prog_2_method_1_code 14 = .ok (.aload_n 0, 1) := by decide +kernel
theorem d1_15 : decode prog_2_method_1_code 15 = .ok (.lload 5, 2) := by decide +kernel
theorem d1_17 : decode prog_2_method_1_code 17 = .ok (.putfield 17, 3) := by decide +kernel
theorem d1_20 : decode prog_2_method_1_code 20 = .ok (.return_, 1) := by decide +kernel
theorem ef_1 (m : MethodId) (x0 : Addr) (x1 : UInt64) (x2 : Int64) (x3 : Int64)  : entryFrame m #[(.ref x0), (.double x1), (.long x2), (.long x3)] 7 = mkF m 0 #[.val (.ref x0), .val (.double x1), .second, .val (.long x2), .second, .val (.long x3), .second] [] := by first | (simp [entryFrame, mkF, argsToLocals, Value.category]; done) | rfl
def Q1 (Z : State) (a0 : Addr) (d1 : UInt64) (q2 : Int64) (q3 : Int64) (u_mean_0 : Value) (u_p50_1 : Value) (u_p99_2 : Value) (h0 : Heap) (n0 : Nat) (v : Option Value) (h : Heap) (L : List Loc) : Prop := v = none ∧ Fr n0 L ∧ (Keep h0 h [a0]) ∧ (Exa Z h a0 "com/example/token_handoff/tokenhandoff/BenchReport$Latency") ∧ (Fld Z h a0 "com/example/token_handoff/tokenhandoff/BenchReport$Latency" "mean" "D" (.double d1))
set_option maxRecDepth 65536 in
set_option maxHeartbeats 40000000 in
theorem rm1 (l : Launch) (Z : State) (aw : Array Value) (hw : ∀ d ∈ tables_1, d.before aw Z = true) (ws : List Jvm.Cond) (a0 : Addr) (d1 : UInt64) (q2 : Int64) (q3 : Int64) (u_mean_0 : Value) (u_p50_1 : Value) (u_p99_2 : Value) (h0 : Heap) (n0 : Nat) (Z0 : n0 ≤ h0.size) (Exa_0 : Exa Z h0 a0 "com/example/token_handoff/tokenhandoff/BenchReport$Latency") (Fo_mean_1 : Fld Z h0 a0 "com/example/token_handoff/tokenhandoff/BenchReport$Latency" "mean" "D" u_mean_0) (g_a0 : n0 ≤ a0) (Fo_p50_3 : Fld Z h0 a0 "com/example/token_handoff/tokenhandoff/BenchReport$Latency" "p50" "J" u_p50_1) (Fo_p99_4 : Fld Z h0 a0 "com/example/token_handoff/tokenhandoff/BenchReport$Latency" "p99" "J" u_p99_2) :
    MetFree l (⟨"com/example/token_handoff/tokenhandoff/BenchReport$Latency", "<init>", "(DJJ)V"⟩ : MethodName) (head1 (Jvm.Cond.code (⟨"com/example/token_handoff/tokenhandoff/BenchReport$Latency", "<init>", "(DJJ)V"⟩ : MethodName) prog_2_method_1_code 7 none :: ws) ({ frames := 2, cells := 0, slots := 0, locals := 24 } : Room)) (fun a U => a = #[(.ref a0), (.double d1), (.long q2), (.long q3)] ∧ Z.Warmed39 U.vm ∧ U.heap = h0) (fun _ _ _ _ _ => True) (fun _ U o U' => ∃ v L, o = .returned v ∧ Q1 Z a0 d1 q2 q3 u_mean_0 u_p50_1 u_p99_2 h0 n0 v U'.heap L ∧ FrameEnd U o U' L ({ frames := 2, cells := 0, slots := 0, locals := 24 } : Room).cells ({ frames := 2, cells := 0, slots := 0, locals := 24 } : Room).slots) := by
  refine MetFree.of_bodySF (plainFor_of_name pn_1) hisR ?_
  intro p e s m args below meth c s₁ Bd hml0 hP hK
  obtain ⟨rfl, hZ, hh⟩ := hP
  have hx := Bd.exec
  have hby := Bd.bytes
  have hml : c.maxLocals = 7 := hml0
  have hown : s.vm.findClass "com/example/token_handoff/tokenhandoff/BenchReport$Latency" = some m.cls := findClass_of_methodNamed Bd.named
  have hnm := (name_of_methodNamed Bd.named Bd.method).1
  have X0 : Stand p l e ({ frames := 2, cells := 0, slots := 0, locals := 24 } : Room) s m #[(.ref a0), (.double d1), (.long q2), (.long q3)] below meth c s₁ [] 0 0 := Stand.of_body Bd
  have e0 : s₁.heap = h0 := by rw [← hh, Bd.state]; rfl
  have N0 := Fr.nil n0
  have pre0 : ∀ t, Steps p.tables e below (s₁.setTop (mkF m 0 #[.val (.ref a0), .val (.double d1), .second, .val (.long q2), .second, .val (.long q3), .second] [])) t → Steps p.tables e below (s₁.setTop (entryFrame m #[(.ref a0), (.double d1), (.long q2), (.long q3)] 7)) t := fun t k => castTop (ef_1 m a0 d1 q2 q3 ) k
  obtain ⟨_, _, ⟨T1, L1, k1, n1⟩, -, X1, ⟨Lc1, hQ1, l1, y1, z1⟩, st1⟩ := X0.specialBack hx (y := (⟨"java/lang/Record", "<init>", "()V"⟩ : MethodName)) rfl hown (mvT hZ (hw _ (List.mem_of_getElem? (i := 6) rfl))) (mvT hZ (hw _ (List.mem_of_getElem? (i := 7) rfl))) (mvT hZ (hw _ (List.mem_of_getElem? (i := 10) rfl))) (by decide) (backOf (W := 0) (rm2 l Z aw hw [] a0 h0 n0 Z0 ) hZ (hw _ (List.mem_of_getElem? (i := 10) rfl)) (hw _ (List.mem_of_getElem? (i := 9) rfl)) (by decide) (by decide)) (g := (mkF m 1 #[.val (.ref a0), .val (.double d1), .second, .val (.long q2), .second, .val (.long q3), .second] [(.ref a0)])) rfl (by rw [hml]; rfl) (Steps.refl _) (a := a0) (argsL := []) (rest := []) (lenOf pd_0 rfl) rfl (by show 2 * 0 + _ ≤ _; exact Nat.le_of_eq rfl) (hb hby d1_1) (fun _ _ => ⟨rfl, e0, (by decide : 0 + 0 ≤ _), (by decide : 0 + 0 ≤ _)⟩)
  dsimp only [Pt.U, Pt.locs, Pt.cells, Pt.slots] at X1 l1 y1 z1 st1 hQ1
  subst l1 y1 z1
  obtain ⟨rfl, Nq1, e1⟩ := hQ1
  have N1 := Fr.app N0 Nq1
  obtain ⟨T2, h2, X2, e2, W2, st2⟩ := putF X1 hx hZ hown (host := "") (Or.inl (hw _ (List.mem_of_getElem? (i := 14) rfl))) Via.refl e1 Fo_mean_1 Exa_0 (Or.inr ⟨(hw _ (List.mem_of_getElem? (i := 15) rfl)), rfl, hnm⟩) (hw _ (List.mem_of_getElem? (i := 1) rfl)) (ty := .double) (by decide) rfl rfl (g := (mkF m 6 #[.val (.ref a0), .val (.double d1), .second, .val (.long q2), .second, .val (.long q3), .second] [(.double d1), (.ref a0)])) rfl rfl (hb hby d1_6)
  have Fw2 := Fo_mean_1.same W2
  have f3 := (Exa_0.wr W2)
  have N2 := Fr.snoc X2 N1 g_a0
  have K2 : Keep h0 h2 [a0] := Keep.wr (Keep.refl h0 [a0]) W2 (Or.inl (List.mem_of_getElem? (i := 0) rfl))
  obtain ⟨T4, h4, X4, e4, W4, st4⟩ := putF X2 hx hZ hown (host := "") (Or.inl (hw _ (List.mem_of_getElem? (i := 16) rfl))) Via.refl e2 (Fo_p50_3.other W2 (Or.inr (slot_ne (Or.inr (hw _ (List.mem_of_getElem? (i := 17) rfl))) (Or.inr (hw _ (List.mem_of_getElem? (i := 15) rfl))) (by decide) (t := .long) (t' := .double) (by decide) (by decide)))) f3 (Or.inr ⟨(hw _ (List.mem_of_getElem? (i := 17) rfl)), rfl, hnm⟩) (hw _ (List.mem_of_getElem? (i := 1) rfl)) (ty := .long) (by decide) rfl rfl (g := (mkF m 11 #[.val (.ref a0), .val (.double d1), .second, .val (.long q2), .second, .val (.long q3), .second] [(.long q2), (.ref a0)])) rfl rfl (hb hby d1_11)
  have Fw4 := (Fo_p50_3.other W2 (Or.inr (slot_ne (Or.inr (hw _ (List.mem_of_getElem? (i := 17) rfl))) (Or.inr (hw _ (List.mem_of_getElem? (i := 15) rfl))) (by decide) (t := .long) (t' := .double) (by decide) (by decide)))).same W4
  have f5 := (f3.wr W4)
  have f6 := (Fw2.other W4 (Or.inr (slot_ne (Or.inr (hw _ (List.mem_of_getElem? (i := 15) rfl))) (Or.inr (hw _ (List.mem_of_getElem? (i := 17) rfl))) (by decide) (t := .double) (t' := .long) (by decide) (by decide))))
  have N4 := Fr.snoc X4 N2 g_a0
  have K4 : Keep h0 h4 [a0] := Keep.wr K2 W4 (Or.inl (List.mem_of_getElem? (i := 0) rfl))
  obtain ⟨T7, h7, X7, e7, W7, st7⟩ := putF X4 hx hZ hown (host := "") (Or.inl (hw _ (List.mem_of_getElem? (i := 18) rfl))) Via.refl e4 ((Fo_p99_4.other W2 (Or.inr (slot_ne (Or.inr (hw _ (List.mem_of_getElem? (i := 19) rfl))) (Or.inr (hw _ (List.mem_of_getElem? (i := 15) rfl))) (by decide) (t := .long) (t' := .double) (by decide) (by decide)))).other W4 (Or.inr (slot_ne (Or.inr (hw _ (List.mem_of_getElem? (i := 19) rfl))) (Or.inr (hw _ (List.mem_of_getElem? (i := 17) rfl))) (by decide) (t := .long) (t' := .long) (by decide) (by decide)))) f5 (Or.inr ⟨(hw _ (List.mem_of_getElem? (i := 19) rfl)), rfl, hnm⟩) (hw _ (List.mem_of_getElem? (i := 1) rfl)) (ty := .long) (by decide) rfl rfl (g := (mkF m 17 #[.val (.ref a0), .val (.double d1), .second, .val (.long q2), .second, .val (.long q3), .second] [(.long q3), (.ref a0)])) rfl rfl (hb hby d1_17)
  have Fw7 := ((Fo_p99_4.other W2 (Or.inr (slot_ne (Or.inr (hw _ (List.mem_of_getElem? (i := 19) rfl))) (Or.inr (hw _ (List.mem_of_getElem? (i := 15) rfl))) (by decide) (t := .long) (t' := .double) (by decide) (by decide)))).other W4 (Or.inr (slot_ne (Or.inr (hw _ (List.mem_of_getElem? (i := 19) rfl))) (Or.inr (hw _ (List.mem_of_getElem? (i := 17) rfl))) (by decide) (t := .long) (t' := .long) (by decide) (by decide)))).same W7
  have f8 := (f5.wr W7)
  have f9 := (f6.other W7 (Or.inr (slot_ne (Or.inr (hw _ (List.mem_of_getElem? (i := 15) rfl))) (Or.inr (hw _ (List.mem_of_getElem? (i := 19) rfl))) (by decide) (t := .double) (t' := .long) (by decide) (by decide))))
  have f10 := (Fw4.other W7 (Or.inr (slot_ne (Or.inr (hw _ (List.mem_of_getElem? (i := 17) rfl))) (Or.inr (hw _ (List.mem_of_getElem? (i := 19) rfl))) (by decide) (t := .long) (t' := .long) (by decide) (by decide))))
  have N7 := Fr.snoc X7 N4 g_a0
  have K7 : Keep h0 h7 [a0] := Keep.wr K4 W7 (Or.inl (List.mem_of_getElem? (i := 0) rfl))
  have pre11 : ∀ t, Steps p.tables e below (T7.setTop (mkF m 20 #[.val (.ref a0), .val (.double d1), .second, .val (.long q2), .second, .val (.long q3), .second] [])) t → Steps p.tables e below (s₁.setTop (entryFrame m #[(.ref a0), (.double d1), (.long q2), (.long q3)] 7)) t := fun t kt => pre0 t (by
      show Steps p.tables e below (s₁.setTop (mkF m 0 #[.val (.ref a0), .val (.double d1), .second, .val (.long q2), .second, .val (.long q3), .second] [])) _
      refine XS.aloadN X0.here hx rfl (hb hby d1_0) rfl rfl ?_
      show Steps p.tables e below (s₁.setTop (mkF m 1 #[.val (.ref a0), .val (.double d1), .second, .val (.long q2), .second, .val (.long q3), .second] [(.ref a0)])) _
      refine st1.trans ?_
      show Steps p.tables e below (T1.setTop (mkF m 4 #[.val (.ref a0), .val (.double d1), .second, .val (.long q2), .second, .val (.long q3), .second] [])) _
      refine XS.aloadN X1.here hx rfl (hb hby d1_4) rfl rfl ?_
      show Steps p.tables e below (T1.setTop (mkF m 5 #[.val (.ref a0), .val (.double d1), .second, .val (.long q2), .second, .val (.long q3), .second] [(.ref a0)])) _
      refine XS.dloadN X1.here hx rfl (hb hby d1_5) rfl ?_
      show Steps p.tables e below (T1.setTop (mkF m 6 #[.val (.ref a0), .val (.double d1), .second, .val (.long q2), .second, .val (.long q3), .second] [(.double d1), (.ref a0)])) _
      refine st2 _ ?_
      show Steps p.tables e below (T2.setTop (mkF m 9 #[.val (.ref a0), .val (.double d1), .second, .val (.long q2), .second, .val (.long q3), .second] [])) _
      refine XS.aloadN X2.here hx rfl (hb hby d1_9) rfl rfl ?_
      show Steps p.tables e below (T2.setTop (mkF m 10 #[.val (.ref a0), .val (.double d1), .second, .val (.long q2), .second, .val (.long q3), .second] [(.ref a0)])) _
      refine XS.lloadN X2.here hx rfl (hb hby d1_10) rfl ?_
      show Steps p.tables e below (T2.setTop (mkF m 11 #[.val (.ref a0), .val (.double d1), .second, .val (.long q2), .second, .val (.long q3), .second] [(.long q2), (.ref a0)])) _
      refine st4 _ ?_
      show Steps p.tables e below (T4.setTop (mkF m 14 #[.val (.ref a0), .val (.double d1), .second, .val (.long q2), .second, .val (.long q3), .second] [])) _
      refine XS.aloadN X4.here hx rfl (hb hby d1_14) rfl rfl ?_
      show Steps p.tables e below (T4.setTop (mkF m 15 #[.val (.ref a0), .val (.double d1), .second, .val (.long q2), .second, .val (.long q3), .second] [(.ref a0)])) _
      refine XS.lload X4.here hx rfl (hb hby d1_15) rfl ?_
      show Steps p.tables e below (T4.setTop (mkF m 17 #[.val (.ref a0), .val (.double d1), .second, .val (.long q2), .second, .val (.long q3), .second] [(.long q3), (.ref a0)])) _
      refine st7 _ ?_
      exact kt)
  obtain ⟨fs, hr, hrun, hended, hW, hsame⟩ := X7.leave (v := none) (fun _ => rfl)
  refine ⟨_, _, pre11 _ ?_, hrun, hended, _, _, rfl, ?_, ⟨_, rfl⟩, hW, hsame.mono (by decide) (by decide)⟩
  · show Steps p.tables e below (T7.setTop (mkF m 20 #[.val (.ref a0), .val (.double d1), .second, .val (.long q2), .second, .val (.long q3), .second] [])) _
    exact X7.returnOut hx Bd.returns (hb hby d1_20) hr
  · show Q1 Z _ _ _ _ _ _ _ h0 n0 _ T7.heap _
    rw [e7]
    exact ⟨rfl, N7, K7, f8, f9⟩
theorem pn_2 : plainName "com/example/token_handoff/tokenhandoff/BenchReport" = true := by first | (simp [plainName, overriddenIn]; done) | decide +kernel
theorem d4_0 : decode prog_1_method_1_code 0 = .ok (.aload_n 0, 1) := by decide +kernel
theorem d4_1 : decode prog_1_method_1_code 1 = .ok (.invokespecial 1, 3) := by decide +kernel
theorem d4_4 : decode prog_1_method_1_code 4 = .ok (.aload_n 0, 1) := by decide +kernel
theorem d4_5 : decode prog_1_method_1_code 5 = .ok (.iload_n 1, 1) := by decide +kernel
theorem d4_6 : decode prog_1_method_1_code 6 = .ok (.putfield 7, 3) := by decide +kernel
theorem d4_9 : decode prog_1_method_1_code 9 = .ok (.aload_n 0, 1) := by decide +kernel
theorem d4_10 : decode prog_1_method_1_code 10 = .ok (.aload_n 2, 1) := by decide +kernel
theorem d4_11 : decode prog_1_method_1_code 11 = .ok (.putfield 13, 3) := by decide +kernel
theorem d4_14 : decode prog_1_method_1_code 14 = .ok (.aload_n 0, 1) := by decide +kernel
theorem d4_15 : decode prog_1_method_1_code 15 = .ok (.aload_n 3, 1) := by decide +kernel
theorem d4_16 : decode prog_1_method_1_code 16 = .ok (.putfield 17, 3) := by decide +kernel
theorem d4_19 : decode prog_1_method_1_code 19 = .ok (.aload_n 0, 1) := by decide +kernel
theorem d4_20 : decode prog_1_method_1_code 20 = .ok (.lload 4, 2) := by decide +kernel
theorem d4_22 : decode prog_1_method_1_code 22 = .ok (.putfield 20, 3) := by decide +kernel
theorem d4_25 : decode prog_1_method_1_code 25 = .ok (.return_, 1) := by decide +kernel
theorem ef_4 (m : MethodId) (x0 : Addr) (x1 : Int32) (x2 : Addr) (x3 : Addr) (x4 : Int64)  : entryFrame m #[(.ref x0), (.int x1), (.ref x2), (.ref x3), (.long x4)] 6 = mkF m 0 #[.val (.ref x0), .val (.int x1), .val (.ref x2), .val (.ref x3), .val (.long x4), .second] [] := by first | (simp [entryFrame, mkF, argsToLocals, Value.category]; done) | rfl
def Q4 (Z : State) (a0 : Addr) (p1 : Int32) (a2 : Addr) (a3 : Addr) (q4 : Int64) (u_handoffs_0 : Value) (u_roundTrip_1 : Value) (u_handoff_2 : Value) (u_kept_3 : Value) (h0 : Heap) (n0 : Nat) (v : Option Value) (h : Heap) (L : List Loc) : Prop := v = none ∧ Fr n0 L ∧ (Keep h0 h [a0]) ∧ (Exa Z h a0 "com/example/token_handoff/tokenhandoff/BenchReport") ∧ (Fld Z h a0 "com/example/token_handoff/tokenhandoff/BenchReport" "roundTrip" "Lcom/example/token_handoff/tokenhandoff/BenchReport$Latency;" (.ref a2)) ∧ (Fld Z h a0 "com/example/token_handoff/tokenhandoff/BenchReport" "handoff" "Lcom/example/token_handoff/tokenhandoff/BenchReport$Latency;" (.ref a3))
set_option maxRecDepth 65536 in
set_option maxHeartbeats 40000000 in
theorem rm4 (l : Launch) (Z : State) (aw : Array Value) (hw : ∀ d ∈ tables_1, d.before aw Z = true) (ws : List Jvm.Cond) (a0 : Addr) (p1 : Int32) (a2 : Addr) (a3 : Addr) (q4 : Int64) (u_handoffs_0 : Value) (u_roundTrip_1 : Value) (u_handoff_2 : Value) (u_kept_3 : Value) (h0 : Heap) (n0 : Nat) (Z0 : n0 ≤ h0.size) (Exa_0 : Exa Z h0 a0 "com/example/token_handoff/tokenhandoff/BenchReport") (Fo_handoffs_1 : Fld Z h0 a0 "com/example/token_handoff/tokenhandoff/BenchReport" "handoffs" "I" u_handoffs_0) (g_a0 : n0 ≤ a0) (Fo_roundTrip_3 : Fld Z h0 a0 "com/example/token_handoff/tokenhandoff/BenchReport" "roundTrip" "Lcom/example/token_handoff/tokenhandoff/BenchReport$Latency;" u_roundTrip_1) (Fo_handoff_4 : Fld Z h0 a0 "com/example/token_handoff/tokenhandoff/BenchReport" "handoff" "Lcom/example/token_handoff/tokenhandoff/BenchReport$Latency;" u_handoff_2) (Fo_kept_5 : Fld Z h0 a0 "com/example/token_handoff/tokenhandoff/BenchReport" "kept" "J" u_kept_3) :
    MetFree l (⟨"com/example/token_handoff/tokenhandoff/BenchReport", "<init>", "(ILcom/example/token_handoff/tokenhandoff/BenchReport$Latency;Lcom/example/token_handoff/tokenhandoff/BenchReport$Latency;J)V"⟩ : MethodName) (head1 (Jvm.Cond.code (⟨"com/example/token_handoff/tokenhandoff/BenchReport", "<init>", "(ILcom/example/token_handoff/tokenhandoff/BenchReport$Latency;Lcom/example/token_handoff/tokenhandoff/BenchReport$Latency;J)V"⟩ : MethodName) prog_1_method_1_code 6 none :: ws) ({ frames := 2, cells := 0, slots := 0, locals := 24 } : Room)) (fun a U => a = #[(.ref a0), (.int p1), (.ref a2), (.ref a3), (.long q4)] ∧ Z.Warmed39 U.vm ∧ U.heap = h0) (fun _ _ _ _ _ => True) (fun _ U o U' => ∃ v L, o = .returned v ∧ Q4 Z a0 p1 a2 a3 q4 u_handoffs_0 u_roundTrip_1 u_handoff_2 u_kept_3 h0 n0 v U'.heap L ∧ FrameEnd U o U' L ({ frames := 2, cells := 0, slots := 0, locals := 24 } : Room).cells ({ frames := 2, cells := 0, slots := 0, locals := 24 } : Room).slots) := by
  refine MetFree.of_bodySF (plainFor_of_name pn_2) hisR ?_
  intro p e s m args below meth c s₁ Bd hml0 hP hK
  obtain ⟨rfl, hZ, hh⟩ := hP
  have hx := Bd.exec
  have hby := Bd.bytes
  have hml : c.maxLocals = 6 := hml0
  have hown : s.vm.findClass "com/example/token_handoff/tokenhandoff/BenchReport" = some m.cls := findClass_of_methodNamed Bd.named
  have hnm := (name_of_methodNamed Bd.named Bd.method).1
  have X0 : Stand p l e ({ frames := 2, cells := 0, slots := 0, locals := 24 } : Room) s m #[(.ref a0), (.int p1), (.ref a2), (.ref a3), (.long q4)] below meth c s₁ [] 0 0 := Stand.of_body Bd
  have e0 : s₁.heap = h0 := by rw [← hh, Bd.state]; rfl
  have N0 := Fr.nil n0
  have pre0 : ∀ t, Steps p.tables e below (s₁.setTop (mkF m 0 #[.val (.ref a0), .val (.int p1), .val (.ref a2), .val (.ref a3), .val (.long q4), .second] [])) t → Steps p.tables e below (s₁.setTop (entryFrame m #[(.ref a0), (.int p1), (.ref a2), (.ref a3), (.long q4)] 6)) t := fun t k => castTop (ef_4 m a0 p1 a2 a3 q4 ) k
  obtain ⟨_, _, ⟨T1, L1, k1, n1⟩, -, X1, ⟨Lc1, hQ1, l1, y1, z1⟩, st1⟩ := X0.specialBack hx (y := (⟨"java/lang/Record", "<init>", "()V"⟩ : MethodName)) rfl hown (mvT hZ (hw _ (List.mem_of_getElem? (i := 26) rfl))) (mvT hZ (hw _ (List.mem_of_getElem? (i := 7) rfl))) (mvT hZ (hw _ (List.mem_of_getElem? (i := 10) rfl))) (by decide) (backOf (W := 0) (rm2 l Z aw hw [] a0 h0 n0 Z0 ) hZ (hw _ (List.mem_of_getElem? (i := 10) rfl)) (hw _ (List.mem_of_getElem? (i := 9) rfl)) (by decide) (by decide)) (g := (mkF m 1 #[.val (.ref a0), .val (.int p1), .val (.ref a2), .val (.ref a3), .val (.long q4), .second] [(.ref a0)])) rfl (by rw [hml]; rfl) (Steps.refl _) (a := a0) (argsL := []) (rest := []) (lenOf pd_0 rfl) rfl (by show 2 * 0 + _ ≤ _; exact Nat.le_of_eq rfl) (hb hby d4_1) (fun _ _ => ⟨rfl, e0, (by decide : 0 + 0 ≤ _), (by decide : 0 + 0 ≤ _)⟩)
  dsimp only [Pt.U, Pt.locs, Pt.cells, Pt.slots] at X1 l1 y1 z1 st1 hQ1
  subst l1 y1 z1
  obtain ⟨rfl, Nq1, e1⟩ := hQ1
  have N1 := Fr.app N0 Nq1
  obtain ⟨T2, h2, X2, e2, W2, st2⟩ := putF X1 hx hZ hown (host := "") (Or.inl (hw _ (List.mem_of_getElem? (i := 27) rfl))) Via.refl e1 Fo_handoffs_1 Exa_0 (Or.inr ⟨(hw _ (List.mem_of_getElem? (i := 28) rfl)), rfl, hnm⟩) (hw _ (List.mem_of_getElem? (i := 21) rfl)) (ty := .int) (by decide) rfl rfl (g := (mkF m 6 #[.val (.ref a0), .val (.int p1), .val (.ref a2), .val (.ref a3), .val (.long q4), .second] [(.int p1), (.ref a0)])) rfl rfl (hb hby d4_6)
  have Fw2 := Fo_handoffs_1.same W2
  have f3 := (Exa_0.wr W2)
  have N2 := Fr.snoc X2 N1 g_a0
  have K2 : Keep h0 h2 [a0] := Keep.wr (Keep.refl h0 [a0]) W2 (Or.inl (List.mem_of_getElem? (i := 0) rfl))
  obtain ⟨T4, h4, X4, e4, W4, st4⟩ := putF X2 hx hZ hown (host := "") (Or.inl (hw _ (List.mem_of_getElem? (i := 29) rfl))) Via.refl e2 (Fo_roundTrip_3.other W2 (Or.inr (slot_ne (Or.inr (hw _ (List.mem_of_getElem? (i := 30) rfl))) (Or.inr (hw _ (List.mem_of_getElem? (i := 28) rfl))) (by decide) (t := (.object "com/example/token_handoff/tokenhandoff/BenchReport$Latency")) (t' := .int) (by decide) (by decide)))) f3 (Or.inr ⟨(hw _ (List.mem_of_getElem? (i := 30) rfl)), rfl, hnm⟩) (hw _ (List.mem_of_getElem? (i := 21) rfl)) (ty := (.object "com/example/token_handoff/tokenhandoff/BenchReport$Latency")) (by decide) rfl rfl (g := (mkF m 11 #[.val (.ref a0), .val (.int p1), .val (.ref a2), .val (.ref a3), .val (.long q4), .second] [(.ref a2), (.ref a0)])) rfl rfl (hb hby d4_11)
  have Fw4 := (Fo_roundTrip_3.other W2 (Or.inr (slot_ne (Or.inr (hw _ (List.mem_of_getElem? (i := 30) rfl))) (Or.inr (hw _ (List.mem_of_getElem? (i := 28) rfl))) (by decide) (t := (.object "com/example/token_handoff/tokenhandoff/BenchReport$Latency")) (t' := .int) (by decide) (by decide)))).same W4
  have f5 := (f3.wr W4)
  have f6 := (Fw2.other W4 (Or.inr (slot_ne (Or.inr (hw _ (List.mem_of_getElem? (i := 28) rfl))) (Or.inr (hw _ (List.mem_of_getElem? (i := 30) rfl))) (by decide) (t := .int) (t' := (.object "com/example/token_handoff/tokenhandoff/BenchReport$Latency")) (by decide) (by decide))))
  have N4 := Fr.snoc X4 N2 g_a0
  have K4 : Keep h0 h4 [a0] := Keep.wr K2 W4 (Or.inl (List.mem_of_getElem? (i := 0) rfl))
  obtain ⟨T7, h7, X7, e7, W7, st7⟩ := putF X4 hx hZ hown (host := "") (Or.inl (hw _ (List.mem_of_getElem? (i := 31) rfl))) Via.refl e4 ((Fo_handoff_4.other W2 (Or.inr (slot_ne (Or.inr (hw _ (List.mem_of_getElem? (i := 32) rfl))) (Or.inr (hw _ (List.mem_of_getElem? (i := 28) rfl))) (by decide) (t := (.object "com/example/token_handoff/tokenhandoff/BenchReport$Latency")) (t' := .int) (by decide) (by decide)))).other W4 (Or.inr (slot_ne (Or.inr (hw _ (List.mem_of_getElem? (i := 32) rfl))) (Or.inr (hw _ (List.mem_of_getElem? (i := 30) rfl))) (by decide) (t := (.object "com/example/token_handoff/tokenhandoff/BenchReport$Latency")) (t' := (.object "com/example/token_handoff/tokenhandoff/BenchReport$Latency")) (by decide) (by decide)))) f5 (Or.inr ⟨(hw _ (List.mem_of_getElem? (i := 32) rfl)), rfl, hnm⟩) (hw _ (List.mem_of_getElem? (i := 21) rfl)) (ty := (.object "com/example/token_handoff/tokenhandoff/BenchReport$Latency")) (by decide) rfl rfl (g := (mkF m 16 #[.val (.ref a0), .val (.int p1), .val (.ref a2), .val (.ref a3), .val (.long q4), .second] [(.ref a3), (.ref a0)])) rfl rfl (hb hby d4_16)
  have Fw7 := ((Fo_handoff_4.other W2 (Or.inr (slot_ne (Or.inr (hw _ (List.mem_of_getElem? (i := 32) rfl))) (Or.inr (hw _ (List.mem_of_getElem? (i := 28) rfl))) (by decide) (t := (.object "com/example/token_handoff/tokenhandoff/BenchReport$Latency")) (t' := .int) (by decide) (by decide)))).other W4 (Or.inr (slot_ne (Or.inr (hw _ (List.mem_of_getElem? (i := 32) rfl))) (Or.inr (hw _ (List.mem_of_getElem? (i := 30) rfl))) (by decide) (t := (.object "com/example/token_handoff/tokenhandoff/BenchReport$Latency")) (t' := (.object "com/example/token_handoff/tokenhandoff/BenchReport$Latency")) (by decide) (by decide)))).same W7
  have f8 := (f5.wr W7)
  have f9 := (f6.other W7 (Or.inr (slot_ne (Or.inr (hw _ (List.mem_of_getElem? (i := 28) rfl))) (Or.inr (hw _ (List.mem_of_getElem? (i := 32) rfl))) (by decide) (t := .int) (t' := (.object "com/example/token_handoff/tokenhandoff/BenchReport$Latency")) (by decide) (by decide))))
  have f10 := (Fw4.other W7 (Or.inr (slot_ne (Or.inr (hw _ (List.mem_of_getElem? (i := 30) rfl))) (Or.inr (hw _ (List.mem_of_getElem? (i := 32) rfl))) (by decide) (t := (.object "com/example/token_handoff/tokenhandoff/BenchReport$Latency")) (t' := (.object "com/example/token_handoff/tokenhandoff/BenchReport$Latency")) (by decide) (by decide))))
  have N7 := Fr.snoc X7 N4 g_a0
  have K7 : Keep h0 h7 [a0] := Keep.wr K4 W7 (Or.inl (List.mem_of_getElem? (i := 0) rfl))
  obtain ⟨T11, h11, X11, e11, W11, st11⟩ := putF X7 hx hZ hown (host := "") (Or.inl (hw _ (List.mem_of_getElem? (i := 33) rfl))) Via.refl e7 (((Fo_kept_5.other W2 (Or.inr (slot_ne (Or.inr (hw _ (List.mem_of_getElem? (i := 34) rfl))) (Or.inr (hw _ (List.mem_of_getElem? (i := 28) rfl))) (by decide) (t := .long) (t' := .int) (by decide) (by decide)))).other W4 (Or.inr (slot_ne (Or.inr (hw _ (List.mem_of_getElem? (i := 34) rfl))) (Or.inr (hw _ (List.mem_of_getElem? (i := 30) rfl))) (by decide) (t := .long) (t' := (.object "com/example/token_handoff/tokenhandoff/BenchReport$Latency")) (by decide) (by decide)))).other W7 (Or.inr (slot_ne (Or.inr (hw _ (List.mem_of_getElem? (i := 34) rfl))) (Or.inr (hw _ (List.mem_of_getElem? (i := 32) rfl))) (by decide) (t := .long) (t' := (.object "com/example/token_handoff/tokenhandoff/BenchReport$Latency")) (by decide) (by decide)))) f8 (Or.inr ⟨(hw _ (List.mem_of_getElem? (i := 34) rfl)), rfl, hnm⟩) (hw _ (List.mem_of_getElem? (i := 21) rfl)) (ty := .long) (by decide) rfl rfl (g := (mkF m 22 #[.val (.ref a0), .val (.int p1), .val (.ref a2), .val (.ref a3), .val (.long q4), .second] [(.long q4), (.ref a0)])) rfl rfl (hb hby d4_22)
  have Fw11 := (((Fo_kept_5.other W2 (Or.inr (slot_ne (Or.inr (hw _ (List.mem_of_getElem? (i := 34) rfl))) (Or.inr (hw _ (List.mem_of_getElem? (i := 28) rfl))) (by decide) (t := .long) (t' := .int) (by decide) (by decide)))).other W4 (Or.inr (slot_ne (Or.inr (hw _ (List.mem_of_getElem? (i := 34) rfl))) (Or.inr (hw _ (List.mem_of_getElem? (i := 30) rfl))) (by decide) (t := .long) (t' := (.object "com/example/token_handoff/tokenhandoff/BenchReport$Latency")) (by decide) (by decide)))).other W7 (Or.inr (slot_ne (Or.inr (hw _ (List.mem_of_getElem? (i := 34) rfl))) (Or.inr (hw _ (List.mem_of_getElem? (i := 32) rfl))) (by decide) (t := .long) (t' := (.object "com/example/token_handoff/tokenhandoff/BenchReport$Latency")) (by decide) (by decide)))).same W11
  have f12 := (f8.wr W11)
  have f13 := (f9.other W11 (Or.inr (slot_ne (Or.inr (hw _ (List.mem_of_getElem? (i := 28) rfl))) (Or.inr (hw _ (List.mem_of_getElem? (i := 34) rfl))) (by decide) (t := .int) (t' := .long) (by decide) (by decide))))
  have f14 := (f10.other W11 (Or.inr (slot_ne (Or.inr (hw _ (List.mem_of_getElem? (i := 30) rfl))) (Or.inr (hw _ (List.mem_of_getElem? (i := 34) rfl))) (by decide) (t := (.object "com/example/token_handoff/tokenhandoff/BenchReport$Latency")) (t' := .long) (by decide) (by decide))))
  have f15 := (Fw7.other W11 (Or.inr (slot_ne (Or.inr (hw _ (List.mem_of_getElem? (i := 32) rfl))) (Or.inr (hw _ (List.mem_of_getElem? (i := 34) rfl))) (by decide) (t := (.object "com/example/token_handoff/tokenhandoff/BenchReport$Latency")) (t' := .long) (by decide) (by decide))))
  have N11 := Fr.snoc X11 N7 g_a0
  have K11 : Keep h0 h11 [a0] := Keep.wr K7 W11 (Or.inl (List.mem_of_getElem? (i := 0) rfl))
  have pre16 : ∀ t, Steps p.tables e below (T11.setTop (mkF m 25 #[.val (.ref a0), .val (.int p1), .val (.ref a2), .val (.ref a3), .val (.long q4), .second] [])) t → Steps p.tables e below (s₁.setTop (entryFrame m #[(.ref a0), (.int p1), (.ref a2), (.ref a3), (.long q4)] 6)) t := fun t kt => pre0 t (by
      show Steps p.tables e below (s₁.setTop (mkF m 0 #[.val (.ref a0), .val (.int p1), .val (.ref a2), .val (.ref a3), .val (.long q4), .second] [])) _
      refine XS.aloadN X0.here hx rfl (hb hby d4_0) rfl rfl ?_
      show Steps p.tables e below (s₁.setTop (mkF m 1 #[.val (.ref a0), .val (.int p1), .val (.ref a2), .val (.ref a3), .val (.long q4), .second] [(.ref a0)])) _
      refine st1.trans ?_
      show Steps p.tables e below (T1.setTop (mkF m 4 #[.val (.ref a0), .val (.int p1), .val (.ref a2), .val (.ref a3), .val (.long q4), .second] [])) _
      refine XS.aloadN X1.here hx rfl (hb hby d4_4) rfl rfl ?_
      show Steps p.tables e below (T1.setTop (mkF m 5 #[.val (.ref a0), .val (.int p1), .val (.ref a2), .val (.ref a3), .val (.long q4), .second] [(.ref a0)])) _
      refine XS.iloadN X1.here hx rfl (hb hby d4_5) rfl ?_
      show Steps p.tables e below (T1.setTop (mkF m 6 #[.val (.ref a0), .val (.int p1), .val (.ref a2), .val (.ref a3), .val (.long q4), .second] [(.int p1), (.ref a0)])) _
      refine st2 _ ?_
      show Steps p.tables e below (T2.setTop (mkF m 9 #[.val (.ref a0), .val (.int p1), .val (.ref a2), .val (.ref a3), .val (.long q4), .second] [])) _
      refine XS.aloadN X2.here hx rfl (hb hby d4_9) rfl rfl ?_
      show Steps p.tables e below (T2.setTop (mkF m 10 #[.val (.ref a0), .val (.int p1), .val (.ref a2), .val (.ref a3), .val (.long q4), .second] [(.ref a0)])) _
      refine XS.aloadN X2.here hx rfl (hb hby d4_10) rfl rfl ?_
      show Steps p.tables e below (T2.setTop (mkF m 11 #[.val (.ref a0), .val (.int p1), .val (.ref a2), .val (.ref a3), .val (.long q4), .second] [(.ref a2), (.ref a0)])) _
      refine st4 _ ?_
      show Steps p.tables e below (T4.setTop (mkF m 14 #[.val (.ref a0), .val (.int p1), .val (.ref a2), .val (.ref a3), .val (.long q4), .second] [])) _
      refine XS.aloadN X4.here hx rfl (hb hby d4_14) rfl rfl ?_
      show Steps p.tables e below (T4.setTop (mkF m 15 #[.val (.ref a0), .val (.int p1), .val (.ref a2), .val (.ref a3), .val (.long q4), .second] [(.ref a0)])) _
      refine XS.aloadN X4.here hx rfl (hb hby d4_15) rfl rfl ?_
      show Steps p.tables e below (T4.setTop (mkF m 16 #[.val (.ref a0), .val (.int p1), .val (.ref a2), .val (.ref a3), .val (.long q4), .second] [(.ref a3), (.ref a0)])) _
      refine st7 _ ?_
      show Steps p.tables e below (T7.setTop (mkF m 19 #[.val (.ref a0), .val (.int p1), .val (.ref a2), .val (.ref a3), .val (.long q4), .second] [])) _
      refine XS.aloadN X7.here hx rfl (hb hby d4_19) rfl rfl ?_
      show Steps p.tables e below (T7.setTop (mkF m 20 #[.val (.ref a0), .val (.int p1), .val (.ref a2), .val (.ref a3), .val (.long q4), .second] [(.ref a0)])) _
      refine XS.lload X7.here hx rfl (hb hby d4_20) rfl ?_
      show Steps p.tables e below (T7.setTop (mkF m 22 #[.val (.ref a0), .val (.int p1), .val (.ref a2), .val (.ref a3), .val (.long q4), .second] [(.long q4), (.ref a0)])) _
      refine st11 _ ?_
      exact kt)
  obtain ⟨fs, hr, hrun, hended, hW, hsame⟩ := X11.leave (v := none) (fun _ => rfl)
  refine ⟨_, _, pre16 _ ?_, hrun, hended, _, _, rfl, ?_, ⟨_, rfl⟩, hW, hsame.mono (by decide) (by decide)⟩
  · show Steps p.tables e below (T11.setTop (mkF m 25 #[.val (.ref a0), .val (.int p1), .val (.ref a2), .val (.ref a3), .val (.long q4), .second] [])) _
    exact X11.returnOut hx Bd.returns (hb hby d4_25) hr
  · show Q4 Z _ _ _ _ _ _ _ _ _ h0 n0 _ T11.heap _
    rw [e11]
    exact ⟨rfl, N11, K11, f12, f14, f15⟩
theorem d6_0 : decode prog_2_method_7_code 0 = .ok (.aload_n 0, 1) := by decide +kernel
theorem d6_1 : decode prog_2_method_7_code 1 = .ok (.getfield 7, 3) := by decide +kernel
theorem d6_4 : decode prog_2_method_7_code 4 = .ok (.dreturn, 1) := by decide +kernel
theorem ef_6 (m : MethodId) (x0 : Addr)  : entryFrame m #[(.ref x0)] 1 = mkF m 0 #[.val (.ref x0)] [] := by first | (simp [entryFrame, mkF, argsToLocals, Value.category]; done) | rfl
def Q6 (Z : State) (a0 : Addr) (w_mean_0 : UInt64) (h0 : Heap) (n0 : Nat) (v : Option Value) (h : Heap) (L : List Loc) : Prop := v = some (.double w_mean_0) ∧ Fr n0 L ∧ h = h0
set_option maxRecDepth 65536 in
set_option maxHeartbeats 40000000 in
theorem rm6 (l : Launch) (Z : State) (aw : Array Value) (hw : ∀ d ∈ tables_1, d.before aw Z = true) (ws : List Jvm.Cond) (a0 : Addr) (w_mean_0 : UInt64) (h0 : Heap) (n0 : Nat) (Z0 : n0 ≤ h0.size) (Ff_mean_0 : Fld Z h0 a0 "com/example/token_handoff/tokenhandoff/BenchReport$Latency" "mean" "D" (.double w_mean_0)) :
    MetFree l (⟨"com/example/token_handoff/tokenhandoff/BenchReport$Latency", "mean", "()D"⟩ : MethodName) (head1 (Jvm.Cond.code (⟨"com/example/token_handoff/tokenhandoff/BenchReport$Latency", "mean", "()D"⟩ : MethodName) prog_2_method_7_code 1 (some .double) :: ws) ({ frames := 0, cells := 0, slots := 0, locals := 0 } : Room)) (fun a U => a = #[(.ref a0)] ∧ Z.Warmed39 U.vm ∧ U.heap = h0) (fun _ _ _ _ _ => True) (fun _ U o U' => ∃ v L, o = .returned v ∧ Q6 Z a0 w_mean_0 h0 n0 v U'.heap L ∧ FrameEnd U o U' L ({ frames := 0, cells := 0, slots := 0, locals := 0 } : Room).cells ({ frames := 0, cells := 0, slots := 0, locals := 0 } : Room).slots) := by
  refine MetFree.of_bodySF (plainFor_of_name pn_1) hisR ?_
  intro p e s m args below meth c s₁ Bd hml0 hP hK
  obtain ⟨rfl, hZ, hh⟩ := hP
  have hx := Bd.exec
  have hby := Bd.bytes
  have hml : c.maxLocals = 1 := hml0
  have hown : s.vm.findClass "com/example/token_handoff/tokenhandoff/BenchReport$Latency" = some m.cls := findClass_of_methodNamed Bd.named
  have hnm := (name_of_methodNamed Bd.named Bd.method).1
  have X0 : Stand p l e ({ frames := 0, cells := 0, slots := 0, locals := 0 } : Room) s m #[(.ref a0)] below meth c s₁ [] 0 0 := Stand.of_body Bd
  have e0 : s₁.heap = h0 := by rw [← hh, Bd.state]; rfl
  have N0 := Fr.nil n0
  have pre0 : ∀ t, Steps p.tables e below (s₁.setTop (mkF m 0 #[.val (.ref a0)] [])) t → Steps p.tables e below (s₁.setTop (entryFrame m #[(.ref a0)] 1)) t := fun t k => castTop (ef_6 m a0 ) k
  obtain ⟨T1, X1, e1, st1⟩ := getF X0 hx hZ hown (host := "") (Or.inl (hw _ (List.mem_of_getElem? (i := 14) rfl))) Via.refl e0 Ff_mean_0 (g := (mkF m 1 #[.val (.ref a0)] [(.ref a0)])) rfl rfl (hb hby d6_1)
  have pre2 : ∀ t, Steps p.tables e below (T1.setTop (mkF m 4 #[.val (.ref a0)] [(.double w_mean_0)])) t → Steps p.tables e below (s₁.setTop (entryFrame m #[(.ref a0)] 1)) t := fun t kt => pre0 t (by
      show Steps p.tables e below (s₁.setTop (mkF m 0 #[.val (.ref a0)] [])) _
      refine XS.aloadN X0.here hx rfl (hb hby d6_0) rfl rfl ?_
      show Steps p.tables e below (s₁.setTop (mkF m 1 #[.val (.ref a0)] [(.ref a0)])) _
      refine st1 _ ?_
      exact kt)
  obtain ⟨fs, hr, hrun, hended, hW, hsame⟩ := X1.leave (v := some (.double w_mean_0)) (fun h => by rw [Bd.returns] at h; cases h)
  refine ⟨_, _, pre2 _ ?_, hrun, hended, _, _, rfl, ?_, ⟨_, rfl⟩, hW, hsame.mono (by decide) (by decide)⟩
  · show Steps p.tables e below (T1.setTop (mkF m 4 #[.val (.ref a0)] [(.double w_mean_0)])) _
    jvm_step X1.here [X1.here.top, hx, (hb hby d6_4), X1.method', Bd.returns, narrow]
    first | (intro acts; rw [hr _ acts rfl rfl rfl]) | rw [hr _ _ rfl rfl rfl]
    exact Steps.refl _
  · show Q6 Z _ _ h0 n0 _ T1.heap _
    rw [e1]
    exact ⟨rfl, N0, rfl⟩
theorem pd_1 : parseMethodDescriptor "()D" = some ⟨[], some .double⟩ := by decide +kernel
theorem d5_0 : decode prog_1_method_2_code 0 = .ok (.aload_n 0, 1) := by decide +kernel
theorem d5_1 : decode prog_1_method_2_code 1 = .ok (.getfield 17, 3) := by decide +kernel
theorem d5_4 : decode prog_1_method_2_code 4 = .ok (.invokevirtual 24, 3) := by decide +kernel
theorem d5_7 : decode prog_1_method_2_code 7 = .ok (.aload_n 0, 1) := by decide +kernel
theorem d5_8 : decode prog_1_method_2_code 8 = .ok (.getfield 13, 3) := by decide +kernel
theorem d5_11 : decode prog_1_method_2_code 11 = .ok (.invokevirtual 24, 3) := by decide +kernel
theorem d5_14 : decode prog_1_method_2_code 14 = .ok (.ddiv, 1) := by decide +kernel
theorem d5_15 : decode prog_1_method_2_code 15 = .ok (.dreturn, 1) := by decide +kernel
theorem ef_5 (m : MethodId) (x0 : Addr)  : entryFrame m #[(.ref x0)] 1 = mkF m 0 #[.val (.ref x0)] [] := by first | (simp [entryFrame, mkF, argsToLocals, Value.category]; done) | rfl
def Q5 (Z : State) (a0 : Addr) (dh : UInt64) (dr : UInt64) (ah : Addr) (ar : Addr) (h0 : Heap) (n0 : Nat) (v : Option Value) (h : Heap) (L : List Loc) : Prop := v = some (.double (FP.ddiv dh dr)) ∧ Fr n0 L ∧ h = h0
set_option maxRecDepth 65536 in
set_option maxHeartbeats 40000000 in
theorem rm5 (l : Launch) (Z : State) (aw : Array Value) (hw : ∀ d ∈ tables_1, d.before aw Z = true) (ws : List Jvm.Cond) (a0 : Addr) (dh : UInt64) (dr : UInt64) (ah : Addr) (ar : Addr) (h0 : Heap) (n0 : Nat) (Z0 : n0 ≤ h0.size) (hnn : Jvm.Free.Fl.NoNaN64 (FP.ddiv dh dr)) (Fld_1 : Fld Z h0 ah "com/example/token_handoff/tokenhandoff/BenchReport$Latency" "mean" "D" (.double dh)) (Fld_2 : Fld Z h0 ar "com/example/token_handoff/tokenhandoff/BenchReport$Latency" "mean" "D" (.double dr)) (Exa_3 : Exa Z h0 ah "com/example/token_handoff/tokenhandoff/BenchReport$Latency") (Exa_4 : Exa Z h0 ar "com/example/token_handoff/tokenhandoff/BenchReport$Latency") (Ff_handoff_5 : Fld Z h0 a0 "com/example/token_handoff/tokenhandoff/BenchReport" "handoff" "Lcom/example/token_handoff/tokenhandoff/BenchReport$Latency;" (.ref ah)) (Ff_roundTrip_6 : Fld Z h0 a0 "com/example/token_handoff/tokenhandoff/BenchReport" "roundTrip" "Lcom/example/token_handoff/tokenhandoff/BenchReport$Latency;" (.ref ar)) :
    MetFree l (⟨"com/example/token_handoff/tokenhandoff/BenchReport", "meanToRoundTrip", "()D"⟩ : MethodName) (head1 (Jvm.Cond.code (⟨"com/example/token_handoff/tokenhandoff/BenchReport", "meanToRoundTrip", "()D"⟩ : MethodName) prog_1_method_2_code 1 (some .double) :: ws) ({ frames := 1, cells := 0, slots := 0, locals := 14 } : Room)) (fun a U => a = #[(.ref a0)] ∧ Z.Warmed39 U.vm ∧ U.heap = h0) (fun _ _ _ _ _ => True) (fun _ U o U' => ∃ v L, o = .returned v ∧ Q5 Z a0 dh dr ah ar h0 n0 v U'.heap L ∧ FrameEnd U o U' L ({ frames := 1, cells := 0, slots := 0, locals := 14 } : Room).cells ({ frames := 1, cells := 0, slots := 0, locals := 14 } : Room).slots) := by
  refine MetFree.of_bodySF (plainFor_of_name pn_2) hisR ?_
  intro p e s m args below meth c s₁ Bd hml0 hP hK
  obtain ⟨rfl, hZ, hh⟩ := hP
  have hx := Bd.exec
  have hby := Bd.bytes
  have hml : c.maxLocals = 1 := hml0
  have hown : s.vm.findClass "com/example/token_handoff/tokenhandoff/BenchReport" = some m.cls := findClass_of_methodNamed Bd.named
  have hnm := (name_of_methodNamed Bd.named Bd.method).1
  have X0 : Stand p l e ({ frames := 1, cells := 0, slots := 0, locals := 14 } : Room) s m #[(.ref a0)] below meth c s₁ [] 0 0 := Stand.of_body Bd
  have e0 : s₁.heap = h0 := by rw [← hh, Bd.state]; rfl
  have N0 := Fr.nil n0
  have pre0 : ∀ t, Steps p.tables e below (s₁.setTop (mkF m 0 #[.val (.ref a0)] [])) t → Steps p.tables e below (s₁.setTop (entryFrame m #[(.ref a0)] 1)) t := fun t k => castTop (ef_5 m a0 ) k
  obtain ⟨T1, X1, e1, st1⟩ := getF X0 hx hZ hown (host := "") (Or.inl (hw _ (List.mem_of_getElem? (i := 31) rfl))) Via.refl e0 Ff_handoff_5 (g := (mkF m 1 #[.val (.ref a0)] [(.ref a0)])) rfl rfl (hb hby d5_1)
  obtain ⟨cq2, kq2, q2a, q2b, q2c⟩ := isOf hZ e1 Exa_3
  obtain ⟨_, _, ⟨T2, L2, k2, n2⟩, -, X2, ⟨Lc2, hQ2, l2, y2, z2⟩, st2⟩ := X1.virtualBack hx (y := (⟨"com/example/token_handoff/tokenhandoff/BenchReport$Latency", "mean", "()D"⟩ : MethodName)) (z := (⟨"com/example/token_handoff/tokenhandoff/BenchReport$Latency", "mean", "()D"⟩ : MethodName)) hown (mvT hZ (hw _ (List.mem_of_getElem? (i := 40) rfl))) (mvT hZ (hw _ (List.mem_of_getElem? (i := 41) rfl))) (notFace_of_selects (args := #[]) (mvT hZ (hw _ (List.mem_of_getElem? (i := 43) rfl)))) (mvT hZ (hw _ (List.mem_of_getElem? (i := 43) rfl))) (mvT hZ (hw _ (List.mem_of_getElem? (i := 42) rfl))) (by decide) (backOf (W := 0) (rm6 l Z aw hw [] ah dh h0 n0 Z0 Fld_1) hZ (hw _ (List.mem_of_getElem? (i := 44) rfl)) (hw _ (List.mem_of_getElem? (i := 2) rfl)) (by decide) (by decide)) q2a q2c (g := (mkF m 4 #[.val (.ref a0)] [(.ref ah)])) rfl (by rw [hml]; rfl) (Steps.refl _) (argsL := []) (rest := []) (lenOf pd_1 rfl) rfl (by show 2 * 0 + _ ≤ _; exact Nat.le_of_eq rfl) (hb hby d5_4) (fun _ _ => ⟨rfl, e1, (by decide : 0 + 0 ≤ _), (by decide : 0 + 0 ≤ _)⟩)
  dsimp only [Pt.U, Pt.locs, Pt.cells, Pt.slots] at X2 l2 y2 z2 st2 hQ2
  subst l2 y2 z2
  obtain ⟨rfl, Nq2, e2⟩ := hQ2
  have N2 := Fr.app N0 Nq2
  obtain ⟨T3, X3, e3, st3⟩ := getF X2 hx hZ hown (host := "") (Or.inl (hw _ (List.mem_of_getElem? (i := 29) rfl))) Via.refl e2 Ff_roundTrip_6 (g := (mkF m 8 #[.val (.ref a0)] [(.ref a0), (.double dh)])) rfl rfl (hb hby d5_8)
  obtain ⟨cq4, kq4, q4a, q4b, q4c⟩ := isOf hZ e3 Exa_4
  obtain ⟨_, _, ⟨T4, L4, k4, n4⟩, -, X4, ⟨Lc4, hQ4, l4, y4, z4⟩, st4⟩ := X3.virtualBack hx (y := (⟨"com/example/token_handoff/tokenhandoff/BenchReport$Latency", "mean", "()D"⟩ : MethodName)) (z := (⟨"com/example/token_handoff/tokenhandoff/BenchReport$Latency", "mean", "()D"⟩ : MethodName)) hown (mvT hZ (hw _ (List.mem_of_getElem? (i := 40) rfl))) (mvT hZ (hw _ (List.mem_of_getElem? (i := 41) rfl))) (notFace_of_selects (args := #[]) (mvT hZ (hw _ (List.mem_of_getElem? (i := 43) rfl)))) (mvT hZ (hw _ (List.mem_of_getElem? (i := 43) rfl))) (mvT hZ (hw _ (List.mem_of_getElem? (i := 42) rfl))) (by decide) (backOf (W := 2) (rm6 l Z aw hw [] ar dr h0 n0 Z0 Fld_2) hZ (hw _ (List.mem_of_getElem? (i := 44) rfl)) (hw _ (List.mem_of_getElem? (i := 2) rfl)) (by decide) (by decide)) q4a q4c (g := (mkF m 11 #[.val (.ref a0)] [(.ref ar), (.double dh)])) rfl (by rw [hml]; rfl) (Steps.refl _) (argsL := []) (rest := [(.double dh)]) (lenOf pd_1 rfl) rfl (by show 2 * 0 + _ ≤ _; exact Nat.le_of_eq rfl) (hb hby d5_11) (fun _ _ => ⟨rfl, e3, (by decide : 0 + 0 ≤ _), (by decide : 0 + 0 ≤ _)⟩)
  dsimp only [Pt.U, Pt.locs, Pt.cells, Pt.slots] at X4 l4 y4 z4 st4 hQ4
  subst l4 y4 z4
  obtain ⟨rfl, Nq4, e4⟩ := hQ4
  have N4 := Fr.app N2 Nq4
  have pre5 : ∀ t, Steps p.tables e below (T4.setTop (mkF m 15 #[.val (.ref a0)] [(.double (FP.ddiv dh dr))])) t → Steps p.tables e below (s₁.setTop (entryFrame m #[(.ref a0)] 1)) t := fun t kt => pre0 t (by
      show Steps p.tables e below (s₁.setTop (mkF m 0 #[.val (.ref a0)] [])) _
      refine XS.aloadN X0.here hx rfl (hb hby d5_0) rfl rfl ?_
      show Steps p.tables e below (s₁.setTop (mkF m 1 #[.val (.ref a0)] [(.ref a0)])) _
      refine st1 _ ?_
      show Steps p.tables e below (T1.setTop (mkF m 4 #[.val (.ref a0)] [(.ref ah)])) _
      refine st2.trans ?_
      show Steps p.tables e below (T2.setTop (mkF m 7 #[.val (.ref a0)] [(.double dh)])) _
      refine XS.aloadN X2.here hx rfl (hb hby d5_7) rfl rfl ?_
      show Steps p.tables e below (T2.setTop (mkF m 8 #[.val (.ref a0)] [(.ref a0), (.double dh)])) _
      refine st3 _ ?_
      show Steps p.tables e below (T3.setTop (mkF m 11 #[.val (.ref a0)] [(.ref ar), (.double dh)])) _
      refine st4.trans ?_
      show Steps p.tables e below (T4.setTop (mkF m 14 #[.val (.ref a0)] [(.double dr), (.double dh)])) _
      refine XS.ddivS X4.here hx rfl (hb hby d5_14) rfl hnn (v := (FP.ddiv dh dr)) rfl ?_
      exact kt)
  obtain ⟨fs, hr, hrun, hended, hW, hsame⟩ := X4.leave (v := some (.double (FP.ddiv dh dr))) (fun h => by rw [Bd.returns] at h; cases h)
  refine ⟨_, _, pre5 _ ?_, hrun, hended, _, _, rfl, ?_, ⟨_, rfl⟩, hW, hsame.mono (by decide) (by decide)⟩
  · show Steps p.tables e below (T4.setTop (mkF m 15 #[.val (.ref a0)] [(.double (FP.ddiv dh dr))])) _
    jvm_step X4.here [X4.here.top, hx, (hb hby d5_15), X4.method', Bd.returns, narrow]
    first | (intro acts; rw [hr _ acts rfl rfl rfl]) | rw [hr _ _ rfl rfl rfl]
    exact Steps.refl _
  · show Q5 Z _ _ _ _ _ h0 n0 _ T4.heap _
    rw [e4]
    exact ⟨rfl, N4, rfl⟩
theorem pd_2 : parseMethodDescriptor "(DJJ)V" = some ⟨[.double, .long, .long], none⟩ := by decide +kernel
theorem pd_3 : parseMethodDescriptor "(ILcom/example/token_handoff/tokenhandoff/BenchReport$Latency;Lcom/example/token_handoff/tokenhandoff/BenchReport$Latency;J)V" = some ⟨[.int, (.object "com/example/token_handoff/tokenhandoff/BenchReport$Latency"), (.object "com/example/token_handoff/tokenhandoff/BenchReport$Latency"), .long], none⟩ := by decide +kernel
theorem pn_3 : plainName "com/example/token_handoff/tokenhandoff/BenchReportMeanToRoundTripPinLaw" = true := by first | (simp [plainName, overriddenIn]; done) | decide +kernel
theorem ef_0 (m : MethodId) (x0 : Int32) (x1 : Int32) (x2 : Int64) (x3 : Int64) (x4 : Int32) (x5 : Int64)  : entryFrame m #[(.int x0), (.int x1), (.long x2), (.long x3), (.int x4), (.long x5)] maxLocals = mkF m 0 #[.val (.int x0), .val (.int x1), .val (.long x2), .second, .val (.long x3), .second, .val (.int x4), .val (.long x5), .second, .unset, .unset, .unset, .unset, .unset, .unset, .unset, .unset, .unset, .unset, .unset] [] := by first | (simp [entryFrame, mkF, argsToLocals, Value.category, maxLocals]; done) | rfl
def Q0 (Z : State) (p0 : Int32) (p1 : Int32) (q2 : Int64) (q3 : Int64) (p4 : Int32) (q5 : Int64) (h0 : Heap) (n0 : Nat) (v : Option Value) (h : Heap) (L : List Loc) : Prop := v = some (.int (1 : Int32)) ∧ Fr n0 L ∧ (True)
set_option maxRecDepth 65536 in
set_option maxHeartbeats 40000000 in
theorem rm0 (l : Launch) (Z : State) (aw : Array Value) (hw : ∀ d ∈ tables_1, d.before aw Z = true) (ws : List Jvm.Cond) (p0 : Int32) (p1 : Int32) (q2 : Int64) (q3 : Int64) (p4 : Int32) (q5 : Int64) (h0 : Heap) (n0 : Nat) (Z0 : n0 ≤ h0.size) :
    MetFree l x (head1 (Jvm.Cond.code x code maxLocals ret :: ws) room_1) (fun a U => a = #[(.int p0), (.int p1), (.long q2), (.long q3), (.int p4), (.long q5)] ∧ Z.Warmed39 U.vm ∧ U.heap = h0) (fun _ _ _ _ _ => True) (fun _ U o U' => ∃ v L, o = .returned v ∧ Q0 Z p0 p1 q2 q3 p4 q5 h0 n0 v U'.heap L ∧ FrameEnd U o U' L room_1.cells room_1.slots) := by
  refine MetFree.of_bodySF (plainFor_of_name pn_3) hisR ?_
  intro p e s m args below meth c s₁ Bd hml0 hP hK
  obtain ⟨rfl, hZ, hh⟩ := hP
  have hx := Bd.exec
  have hby := Bd.bytes
  have hml : c.maxLocals = 20 := hml0
  have hown : s.vm.findClass "com/example/token_handoff/tokenhandoff/BenchReportMeanToRoundTripPinLaw" = some m.cls := findClass_of_methodNamed Bd.named
  have hnm := (name_of_methodNamed Bd.named Bd.method).1
  have X0 : Stand p l e room_1 s m #[(.int p0), (.int p1), (.long q2), (.long q3), (.int p4), (.long q5)] below meth c s₁ [] 0 0 := Stand.of_body Bd
  have e0 : s₁.heap = h0 := by rw [← hh, Bd.state]; rfl
  have N0 := Fr.nil n0
  have pre0 : ∀ t, Steps p.tables e below (s₁.setTop (mkF m 0 #[.val (.int p0), .val (.int p1), .val (.long q2), .second, .val (.long q3), .second, .val (.int p4), .val (.long q5), .second, .unset, .unset, .unset, .unset, .unset, .unset, .unset, .unset, .unset, .unset, .unset] [])) t → Steps p.tables e below (s₁.setTop (entryFrame m #[(.int p0), (.int p1), (.long q2), (.long q3), (.int p4), (.long q5)] maxLocals)) t := fun t k => castTop (ef_0 m p0 p1 q2 q3 p4 q5 ) k
  obtain ⟨T1, h1, X1, e1, E1, A1, D1, -, st1⟩ := newO X0 hx hZ hown (hw _ (List.mem_of_getElem? (i := 0) rfl)) (hw _ (List.mem_of_getElem? (i := 1) rfl)) (hw _ (List.mem_of_getElem? (i := 2) rfl)) e0 (g := (mkF m 29 #[.val (.int p0), .val (.int p1), .val (.long q2), .second, .val (.long q3), .second, .val (.int p4), .val (.long q5), .second, .val (.int (p0 % (1000 : Int32))), .val (.int ((p1 &&& (1023 : Int32)) + (1 : Int32))), .val (.double (FP.i2d ((p0 % (1000 : Int32)) * ((p1 &&& (1023 : Int32)) + (1 : Int32))))), .second, .val (.double (FP.i2d ((p1 &&& (1023 : Int32)) + (1 : Int32)))), .second, .unset, .unset, .unset, .unset, .unset] [])) rfl (hb hby at_29) (by decide) (by decide)
  obtain ⟨b1, g1⟩ : ∃ z, z = h0.size := ⟨_, rfl⟩
  rw [← g1] at A1 D1 st1
  have ge_b1 : n0 ≤ b1 := Nat.le_trans Z0 (Nat.le_of_eq g1.symm)
  have sz_b1 : h0.size ≤ b1 := Nat.le_trans (Keep.refl h0 []).1 (Nat.le_of_eq g1.symm)
  have K1 : Keep h0 h1 [] := Keep.ext (Keep.refl h0 []) E1
  have F1_mean : Fld Z h1 b1 "com/example/token_handoff/tokenhandoff/BenchReport$Latency" "mean" "D" (.double (0 : UInt64)) := D1 (Or.inr (hw _ (List.mem_of_getElem? (i := 15) rfl))) (ty := .double) (by decide)
  have F1_p50 : Fld Z h1 b1 "com/example/token_handoff/tokenhandoff/BenchReport$Latency" "p50" "J" (.long (0 : Int64)) := D1 (Or.inr (hw _ (List.mem_of_getElem? (i := 17) rfl))) (ty := .long) (by decide)
  have F1_p99 : Fld Z h1 b1 "com/example/token_handoff/tokenhandoff/BenchReport$Latency" "p99" "J" (.long (0 : Int64)) := D1 (Or.inr (hw _ (List.mem_of_getElem? (i := 19) rfl))) (ty := .long) (by decide)
  obtain ⟨_, _, ⟨T2, L2, k2, n2⟩, -, X2, ⟨Lc2, hQ2, l2, y2, z2⟩, st2⟩ := X1.specialBack hx (y := (⟨"com/example/token_handoff/tokenhandoff/BenchReport$Latency", "<init>", "(DJJ)V"⟩ : MethodName)) rfl hown (mvT hZ (hw _ (List.mem_of_getElem? (i := 3) rfl))) (mvT hZ (hw _ (List.mem_of_getElem? (i := 4) rfl))) (mvT hZ (hw _ (List.mem_of_getElem? (i := 5) rfl))) (by decide) (backOf (W := 1) (rm1 l Z aw hw [] b1 (FP.i2d ((p1 &&& (1023 : Int32)) + (1 : Int32))) q2 q3 (.double (0 : UInt64)) (.long (0 : Int64)) (.long (0 : Int64)) h1 n0 (Nat.le_trans Z0 E1.1) A1 F1_mean ge_b1 F1_p50 F1_p99) hZ (hw _ (List.mem_of_getElem? (i := 5) rfl)) (hw _ (List.mem_of_getElem? (i := 2) rfl)) (by decide) (by decide)) (g := (mkF m 38 #[.val (.int p0), .val (.int p1), .val (.long q2), .second, .val (.long q3), .second, .val (.int p4), .val (.long q5), .second, .val (.int (p0 % (1000 : Int32))), .val (.int ((p1 &&& (1023 : Int32)) + (1 : Int32))), .val (.double (FP.i2d ((p0 % (1000 : Int32)) * ((p1 &&& (1023 : Int32)) + (1 : Int32))))), .second, .val (.double (FP.i2d ((p1 &&& (1023 : Int32)) + (1 : Int32)))), .second, .unset, .unset, .unset, .unset, .unset] [(.long q3), (.long q2), (.double (FP.i2d ((p1 &&& (1023 : Int32)) + (1 : Int32)))), (.ref b1), (.ref b1)])) rfl (by rw [hml]; rfl) (Steps.refl _) (a := b1) (argsL := [(.double (FP.i2d ((p1 &&& (1023 : Int32)) + (1 : Int32)))), (.long q2), (.long q3)]) (rest := [(.ref b1)]) (lenOf pd_2 rfl) rfl (by show 2 * 0 + _ ≤ _; exact Nat.le_of_eq rfl) (hb hby at_38) (fun _ _ => ⟨rfl, e1, (by decide : 1 + 0 ≤ _), (by decide : 3 + 0 ≤ _)⟩)
  dsimp only [Pt.U, Pt.locs, Pt.cells, Pt.slots] at X2 l2 y2 z2 st2 hQ2
  subst l2 y2 z2
  obtain ⟨rfl, Nq2, c2_0, c2_1, c2_2⟩ := hQ2
  have N2 := Fr.app N0 Nq2
  have f3 := (A1.keep c2_0)
  have K4 : Keep h0 T2.heap [] := Keep.trans K1 c2_0 (allS (Or.inr sz_b1) all0)
  obtain ⟨T5, h5, X5, e5, E5, A5, D5, -, st5⟩ := newO X2 hx hZ hown (hw _ (List.mem_of_getElem? (i := 0) rfl)) (hw _ (List.mem_of_getElem? (i := 1) rfl)) (hw _ (List.mem_of_getElem? (i := 2) rfl)) rfl (g := (mkF m 43 #[.val (.int p0), .val (.int p1), .val (.long q2), .second, .val (.long q3), .second, .val (.int p4), .val (.long q5), .second, .val (.int (p0 % (1000 : Int32))), .val (.int ((p1 &&& (1023 : Int32)) + (1 : Int32))), .val (.double (FP.i2d ((p0 % (1000 : Int32)) * ((p1 &&& (1023 : Int32)) + (1 : Int32))))), .second, .val (.double (FP.i2d ((p1 &&& (1023 : Int32)) + (1 : Int32)))), .second, .val (.ref b1), .unset, .unset, .unset, .unset] [])) rfl (hb hby at_43) (by decide) (by decide)
  obtain ⟨b5, g5⟩ : ∃ z, z = T2.heap.size := ⟨_, rfl⟩
  rw [← g5] at A5 D5 st5
  have f6 := (c2_1.ext E5)
  have f7 := (c2_2.ext E5)
  have ne8 : b1 ≠ b5 := Nat.ne_of_lt (Nat.lt_of_lt_of_le c2_1.lt (Nat.le_of_eq g5.symm))
  have ge_b5 : n0 ≤ b5 := Nat.le_trans (Nat.le_trans (Nat.le_trans Z0 E1.1) c2_0.1) (Nat.le_of_eq g5.symm)
  have sz_b5 : h0.size ≤ b5 := Nat.le_trans K4.1 (Nat.le_of_eq g5.symm)
  have K5 : Keep h0 h5 [] := Keep.ext K4 E5
  have F5_mean : Fld Z h5 b5 "com/example/token_handoff/tokenhandoff/BenchReport$Latency" "mean" "D" (.double (0 : UInt64)) := D5 (Or.inr (hw _ (List.mem_of_getElem? (i := 15) rfl))) (ty := .double) (by decide)
  have F5_p50 : Fld Z h5 b5 "com/example/token_handoff/tokenhandoff/BenchReport$Latency" "p50" "J" (.long (0 : Int64)) := D5 (Or.inr (hw _ (List.mem_of_getElem? (i := 17) rfl))) (ty := .long) (by decide)
  have F5_p99 : Fld Z h5 b5 "com/example/token_handoff/tokenhandoff/BenchReport$Latency" "p99" "J" (.long (0 : Int64)) := D5 (Or.inr (hw _ (List.mem_of_getElem? (i := 19) rfl))) (ty := .long) (by decide)
  obtain ⟨_, _, ⟨T9, L9, k9, n9⟩, -, X9, ⟨Lc9, hQ9, l9, y9, z9⟩, st9⟩ := X5.specialBack hx (y := (⟨"com/example/token_handoff/tokenhandoff/BenchReport$Latency", "<init>", "(DJJ)V"⟩ : MethodName)) rfl hown (mvT hZ (hw _ (List.mem_of_getElem? (i := 3) rfl))) (mvT hZ (hw _ (List.mem_of_getElem? (i := 4) rfl))) (mvT hZ (hw _ (List.mem_of_getElem? (i := 5) rfl))) (by decide) (backOf (W := 1) (rm1 l Z aw hw [] b5 (FP.i2d ((p0 % (1000 : Int32)) * ((p1 &&& (1023 : Int32)) + (1 : Int32)))) q3 q2 (.double (0 : UInt64)) (.long (0 : Int64)) (.long (0 : Int64)) h5 n0 (Nat.le_trans (Nat.le_trans (Nat.le_trans Z0 E1.1) c2_0.1) E5.1) A5 F5_mean ge_b5 F5_p50 F5_p99) hZ (hw _ (List.mem_of_getElem? (i := 5) rfl)) (hw _ (List.mem_of_getElem? (i := 2) rfl)) (by decide) (by decide)) (g := (mkF m 52 #[.val (.int p0), .val (.int p1), .val (.long q2), .second, .val (.long q3), .second, .val (.int p4), .val (.long q5), .second, .val (.int (p0 % (1000 : Int32))), .val (.int ((p1 &&& (1023 : Int32)) + (1 : Int32))), .val (.double (FP.i2d ((p0 % (1000 : Int32)) * ((p1 &&& (1023 : Int32)) + (1 : Int32))))), .second, .val (.double (FP.i2d ((p1 &&& (1023 : Int32)) + (1 : Int32)))), .second, .val (.ref b1), .unset, .unset, .unset, .unset] [(.long q2), (.long q3), (.double (FP.i2d ((p0 % (1000 : Int32)) * ((p1 &&& (1023 : Int32)) + (1 : Int32))))), (.ref b5), (.ref b5)])) rfl (by rw [hml]; rfl) (Steps.refl _) (a := b5) (argsL := [(.double (FP.i2d ((p0 % (1000 : Int32)) * ((p1 &&& (1023 : Int32)) + (1 : Int32))))), (.long q3), (.long q2)]) (rest := [(.ref b5)]) (lenOf pd_2 rfl) rfl (by show 2 * 0 + _ ≤ _; exact Nat.le_of_eq rfl) (hb hby at_52) (fun _ _ => ⟨rfl, e5, (by decide : 2 + 0 ≤ _), (by decide : 6 + 0 ≤ _)⟩)
  dsimp only [Pt.U, Pt.locs, Pt.cells, Pt.slots] at X9 l9 y9 z9 st9 hQ9
  subst l9 y9 z9
  obtain ⟨rfl, Nq9, c9_0, c9_1, c9_2⟩ := hQ9
  have N9 := Fr.app N2 Nq9
  have f10 := (f6.keep c9_0)
  have f11 := (f7.keep c9_0 (ninS ne8 nin0))
  have f12 := (A5.keep c9_0)
  have K13 : Keep h0 T9.heap [] := Keep.trans K5 c9_0 (allS (Or.inr sz_b5) all0)
  obtain ⟨T14, h14, X14, e14, E14, A14, D14, -, st14⟩ := newO X9 hx hZ hown (hw _ (List.mem_of_getElem? (i := 20) rfl)) (hw _ (List.mem_of_getElem? (i := 21) rfl)) (hw _ (List.mem_of_getElem? (i := 22) rfl)) rfl (g := (mkF m 57 #[.val (.int p0), .val (.int p1), .val (.long q2), .second, .val (.long q3), .second, .val (.int p4), .val (.long q5), .second, .val (.int (p0 % (1000 : Int32))), .val (.int ((p1 &&& (1023 : Int32)) + (1 : Int32))), .val (.double (FP.i2d ((p0 % (1000 : Int32)) * ((p1 &&& (1023 : Int32)) + (1 : Int32))))), .second, .val (.double (FP.i2d ((p1 &&& (1023 : Int32)) + (1 : Int32)))), .second, .val (.ref b1), .val (.ref b5), .unset, .unset, .unset] [])) rfl (hb hby at_57) (by decide) (by decide)
  obtain ⟨b14, g14⟩ : ∃ z, z = T9.heap.size := ⟨_, rfl⟩
  rw [← g14] at A14 D14 st14
  have f15 := (f10.ext E14)
  have f16 := (f11.ext E14)
  have f17 := (c9_1.ext E14)
  have f18 := (c9_2.ext E14)
  have ne19 : b1 ≠ b14 := Nat.ne_of_lt (Nat.lt_of_lt_of_le f10.lt (Nat.le_of_eq g14.symm))
  have ne20 : b5 ≠ b14 := Nat.ne_of_lt (Nat.lt_of_lt_of_le c9_1.lt (Nat.le_of_eq g14.symm))
  have ge_b14 : n0 ≤ b14 := Nat.le_trans (Nat.le_trans (Nat.le_trans (Nat.le_trans (Nat.le_trans Z0 E1.1) c2_0.1) E5.1) c9_0.1) (Nat.le_of_eq g14.symm)
  have sz_b14 : h0.size ≤ b14 := Nat.le_trans K13.1 (Nat.le_of_eq g14.symm)
  have K14 : Keep h0 h14 [] := Keep.ext K13 E14
  have F14_handoffs : Fld Z h14 b14 "com/example/token_handoff/tokenhandoff/BenchReport" "handoffs" "I" (.int (0 : Int32)) := D14 (Or.inr (hw _ (List.mem_of_getElem? (i := 28) rfl))) (ty := .int) (by decide)
  have F14_roundTrip : Fld Z h14 b14 "com/example/token_handoff/tokenhandoff/BenchReport" "roundTrip" "Lcom/example/token_handoff/tokenhandoff/BenchReport$Latency;" .null := D14 (Or.inr (hw _ (List.mem_of_getElem? (i := 30) rfl))) (ty := (.object "com/example/token_handoff/tokenhandoff/BenchReport$Latency")) (by decide)
  have F14_handoff : Fld Z h14 b14 "com/example/token_handoff/tokenhandoff/BenchReport" "handoff" "Lcom/example/token_handoff/tokenhandoff/BenchReport$Latency;" .null := D14 (Or.inr (hw _ (List.mem_of_getElem? (i := 32) rfl))) (ty := (.object "com/example/token_handoff/tokenhandoff/BenchReport$Latency")) (by decide)
  have F14_kept : Fld Z h14 b14 "com/example/token_handoff/tokenhandoff/BenchReport" "kept" "J" (.long (0 : Int64)) := D14 (Or.inr (hw _ (List.mem_of_getElem? (i := 34) rfl))) (ty := .long) (by decide)
  obtain ⟨_, _, ⟨T21, L21, k21, n21⟩, -, X21, ⟨Lc21, hQ21, l21, y21, z21⟩, st21⟩ := X14.specialBack hx (y := (⟨"com/example/token_handoff/tokenhandoff/BenchReport", "<init>", "(ILcom/example/token_handoff/tokenhandoff/BenchReport$Latency;Lcom/example/token_handoff/tokenhandoff/BenchReport$Latency;J)V"⟩ : MethodName)) rfl hown (mvT hZ (hw _ (List.mem_of_getElem? (i := 23) rfl))) (mvT hZ (hw _ (List.mem_of_getElem? (i := 24) rfl))) (mvT hZ (hw _ (List.mem_of_getElem? (i := 25) rfl))) (by decide) (backOf (W := 1) (rm4 l Z aw hw [] b14 p4 b1 b5 q5 (.int (0 : Int32)) .null .null (.long (0 : Int64)) h14 n0 (Nat.le_trans (Nat.le_trans (Nat.le_trans (Nat.le_trans (Nat.le_trans Z0 E1.1) c2_0.1) E5.1) c9_0.1) E14.1) A14 F14_handoffs ge_b14 F14_roundTrip F14_handoff F14_kept) hZ (hw _ (List.mem_of_getElem? (i := 25) rfl)) (hw _ (List.mem_of_getElem? (i := 22) rfl)) (by decide) (by decide)) (g := (mkF m 69 #[.val (.int p0), .val (.int p1), .val (.long q2), .second, .val (.long q3), .second, .val (.int p4), .val (.long q5), .second, .val (.int (p0 % (1000 : Int32))), .val (.int ((p1 &&& (1023 : Int32)) + (1 : Int32))), .val (.double (FP.i2d ((p0 % (1000 : Int32)) * ((p1 &&& (1023 : Int32)) + (1 : Int32))))), .second, .val (.double (FP.i2d ((p1 &&& (1023 : Int32)) + (1 : Int32)))), .second, .val (.ref b1), .val (.ref b5), .unset, .unset, .unset] [(.long q5), (.ref b5), (.ref b1), (.int p4), (.ref b14), (.ref b14)])) rfl (by rw [hml]; rfl) (Steps.refl _) (a := b14) (argsL := [(.int p4), (.ref b1), (.ref b5), (.long q5)]) (rest := [(.ref b14)]) (lenOf pd_3 rfl) rfl (by show 2 * 0 + _ ≤ _; exact Nat.le_of_eq rfl) (hb hby at_69) (fun _ _ => ⟨rfl, e14, (by decide : 3 + 0 ≤ _), (by decide : 10 + 0 ≤ _)⟩)
  dsimp only [Pt.U, Pt.locs, Pt.cells, Pt.slots] at X21 l21 y21 z21 st21 hQ21
  subst l21 y21 z21
  obtain ⟨rfl, Nq21, c21_0, c21_1, c21_2, c21_3⟩ := hQ21
  have N21 := Fr.app N9 Nq21
  have f22 := (f15.keep c21_0)
  have f23 := (f16.keep c21_0 (ninS ne19 nin0))
  have f24 := (f17.keep c21_0)
  have f25 := (f18.keep c21_0 (ninS ne20 nin0))
  have f26 := (A14.keep c21_0)
  have K27 : Keep h0 T21.heap [] := Keep.trans K14 c21_0 (allS (Or.inr sz_b14) all0)
  obtain ⟨cq28, kq28, q28a, q28b, q28c⟩ := isOf hZ rfl c21_1
  obtain ⟨_, _, ⟨T28, L28, k28, n28⟩, -, X28, ⟨Lc28, hQ28, l28, y28, z28⟩, st28⟩ := X21.virtualBack hx (y := (⟨"com/example/token_handoff/tokenhandoff/BenchReport", "meanToRoundTrip", "()D"⟩ : MethodName)) (z := (⟨"com/example/token_handoff/tokenhandoff/BenchReport", "meanToRoundTrip", "()D"⟩ : MethodName)) hown (mvT hZ (hw _ (List.mem_of_getElem? (i := 35) rfl))) (mvT hZ (hw _ (List.mem_of_getElem? (i := 36) rfl))) (notFace_of_selects (args := #[]) (mvT hZ (hw _ (List.mem_of_getElem? (i := 38) rfl)))) (mvT hZ (hw _ (List.mem_of_getElem? (i := 38) rfl))) (mvT hZ (hw _ (List.mem_of_getElem? (i := 37) rfl))) (by decide) (backOf (W := 0) (rm5 l Z aw hw [] b14 (FP.i2d ((p0 % (1000 : Int32)) * ((p1 &&& (1023 : Int32)) + (1 : Int32)))) (FP.i2d ((p1 &&& (1023 : Int32)) + (1 : Int32))) b5 b1 T21.heap n0 (Nat.le_trans (Nat.le_trans (Nat.le_trans (Nat.le_trans (Nat.le_trans (Nat.le_trans Z0 E1.1) c2_0.1) E5.1) c9_0.1) E14.1) c21_0.1) (own_nn _ _) f25 f23 f24 f22 c21_3 c21_2) hZ (hw _ (List.mem_of_getElem? (i := 39) rfl)) (hw _ (List.mem_of_getElem? (i := 22) rfl)) (by decide) (by decide)) q28a q28c (g := (mkF m 76 #[.val (.int p0), .val (.int p1), .val (.long q2), .second, .val (.long q3), .second, .val (.int p4), .val (.long q5), .second, .val (.int (p0 % (1000 : Int32))), .val (.int ((p1 &&& (1023 : Int32)) + (1 : Int32))), .val (.double (FP.i2d ((p0 % (1000 : Int32)) * ((p1 &&& (1023 : Int32)) + (1 : Int32))))), .second, .val (.double (FP.i2d ((p1 &&& (1023 : Int32)) + (1 : Int32)))), .second, .val (.ref b1), .val (.ref b5), .val (.ref b14), .unset, .unset] [(.ref b14)])) rfl (by rw [hml]; rfl) (Steps.refl _) (argsL := []) (rest := []) (lenOf pd_1 rfl) rfl (by show 2 * 0 + _ ≤ _; exact Nat.le_of_eq rfl) (hb hby at_76) (fun _ _ => ⟨rfl, rfl, (by decide : 3 + 0 ≤ _), (by decide : 10 + 0 ≤ _)⟩)
  dsimp only [Pt.U, Pt.locs, Pt.cells, Pt.slots] at X28 l28 y28 z28 st28 hQ28
  subst l28 y28 z28
  obtain ⟨rfl, Nq28, e28⟩ := hQ28
  have N28 := Fr.app N21 Nq28
  have pre29 : ∀ t, Steps p.tables e below (T28.setTop (mkF m 95 #[.val (.int p0), .val (.int p1), .val (.long q2), .second, .val (.long q3), .second, .val (.int p4), .val (.long q5), .second, .val (.int (p0 % (1000 : Int32))), .val (.int ((p1 &&& (1023 : Int32)) + (1 : Int32))), .val (.double (FP.i2d ((p0 % (1000 : Int32)) * ((p1 &&& (1023 : Int32)) + (1 : Int32))))), .second, .val (.double (FP.i2d ((p1 &&& (1023 : Int32)) + (1 : Int32)))), .second, .val (.ref b1), .val (.ref b5), .val (.ref b14), .val (.double (FP.ddiv (FP.i2d ((p0 % (1000 : Int32)) * ((p1 &&& (1023 : Int32)) + (1 : Int32)))) (FP.i2d ((p1 &&& (1023 : Int32)) + (1 : Int32))))), .second] [(.int (1 : Int32))])) t → Steps p.tables e below (s₁.setTop (entryFrame m #[(.int p0), (.int p1), (.long q2), (.long q3), (.int p4), (.long q5)] maxLocals)) t := fun t kt => pre0 t (by
      show Steps p.tables e below (s₁.setTop (mkF m 0 #[.val (.int p0), .val (.int p1), .val (.long q2), .second, .val (.long q3), .second, .val (.int p4), .val (.long q5), .second, .unset, .unset, .unset, .unset, .unset, .unset, .unset, .unset, .unset, .unset, .unset] [])) _
      refine XS.iloadN X0.here hx rfl (hb hby at_0) rfl ?_
      show Steps p.tables e below (s₁.setTop (mkF m 1 #[.val (.int p0), .val (.int p1), .val (.long q2), .second, .val (.long q3), .second, .val (.int p4), .val (.long q5), .second, .unset, .unset, .unset, .unset, .unset, .unset, .unset, .unset, .unset, .unset, .unset] [(.int p0)])) _
      refine XS.sipush X0.here hx rfl (hb hby at_1) ?_
      show Steps p.tables e below (s₁.setTop (mkF m 4 #[.val (.int p0), .val (.int p1), .val (.long q2), .second, .val (.long q3), .second, .val (.int p4), .val (.long q5), .second, .unset, .unset, .unset, .unset, .unset, .unset, .unset, .unset, .unset, .unset, .unset] [(.int (1000 : Int32)), (.int p0)])) _
      refine iremM X0 hx rfl (hb hby at_4) rfl (by decide) ?_
      show Steps p.tables e below (s₁.setTop (mkF m 5 #[.val (.int p0), .val (.int p1), .val (.long q2), .second, .val (.long q3), .second, .val (.int p4), .val (.long q5), .second, .unset, .unset, .unset, .unset, .unset, .unset, .unset, .unset, .unset, .unset, .unset] [(.int (p0 % (1000 : Int32)))])) _
      refine XS.istore X0.here hx rfl (hb hby at_5) rfl (l' := #[.val (.int p0), .val (.int p1), .val (.long q2), .second, .val (.long q3), .second, .val (.int p4), .val (.long q5), .second, .val (.int (p0 % (1000 : Int32))), .unset, .unset, .unset, .unset, .unset, .unset, .unset, .unset, .unset, .unset]) rfl ?_
      show Steps p.tables e below (s₁.setTop (mkF m 7 #[.val (.int p0), .val (.int p1), .val (.long q2), .second, .val (.long q3), .second, .val (.int p4), .val (.long q5), .second, .val (.int (p0 % (1000 : Int32))), .unset, .unset, .unset, .unset, .unset, .unset, .unset, .unset, .unset, .unset] [])) _
      refine XS.iloadN X0.here hx rfl (hb hby at_7) rfl ?_
      show Steps p.tables e below (s₁.setTop (mkF m 8 #[.val (.int p0), .val (.int p1), .val (.long q2), .second, .val (.long q3), .second, .val (.int p4), .val (.long q5), .second, .val (.int (p0 % (1000 : Int32))), .unset, .unset, .unset, .unset, .unset, .unset, .unset, .unset, .unset, .unset] [(.int p1)])) _
      refine XS.sipush X0.here hx rfl (hb hby at_8) ?_
      show Steps p.tables e below (s₁.setTop (mkF m 11 #[.val (.int p0), .val (.int p1), .val (.long q2), .second, .val (.long q3), .second, .val (.int p4), .val (.long q5), .second, .val (.int (p0 % (1000 : Int32))), .unset, .unset, .unset, .unset, .unset, .unset, .unset, .unset, .unset, .unset] [(.int (1023 : Int32)), (.int p1)])) _
      refine XS.iand X0.here hx rfl (hb hby at_11) rfl ?_
      show Steps p.tables e below (s₁.setTop (mkF m 12 #[.val (.int p0), .val (.int p1), .val (.long q2), .second, .val (.long q3), .second, .val (.int p4), .val (.long q5), .second, .val (.int (p0 % (1000 : Int32))), .unset, .unset, .unset, .unset, .unset, .unset, .unset, .unset, .unset, .unset] [(.int (p1 &&& (1023 : Int32)))])) _
      refine XS.iconst X0.here hx rfl (hb hby at_12) ?_
      show Steps p.tables e below (s₁.setTop (mkF m 13 #[.val (.int p0), .val (.int p1), .val (.long q2), .second, .val (.long q3), .second, .val (.int p4), .val (.long q5), .second, .val (.int (p0 % (1000 : Int32))), .unset, .unset, .unset, .unset, .unset, .unset, .unset, .unset, .unset, .unset] [(.int (1 : Int32)), (.int (p1 &&& (1023 : Int32)))])) _
      refine XS.iadd X0.here hx rfl (hb hby at_13) rfl ?_
      show Steps p.tables e below (s₁.setTop (mkF m 14 #[.val (.int p0), .val (.int p1), .val (.long q2), .second, .val (.long q3), .second, .val (.int p4), .val (.long q5), .second, .val (.int (p0 % (1000 : Int32))), .unset, .unset, .unset, .unset, .unset, .unset, .unset, .unset, .unset, .unset] [(.int ((p1 &&& (1023 : Int32)) + (1 : Int32)))])) _
      refine XS.istore X0.here hx rfl (hb hby at_14) rfl (l' := #[.val (.int p0), .val (.int p1), .val (.long q2), .second, .val (.long q3), .second, .val (.int p4), .val (.long q5), .second, .val (.int (p0 % (1000 : Int32))), .val (.int ((p1 &&& (1023 : Int32)) + (1 : Int32))), .unset, .unset, .unset, .unset, .unset, .unset, .unset, .unset, .unset]) rfl ?_
      show Steps p.tables e below (s₁.setTop (mkF m 16 #[.val (.int p0), .val (.int p1), .val (.long q2), .second, .val (.long q3), .second, .val (.int p4), .val (.long q5), .second, .val (.int (p0 % (1000 : Int32))), .val (.int ((p1 &&& (1023 : Int32)) + (1 : Int32))), .unset, .unset, .unset, .unset, .unset, .unset, .unset, .unset, .unset] [])) _
      refine XS.iload X0.here hx rfl (hb hby at_16) rfl ?_
      show Steps p.tables e below (s₁.setTop (mkF m 18 #[.val (.int p0), .val (.int p1), .val (.long q2), .second, .val (.long q3), .second, .val (.int p4), .val (.long q5), .second, .val (.int (p0 % (1000 : Int32))), .val (.int ((p1 &&& (1023 : Int32)) + (1 : Int32))), .unset, .unset, .unset, .unset, .unset, .unset, .unset, .unset, .unset] [(.int (p0 % (1000 : Int32)))])) _
      refine XS.iload X0.here hx rfl (hb hby at_18) rfl ?_
      show Steps p.tables e below (s₁.setTop (mkF m 20 #[.val (.int p0), .val (.int p1), .val (.long q2), .second, .val (.long q3), .second, .val (.int p4), .val (.long q5), .second, .val (.int (p0 % (1000 : Int32))), .val (.int ((p1 &&& (1023 : Int32)) + (1 : Int32))), .unset, .unset, .unset, .unset, .unset, .unset, .unset, .unset, .unset] [(.int ((p1 &&& (1023 : Int32)) + (1 : Int32))), (.int (p0 % (1000 : Int32)))])) _
      refine XS.imul X0.here hx rfl (hb hby at_20) rfl ?_
      show Steps p.tables e below (s₁.setTop (mkF m 21 #[.val (.int p0), .val (.int p1), .val (.long q2), .second, .val (.long q3), .second, .val (.int p4), .val (.long q5), .second, .val (.int (p0 % (1000 : Int32))), .val (.int ((p1 &&& (1023 : Int32)) + (1 : Int32))), .unset, .unset, .unset, .unset, .unset, .unset, .unset, .unset, .unset] [(.int ((p0 % (1000 : Int32)) * ((p1 &&& (1023 : Int32)) + (1 : Int32))))])) _
      refine XS.i2dS X0.here hx rfl (hb hby at_21) rfl rfl ?_
      show Steps p.tables e below (s₁.setTop (mkF m 22 #[.val (.int p0), .val (.int p1), .val (.long q2), .second, .val (.long q3), .second, .val (.int p4), .val (.long q5), .second, .val (.int (p0 % (1000 : Int32))), .val (.int ((p1 &&& (1023 : Int32)) + (1 : Int32))), .unset, .unset, .unset, .unset, .unset, .unset, .unset, .unset, .unset] [(.double (FP.i2d ((p0 % (1000 : Int32)) * ((p1 &&& (1023 : Int32)) + (1 : Int32)))))])) _
      refine XS.dstore X0.here hx rfl (hb hby at_22) rfl (l' := #[.val (.int p0), .val (.int p1), .val (.long q2), .second, .val (.long q3), .second, .val (.int p4), .val (.long q5), .second, .val (.int (p0 % (1000 : Int32))), .val (.int ((p1 &&& (1023 : Int32)) + (1 : Int32))), .val (.double (FP.i2d ((p0 % (1000 : Int32)) * ((p1 &&& (1023 : Int32)) + (1 : Int32))))), .second, .unset, .unset, .unset, .unset, .unset, .unset, .unset]) rfl ?_
      show Steps p.tables e below (s₁.setTop (mkF m 24 #[.val (.int p0), .val (.int p1), .val (.long q2), .second, .val (.long q3), .second, .val (.int p4), .val (.long q5), .second, .val (.int (p0 % (1000 : Int32))), .val (.int ((p1 &&& (1023 : Int32)) + (1 : Int32))), .val (.double (FP.i2d ((p0 % (1000 : Int32)) * ((p1 &&& (1023 : Int32)) + (1 : Int32))))), .second, .unset, .unset, .unset, .unset, .unset, .unset, .unset] [])) _
      refine XS.iload X0.here hx rfl (hb hby at_24) rfl ?_
      show Steps p.tables e below (s₁.setTop (mkF m 26 #[.val (.int p0), .val (.int p1), .val (.long q2), .second, .val (.long q3), .second, .val (.int p4), .val (.long q5), .second, .val (.int (p0 % (1000 : Int32))), .val (.int ((p1 &&& (1023 : Int32)) + (1 : Int32))), .val (.double (FP.i2d ((p0 % (1000 : Int32)) * ((p1 &&& (1023 : Int32)) + (1 : Int32))))), .second, .unset, .unset, .unset, .unset, .unset, .unset, .unset] [(.int ((p1 &&& (1023 : Int32)) + (1 : Int32)))])) _
      refine XS.i2dS X0.here hx rfl (hb hby at_26) rfl rfl ?_
      show Steps p.tables e below (s₁.setTop (mkF m 27 #[.val (.int p0), .val (.int p1), .val (.long q2), .second, .val (.long q3), .second, .val (.int p4), .val (.long q5), .second, .val (.int (p0 % (1000 : Int32))), .val (.int ((p1 &&& (1023 : Int32)) + (1 : Int32))), .val (.double (FP.i2d ((p0 % (1000 : Int32)) * ((p1 &&& (1023 : Int32)) + (1 : Int32))))), .second, .unset, .unset, .unset, .unset, .unset, .unset, .unset] [(.double (FP.i2d ((p1 &&& (1023 : Int32)) + (1 : Int32))))])) _
      refine XS.dstore X0.here hx rfl (hb hby at_27) rfl (l' := #[.val (.int p0), .val (.int p1), .val (.long q2), .second, .val (.long q3), .second, .val (.int p4), .val (.long q5), .second, .val (.int (p0 % (1000 : Int32))), .val (.int ((p1 &&& (1023 : Int32)) + (1 : Int32))), .val (.double (FP.i2d ((p0 % (1000 : Int32)) * ((p1 &&& (1023 : Int32)) + (1 : Int32))))), .second, .val (.double (FP.i2d ((p1 &&& (1023 : Int32)) + (1 : Int32)))), .second, .unset, .unset, .unset, .unset, .unset]) rfl ?_
      show Steps p.tables e below (s₁.setTop (mkF m 29 #[.val (.int p0), .val (.int p1), .val (.long q2), .second, .val (.long q3), .second, .val (.int p4), .val (.long q5), .second, .val (.int (p0 % (1000 : Int32))), .val (.int ((p1 &&& (1023 : Int32)) + (1 : Int32))), .val (.double (FP.i2d ((p0 % (1000 : Int32)) * ((p1 &&& (1023 : Int32)) + (1 : Int32))))), .second, .val (.double (FP.i2d ((p1 &&& (1023 : Int32)) + (1 : Int32)))), .second, .unset, .unset, .unset, .unset, .unset] [])) _
      refine st1 _ ?_
      show Steps p.tables e below (T1.setTop (mkF m 32 #[.val (.int p0), .val (.int p1), .val (.long q2), .second, .val (.long q3), .second, .val (.int p4), .val (.long q5), .second, .val (.int (p0 % (1000 : Int32))), .val (.int ((p1 &&& (1023 : Int32)) + (1 : Int32))), .val (.double (FP.i2d ((p0 % (1000 : Int32)) * ((p1 &&& (1023 : Int32)) + (1 : Int32))))), .second, .val (.double (FP.i2d ((p1 &&& (1023 : Int32)) + (1 : Int32)))), .second, .unset, .unset, .unset, .unset, .unset] [(.ref b1)])) _
      refine XS.dup X1.here hx rfl (hb hby at_32) rfl rfl ?_
      show Steps p.tables e below (T1.setTop (mkF m 33 #[.val (.int p0), .val (.int p1), .val (.long q2), .second, .val (.long q3), .second, .val (.int p4), .val (.long q5), .second, .val (.int (p0 % (1000 : Int32))), .val (.int ((p1 &&& (1023 : Int32)) + (1 : Int32))), .val (.double (FP.i2d ((p0 % (1000 : Int32)) * ((p1 &&& (1023 : Int32)) + (1 : Int32))))), .second, .val (.double (FP.i2d ((p1 &&& (1023 : Int32)) + (1 : Int32)))), .second, .unset, .unset, .unset, .unset, .unset] [(.ref b1), (.ref b1)])) _
      refine XS.dload X1.here hx rfl (hb hby at_33) rfl ?_
      show Steps p.tables e below (T1.setTop (mkF m 35 #[.val (.int p0), .val (.int p1), .val (.long q2), .second, .val (.long q3), .second, .val (.int p4), .val (.long q5), .second, .val (.int (p0 % (1000 : Int32))), .val (.int ((p1 &&& (1023 : Int32)) + (1 : Int32))), .val (.double (FP.i2d ((p0 % (1000 : Int32)) * ((p1 &&& (1023 : Int32)) + (1 : Int32))))), .second, .val (.double (FP.i2d ((p1 &&& (1023 : Int32)) + (1 : Int32)))), .second, .unset, .unset, .unset, .unset, .unset] [(.double (FP.i2d ((p1 &&& (1023 : Int32)) + (1 : Int32)))), (.ref b1), (.ref b1)])) _
      refine XS.lloadN X1.here hx rfl (hb hby at_35) rfl ?_
      show Steps p.tables e below (T1.setTop (mkF m 36 #[.val (.int p0), .val (.int p1), .val (.long q2), .second, .val (.long q3), .second, .val (.int p4), .val (.long q5), .second, .val (.int (p0 % (1000 : Int32))), .val (.int ((p1 &&& (1023 : Int32)) + (1 : Int32))), .val (.double (FP.i2d ((p0 % (1000 : Int32)) * ((p1 &&& (1023 : Int32)) + (1 : Int32))))), .second, .val (.double (FP.i2d ((p1 &&& (1023 : Int32)) + (1 : Int32)))), .second, .unset, .unset, .unset, .unset, .unset] [(.long q2), (.double (FP.i2d ((p1 &&& (1023 : Int32)) + (1 : Int32)))), (.ref b1), (.ref b1)])) _
      refine XS.lload X1.here hx rfl (hb hby at_36) rfl ?_
      show Steps p.tables e below (T1.setTop (mkF m 38 #[.val (.int p0), .val (.int p1), .val (.long q2), .second, .val (.long q3), .second, .val (.int p4), .val (.long q5), .second, .val (.int (p0 % (1000 : Int32))), .val (.int ((p1 &&& (1023 : Int32)) + (1 : Int32))), .val (.double (FP.i2d ((p0 % (1000 : Int32)) * ((p1 &&& (1023 : Int32)) + (1 : Int32))))), .second, .val (.double (FP.i2d ((p1 &&& (1023 : Int32)) + (1 : Int32)))), .second, .unset, .unset, .unset, .unset, .unset] [(.long q3), (.long q2), (.double (FP.i2d ((p1 &&& (1023 : Int32)) + (1 : Int32)))), (.ref b1), (.ref b1)])) _
      refine st2.trans ?_
      show Steps p.tables e below (T2.setTop (mkF m 41 #[.val (.int p0), .val (.int p1), .val (.long q2), .second, .val (.long q3), .second, .val (.int p4), .val (.long q5), .second, .val (.int (p0 % (1000 : Int32))), .val (.int ((p1 &&& (1023 : Int32)) + (1 : Int32))), .val (.double (FP.i2d ((p0 % (1000 : Int32)) * ((p1 &&& (1023 : Int32)) + (1 : Int32))))), .second, .val (.double (FP.i2d ((p1 &&& (1023 : Int32)) + (1 : Int32)))), .second, .unset, .unset, .unset, .unset, .unset] [(.ref b1)])) _
      refine XS.astore X2.here hx rfl (hb hby at_41) rfl rfl (l' := #[.val (.int p0), .val (.int p1), .val (.long q2), .second, .val (.long q3), .second, .val (.int p4), .val (.long q5), .second, .val (.int (p0 % (1000 : Int32))), .val (.int ((p1 &&& (1023 : Int32)) + (1 : Int32))), .val (.double (FP.i2d ((p0 % (1000 : Int32)) * ((p1 &&& (1023 : Int32)) + (1 : Int32))))), .second, .val (.double (FP.i2d ((p1 &&& (1023 : Int32)) + (1 : Int32)))), .second, .val (.ref b1), .unset, .unset, .unset, .unset]) rfl ?_
      show Steps p.tables e below (T2.setTop (mkF m 43 #[.val (.int p0), .val (.int p1), .val (.long q2), .second, .val (.long q3), .second, .val (.int p4), .val (.long q5), .second, .val (.int (p0 % (1000 : Int32))), .val (.int ((p1 &&& (1023 : Int32)) + (1 : Int32))), .val (.double (FP.i2d ((p0 % (1000 : Int32)) * ((p1 &&& (1023 : Int32)) + (1 : Int32))))), .second, .val (.double (FP.i2d ((p1 &&& (1023 : Int32)) + (1 : Int32)))), .second, .val (.ref b1), .unset, .unset, .unset, .unset] [])) _
      refine st5 _ ?_
      show Steps p.tables e below (T5.setTop (mkF m 46 #[.val (.int p0), .val (.int p1), .val (.long q2), .second, .val (.long q3), .second, .val (.int p4), .val (.long q5), .second, .val (.int (p0 % (1000 : Int32))), .val (.int ((p1 &&& (1023 : Int32)) + (1 : Int32))), .val (.double (FP.i2d ((p0 % (1000 : Int32)) * ((p1 &&& (1023 : Int32)) + (1 : Int32))))), .second, .val (.double (FP.i2d ((p1 &&& (1023 : Int32)) + (1 : Int32)))), .second, .val (.ref b1), .unset, .unset, .unset, .unset] [(.ref b5)])) _
      refine XS.dup X5.here hx rfl (hb hby at_46) rfl rfl ?_
      show Steps p.tables e below (T5.setTop (mkF m 47 #[.val (.int p0), .val (.int p1), .val (.long q2), .second, .val (.long q3), .second, .val (.int p4), .val (.long q5), .second, .val (.int (p0 % (1000 : Int32))), .val (.int ((p1 &&& (1023 : Int32)) + (1 : Int32))), .val (.double (FP.i2d ((p0 % (1000 : Int32)) * ((p1 &&& (1023 : Int32)) + (1 : Int32))))), .second, .val (.double (FP.i2d ((p1 &&& (1023 : Int32)) + (1 : Int32)))), .second, .val (.ref b1), .unset, .unset, .unset, .unset] [(.ref b5), (.ref b5)])) _
      refine XS.dload X5.here hx rfl (hb hby at_47) rfl ?_
      show Steps p.tables e below (T5.setTop (mkF m 49 #[.val (.int p0), .val (.int p1), .val (.long q2), .second, .val (.long q3), .second, .val (.int p4), .val (.long q5), .second, .val (.int (p0 % (1000 : Int32))), .val (.int ((p1 &&& (1023 : Int32)) + (1 : Int32))), .val (.double (FP.i2d ((p0 % (1000 : Int32)) * ((p1 &&& (1023 : Int32)) + (1 : Int32))))), .second, .val (.double (FP.i2d ((p1 &&& (1023 : Int32)) + (1 : Int32)))), .second, .val (.ref b1), .unset, .unset, .unset, .unset] [(.double (FP.i2d ((p0 % (1000 : Int32)) * ((p1 &&& (1023 : Int32)) + (1 : Int32))))), (.ref b5), (.ref b5)])) _
      refine XS.lload X5.here hx rfl (hb hby at_49) rfl ?_
      show Steps p.tables e below (T5.setTop (mkF m 51 #[.val (.int p0), .val (.int p1), .val (.long q2), .second, .val (.long q3), .second, .val (.int p4), .val (.long q5), .second, .val (.int (p0 % (1000 : Int32))), .val (.int ((p1 &&& (1023 : Int32)) + (1 : Int32))), .val (.double (FP.i2d ((p0 % (1000 : Int32)) * ((p1 &&& (1023 : Int32)) + (1 : Int32))))), .second, .val (.double (FP.i2d ((p1 &&& (1023 : Int32)) + (1 : Int32)))), .second, .val (.ref b1), .unset, .unset, .unset, .unset] [(.long q3), (.double (FP.i2d ((p0 % (1000 : Int32)) * ((p1 &&& (1023 : Int32)) + (1 : Int32))))), (.ref b5), (.ref b5)])) _
      refine XS.lloadN X5.here hx rfl (hb hby at_51) rfl ?_
      show Steps p.tables e below (T5.setTop (mkF m 52 #[.val (.int p0), .val (.int p1), .val (.long q2), .second, .val (.long q3), .second, .val (.int p4), .val (.long q5), .second, .val (.int (p0 % (1000 : Int32))), .val (.int ((p1 &&& (1023 : Int32)) + (1 : Int32))), .val (.double (FP.i2d ((p0 % (1000 : Int32)) * ((p1 &&& (1023 : Int32)) + (1 : Int32))))), .second, .val (.double (FP.i2d ((p1 &&& (1023 : Int32)) + (1 : Int32)))), .second, .val (.ref b1), .unset, .unset, .unset, .unset] [(.long q2), (.long q3), (.double (FP.i2d ((p0 % (1000 : Int32)) * ((p1 &&& (1023 : Int32)) + (1 : Int32))))), (.ref b5), (.ref b5)])) _
      refine st9.trans ?_
      show Steps p.tables e below (T9.setTop (mkF m 55 #[.val (.int p0), .val (.int p1), .val (.long q2), .second, .val (.long q3), .second, .val (.int p4), .val (.long q5), .second, .val (.int (p0 % (1000 : Int32))), .val (.int ((p1 &&& (1023 : Int32)) + (1 : Int32))), .val (.double (FP.i2d ((p0 % (1000 : Int32)) * ((p1 &&& (1023 : Int32)) + (1 : Int32))))), .second, .val (.double (FP.i2d ((p1 &&& (1023 : Int32)) + (1 : Int32)))), .second, .val (.ref b1), .unset, .unset, .unset, .unset] [(.ref b5)])) _
      refine XS.astore X9.here hx rfl (hb hby at_55) rfl rfl (l' := #[.val (.int p0), .val (.int p1), .val (.long q2), .second, .val (.long q3), .second, .val (.int p4), .val (.long q5), .second, .val (.int (p0 % (1000 : Int32))), .val (.int ((p1 &&& (1023 : Int32)) + (1 : Int32))), .val (.double (FP.i2d ((p0 % (1000 : Int32)) * ((p1 &&& (1023 : Int32)) + (1 : Int32))))), .second, .val (.double (FP.i2d ((p1 &&& (1023 : Int32)) + (1 : Int32)))), .second, .val (.ref b1), .val (.ref b5), .unset, .unset, .unset]) rfl ?_
      show Steps p.tables e below (T9.setTop (mkF m 57 #[.val (.int p0), .val (.int p1), .val (.long q2), .second, .val (.long q3), .second, .val (.int p4), .val (.long q5), .second, .val (.int (p0 % (1000 : Int32))), .val (.int ((p1 &&& (1023 : Int32)) + (1 : Int32))), .val (.double (FP.i2d ((p0 % (1000 : Int32)) * ((p1 &&& (1023 : Int32)) + (1 : Int32))))), .second, .val (.double (FP.i2d ((p1 &&& (1023 : Int32)) + (1 : Int32)))), .second, .val (.ref b1), .val (.ref b5), .unset, .unset, .unset] [])) _
      refine st14 _ ?_
      show Steps p.tables e below (T14.setTop (mkF m 60 #[.val (.int p0), .val (.int p1), .val (.long q2), .second, .val (.long q3), .second, .val (.int p4), .val (.long q5), .second, .val (.int (p0 % (1000 : Int32))), .val (.int ((p1 &&& (1023 : Int32)) + (1 : Int32))), .val (.double (FP.i2d ((p0 % (1000 : Int32)) * ((p1 &&& (1023 : Int32)) + (1 : Int32))))), .second, .val (.double (FP.i2d ((p1 &&& (1023 : Int32)) + (1 : Int32)))), .second, .val (.ref b1), .val (.ref b5), .unset, .unset, .unset] [(.ref b14)])) _
      refine XS.dup X14.here hx rfl (hb hby at_60) rfl rfl ?_
      show Steps p.tables e below (T14.setTop (mkF m 61 #[.val (.int p0), .val (.int p1), .val (.long q2), .second, .val (.long q3), .second, .val (.int p4), .val (.long q5), .second, .val (.int (p0 % (1000 : Int32))), .val (.int ((p1 &&& (1023 : Int32)) + (1 : Int32))), .val (.double (FP.i2d ((p0 % (1000 : Int32)) * ((p1 &&& (1023 : Int32)) + (1 : Int32))))), .second, .val (.double (FP.i2d ((p1 &&& (1023 : Int32)) + (1 : Int32)))), .second, .val (.ref b1), .val (.ref b5), .unset, .unset, .unset] [(.ref b14), (.ref b14)])) _
      refine XS.iload X14.here hx rfl (hb hby at_61) rfl ?_
      show Steps p.tables e below (T14.setTop (mkF m 63 #[.val (.int p0), .val (.int p1), .val (.long q2), .second, .val (.long q3), .second, .val (.int p4), .val (.long q5), .second, .val (.int (p0 % (1000 : Int32))), .val (.int ((p1 &&& (1023 : Int32)) + (1 : Int32))), .val (.double (FP.i2d ((p0 % (1000 : Int32)) * ((p1 &&& (1023 : Int32)) + (1 : Int32))))), .second, .val (.double (FP.i2d ((p1 &&& (1023 : Int32)) + (1 : Int32)))), .second, .val (.ref b1), .val (.ref b5), .unset, .unset, .unset] [(.int p4), (.ref b14), (.ref b14)])) _
      refine XS.aload X14.here hx rfl (hb hby at_63) rfl rfl ?_
      show Steps p.tables e below (T14.setTop (mkF m 65 #[.val (.int p0), .val (.int p1), .val (.long q2), .second, .val (.long q3), .second, .val (.int p4), .val (.long q5), .second, .val (.int (p0 % (1000 : Int32))), .val (.int ((p1 &&& (1023 : Int32)) + (1 : Int32))), .val (.double (FP.i2d ((p0 % (1000 : Int32)) * ((p1 &&& (1023 : Int32)) + (1 : Int32))))), .second, .val (.double (FP.i2d ((p1 &&& (1023 : Int32)) + (1 : Int32)))), .second, .val (.ref b1), .val (.ref b5), .unset, .unset, .unset] [(.ref b1), (.int p4), (.ref b14), (.ref b14)])) _
      refine XS.aload X14.here hx rfl (hb hby at_65) rfl rfl ?_
      show Steps p.tables e below (T14.setTop (mkF m 67 #[.val (.int p0), .val (.int p1), .val (.long q2), .second, .val (.long q3), .second, .val (.int p4), .val (.long q5), .second, .val (.int (p0 % (1000 : Int32))), .val (.int ((p1 &&& (1023 : Int32)) + (1 : Int32))), .val (.double (FP.i2d ((p0 % (1000 : Int32)) * ((p1 &&& (1023 : Int32)) + (1 : Int32))))), .second, .val (.double (FP.i2d ((p1 &&& (1023 : Int32)) + (1 : Int32)))), .second, .val (.ref b1), .val (.ref b5), .unset, .unset, .unset] [(.ref b5), (.ref b1), (.int p4), (.ref b14), (.ref b14)])) _
      refine XS.lload X14.here hx rfl (hb hby at_67) rfl ?_
      show Steps p.tables e below (T14.setTop (mkF m 69 #[.val (.int p0), .val (.int p1), .val (.long q2), .second, .val (.long q3), .second, .val (.int p4), .val (.long q5), .second, .val (.int (p0 % (1000 : Int32))), .val (.int ((p1 &&& (1023 : Int32)) + (1 : Int32))), .val (.double (FP.i2d ((p0 % (1000 : Int32)) * ((p1 &&& (1023 : Int32)) + (1 : Int32))))), .second, .val (.double (FP.i2d ((p1 &&& (1023 : Int32)) + (1 : Int32)))), .second, .val (.ref b1), .val (.ref b5), .unset, .unset, .unset] [(.long q5), (.ref b5), (.ref b1), (.int p4), (.ref b14), (.ref b14)])) _
      refine st21.trans ?_
      show Steps p.tables e below (T21.setTop (mkF m 72 #[.val (.int p0), .val (.int p1), .val (.long q2), .second, .val (.long q3), .second, .val (.int p4), .val (.long q5), .second, .val (.int (p0 % (1000 : Int32))), .val (.int ((p1 &&& (1023 : Int32)) + (1 : Int32))), .val (.double (FP.i2d ((p0 % (1000 : Int32)) * ((p1 &&& (1023 : Int32)) + (1 : Int32))))), .second, .val (.double (FP.i2d ((p1 &&& (1023 : Int32)) + (1 : Int32)))), .second, .val (.ref b1), .val (.ref b5), .unset, .unset, .unset] [(.ref b14)])) _
      refine XS.astore X21.here hx rfl (hb hby at_72) rfl rfl (l' := #[.val (.int p0), .val (.int p1), .val (.long q2), .second, .val (.long q3), .second, .val (.int p4), .val (.long q5), .second, .val (.int (p0 % (1000 : Int32))), .val (.int ((p1 &&& (1023 : Int32)) + (1 : Int32))), .val (.double (FP.i2d ((p0 % (1000 : Int32)) * ((p1 &&& (1023 : Int32)) + (1 : Int32))))), .second, .val (.double (FP.i2d ((p1 &&& (1023 : Int32)) + (1 : Int32)))), .second, .val (.ref b1), .val (.ref b5), .val (.ref b14), .unset, .unset]) rfl ?_
      show Steps p.tables e below (T21.setTop (mkF m 74 #[.val (.int p0), .val (.int p1), .val (.long q2), .second, .val (.long q3), .second, .val (.int p4), .val (.long q5), .second, .val (.int (p0 % (1000 : Int32))), .val (.int ((p1 &&& (1023 : Int32)) + (1 : Int32))), .val (.double (FP.i2d ((p0 % (1000 : Int32)) * ((p1 &&& (1023 : Int32)) + (1 : Int32))))), .second, .val (.double (FP.i2d ((p1 &&& (1023 : Int32)) + (1 : Int32)))), .second, .val (.ref b1), .val (.ref b5), .val (.ref b14), .unset, .unset] [])) _
      refine XS.aload X21.here hx rfl (hb hby at_74) rfl rfl ?_
      show Steps p.tables e below (T21.setTop (mkF m 76 #[.val (.int p0), .val (.int p1), .val (.long q2), .second, .val (.long q3), .second, .val (.int p4), .val (.long q5), .second, .val (.int (p0 % (1000 : Int32))), .val (.int ((p1 &&& (1023 : Int32)) + (1 : Int32))), .val (.double (FP.i2d ((p0 % (1000 : Int32)) * ((p1 &&& (1023 : Int32)) + (1 : Int32))))), .second, .val (.double (FP.i2d ((p1 &&& (1023 : Int32)) + (1 : Int32)))), .second, .val (.ref b1), .val (.ref b5), .val (.ref b14), .unset, .unset] [(.ref b14)])) _
      refine st28.trans ?_
      show Steps p.tables e below (T28.setTop (mkF m 79 #[.val (.int p0), .val (.int p1), .val (.long q2), .second, .val (.long q3), .second, .val (.int p4), .val (.long q5), .second, .val (.int (p0 % (1000 : Int32))), .val (.int ((p1 &&& (1023 : Int32)) + (1 : Int32))), .val (.double (FP.i2d ((p0 % (1000 : Int32)) * ((p1 &&& (1023 : Int32)) + (1 : Int32))))), .second, .val (.double (FP.i2d ((p1 &&& (1023 : Int32)) + (1 : Int32)))), .second, .val (.ref b1), .val (.ref b5), .val (.ref b14), .unset, .unset] [(.double (FP.ddiv (FP.i2d ((p0 % (1000 : Int32)) * ((p1 &&& (1023 : Int32)) + (1 : Int32)))) (FP.i2d ((p1 &&& (1023 : Int32)) + (1 : Int32)))))])) _
      refine XS.dstore X28.here hx rfl (hb hby at_79) rfl (l' := #[.val (.int p0), .val (.int p1), .val (.long q2), .second, .val (.long q3), .second, .val (.int p4), .val (.long q5), .second, .val (.int (p0 % (1000 : Int32))), .val (.int ((p1 &&& (1023 : Int32)) + (1 : Int32))), .val (.double (FP.i2d ((p0 % (1000 : Int32)) * ((p1 &&& (1023 : Int32)) + (1 : Int32))))), .second, .val (.double (FP.i2d ((p1 &&& (1023 : Int32)) + (1 : Int32)))), .second, .val (.ref b1), .val (.ref b5), .val (.ref b14), .val (.double (FP.ddiv (FP.i2d ((p0 % (1000 : Int32)) * ((p1 &&& (1023 : Int32)) + (1 : Int32)))) (FP.i2d ((p1 &&& (1023 : Int32)) + (1 : Int32))))), .second]) rfl ?_
      show Steps p.tables e below (T28.setTop (mkF m 81 #[.val (.int p0), .val (.int p1), .val (.long q2), .second, .val (.long q3), .second, .val (.int p4), .val (.long q5), .second, .val (.int (p0 % (1000 : Int32))), .val (.int ((p1 &&& (1023 : Int32)) + (1 : Int32))), .val (.double (FP.i2d ((p0 % (1000 : Int32)) * ((p1 &&& (1023 : Int32)) + (1 : Int32))))), .second, .val (.double (FP.i2d ((p1 &&& (1023 : Int32)) + (1 : Int32)))), .second, .val (.ref b1), .val (.ref b5), .val (.ref b14), .val (.double (FP.ddiv (FP.i2d ((p0 % (1000 : Int32)) * ((p1 &&& (1023 : Int32)) + (1 : Int32)))) (FP.i2d ((p1 &&& (1023 : Int32)) + (1 : Int32))))), .second] [])) _
      refine XS.dload X28.here hx rfl (hb hby at_81) rfl ?_
      show Steps p.tables e below (T28.setTop (mkF m 83 #[.val (.int p0), .val (.int p1), .val (.long q2), .second, .val (.long q3), .second, .val (.int p4), .val (.long q5), .second, .val (.int (p0 % (1000 : Int32))), .val (.int ((p1 &&& (1023 : Int32)) + (1 : Int32))), .val (.double (FP.i2d ((p0 % (1000 : Int32)) * ((p1 &&& (1023 : Int32)) + (1 : Int32))))), .second, .val (.double (FP.i2d ((p1 &&& (1023 : Int32)) + (1 : Int32)))), .second, .val (.ref b1), .val (.ref b5), .val (.ref b14), .val (.double (FP.ddiv (FP.i2d ((p0 % (1000 : Int32)) * ((p1 &&& (1023 : Int32)) + (1 : Int32)))) (FP.i2d ((p1 &&& (1023 : Int32)) + (1 : Int32))))), .second] [(.double (FP.ddiv (FP.i2d ((p0 % (1000 : Int32)) * ((p1 &&& (1023 : Int32)) + (1 : Int32)))) (FP.i2d ((p1 &&& (1023 : Int32)) + (1 : Int32)))))])) _
      refine XS.iload X28.here hx rfl (hb hby at_83) rfl ?_
      show Steps p.tables e below (T28.setTop (mkF m 85 #[.val (.int p0), .val (.int p1), .val (.long q2), .second, .val (.long q3), .second, .val (.int p4), .val (.long q5), .second, .val (.int (p0 % (1000 : Int32))), .val (.int ((p1 &&& (1023 : Int32)) + (1 : Int32))), .val (.double (FP.i2d ((p0 % (1000 : Int32)) * ((p1 &&& (1023 : Int32)) + (1 : Int32))))), .second, .val (.double (FP.i2d ((p1 &&& (1023 : Int32)) + (1 : Int32)))), .second, .val (.ref b1), .val (.ref b5), .val (.ref b14), .val (.double (FP.ddiv (FP.i2d ((p0 % (1000 : Int32)) * ((p1 &&& (1023 : Int32)) + (1 : Int32)))) (FP.i2d ((p1 &&& (1023 : Int32)) + (1 : Int32))))), .second] [(.int (p0 % (1000 : Int32))), (.double (FP.ddiv (FP.i2d ((p0 % (1000 : Int32)) * ((p1 &&& (1023 : Int32)) + (1 : Int32)))) (FP.i2d ((p1 &&& (1023 : Int32)) + (1 : Int32)))))])) _
      refine XS.i2dS X28.here hx rfl (hb hby at_85) rfl rfl ?_
      show Steps p.tables e below (T28.setTop (mkF m 86 #[.val (.int p0), .val (.int p1), .val (.long q2), .second, .val (.long q3), .second, .val (.int p4), .val (.long q5), .second, .val (.int (p0 % (1000 : Int32))), .val (.int ((p1 &&& (1023 : Int32)) + (1 : Int32))), .val (.double (FP.i2d ((p0 % (1000 : Int32)) * ((p1 &&& (1023 : Int32)) + (1 : Int32))))), .second, .val (.double (FP.i2d ((p1 &&& (1023 : Int32)) + (1 : Int32)))), .second, .val (.ref b1), .val (.ref b5), .val (.ref b14), .val (.double (FP.ddiv (FP.i2d ((p0 % (1000 : Int32)) * ((p1 &&& (1023 : Int32)) + (1 : Int32)))) (FP.i2d ((p1 &&& (1023 : Int32)) + (1 : Int32))))), .second] [(.double (FP.i2d (p0 % (1000 : Int32)))), (.double (FP.ddiv (FP.i2d ((p0 % (1000 : Int32)) * ((p1 &&& (1023 : Int32)) + (1 : Int32)))) (FP.i2d ((p1 &&& (1023 : Int32)) + (1 : Int32)))))])) _
      refine XS.dcmpS X28.here hx rfl (hb hby at_86) rfl (v := (0 : Int32)) (own_cmp _ _) ?_
      show Steps p.tables e below (T28.setTop (mkF m 87 #[.val (.int p0), .val (.int p1), .val (.long q2), .second, .val (.long q3), .second, .val (.int p4), .val (.long q5), .second, .val (.int (p0 % (1000 : Int32))), .val (.int ((p1 &&& (1023 : Int32)) + (1 : Int32))), .val (.double (FP.i2d ((p0 % (1000 : Int32)) * ((p1 &&& (1023 : Int32)) + (1 : Int32))))), .second, .val (.double (FP.i2d ((p1 &&& (1023 : Int32)) + (1 : Int32)))), .second, .val (.ref b1), .val (.ref b5), .val (.ref b14), .val (.double (FP.ddiv (FP.i2d ((p0 % (1000 : Int32)) * ((p1 &&& (1023 : Int32)) + (1 : Int32)))) (FP.i2d ((p1 &&& (1023 : Int32)) + (1 : Int32))))), .second] [(.int (0 : Int32))])) _
      refine XS.ifNo X28.here hx rfl (hb hby at_87) rfl ((if0 _ _).trans (teq (rfl : (0 : Int32) = (0 : Int32))).2) ?_
      show Steps p.tables e below (T28.setTop (mkF m 90 #[.val (.int p0), .val (.int p1), .val (.long q2), .second, .val (.long q3), .second, .val (.int p4), .val (.long q5), .second, .val (.int (p0 % (1000 : Int32))), .val (.int ((p1 &&& (1023 : Int32)) + (1 : Int32))), .val (.double (FP.i2d ((p0 % (1000 : Int32)) * ((p1 &&& (1023 : Int32)) + (1 : Int32))))), .second, .val (.double (FP.i2d ((p1 &&& (1023 : Int32)) + (1 : Int32)))), .second, .val (.ref b1), .val (.ref b5), .val (.ref b14), .val (.double (FP.ddiv (FP.i2d ((p0 % (1000 : Int32)) * ((p1 &&& (1023 : Int32)) + (1 : Int32)))) (FP.i2d ((p1 &&& (1023 : Int32)) + (1 : Int32))))), .second] [])) _
      refine XS.iconst X28.here hx rfl (hb hby at_90) ?_
      show Steps p.tables e below (T28.setTop (mkF m 91 #[.val (.int p0), .val (.int p1), .val (.long q2), .second, .val (.long q3), .second, .val (.int p4), .val (.long q5), .second, .val (.int (p0 % (1000 : Int32))), .val (.int ((p1 &&& (1023 : Int32)) + (1 : Int32))), .val (.double (FP.i2d ((p0 % (1000 : Int32)) * ((p1 &&& (1023 : Int32)) + (1 : Int32))))), .second, .val (.double (FP.i2d ((p1 &&& (1023 : Int32)) + (1 : Int32)))), .second, .val (.ref b1), .val (.ref b5), .val (.ref b14), .val (.double (FP.ddiv (FP.i2d ((p0 % (1000 : Int32)) * ((p1 &&& (1023 : Int32)) + (1 : Int32)))) (FP.i2d ((p1 &&& (1023 : Int32)) + (1 : Int32))))), .second] [(.int (1 : Int32))])) _
      refine XS.goto X28.here hx rfl (pc0 := 91) (pc' := 95) rfl (hb hby at_91) (by decide) (by decide) ?_
      exact kt)
  obtain ⟨fs, hr, hrun, hended, hW, hsame⟩ := X28.leave (v := some (.int (1 : Int32))) (fun h => by rw [Bd.returns] at h; cases h)
  refine ⟨_, _, pre29 _ ?_, hrun, hended, _, _, rfl, ?_, ⟨_, rfl⟩, hW, hsame.mono (by decide) (by decide)⟩
  · show Steps p.tables e below (T28.setTop (mkF m 95 #[.val (.int p0), .val (.int p1), .val (.long q2), .second, .val (.long q3), .second, .val (.int p4), .val (.long q5), .second, .val (.int (p0 % (1000 : Int32))), .val (.int ((p1 &&& (1023 : Int32)) + (1 : Int32))), .val (.double (FP.i2d ((p0 % (1000 : Int32)) * ((p1 &&& (1023 : Int32)) + (1 : Int32))))), .second, .val (.double (FP.i2d ((p1 &&& (1023 : Int32)) + (1 : Int32)))), .second, .val (.ref b1), .val (.ref b5), .val (.ref b14), .val (.double (FP.ddiv (FP.i2d ((p0 % (1000 : Int32)) * ((p1 &&& (1023 : Int32)) + (1 : Int32)))) (FP.i2d ((p1 &&& (1023 : Int32)) + (1 : Int32))))), .second] [(.int (1 : Int32))])) _
    exact retN X28 hx (t := .boolean) Bd.returns (by simp) (hb hby at_95) hr
  · show Q0 Z _ _ _ _ _ _ h0 n0 _ T28.heap _
    rw [e28]
    exact ⟨rfl, N28, trivial⟩
set_option maxRecDepth 65536 in
set_option maxHeartbeats 40000000 in
theorem comes_1 {Post : Tables → Env → Array Value → State → Outcome → State → Prop} (hpost : ∀ tb e args s v u, (limb_1_1.after args s (.returned v) u = true ∧ limb_1_2.after args s (.returned v) u = true ∧ True) → FrameEnd s (.returned v) u (Jvm.fieldLocs frame_1_writes args s ++ Jvm.arrayLocs frame_1_arrays args s ++ Jvm.staticLocs frame_1_statics s) 16 128 → Post tb e args s (.returned v) u) :
    ArmFor flags0 classFile x code maxLocals ret World_1 tables_1 room_1 Calls_1 rest_1 Pre_1 Post := by
  intro l hfl _ _ p e ha hc hk s m args below hf hA hF happ hP
  obtain ⟨hcalls, hrest, hpre⟩ := hP
  obtain ⟨-, -, -, hnamed, -, -, -, hat⟩ := (Spec.applies_iff hf).mp happ
  obtain ⟨hg, hn⟩ := and_e (Cond.before_iff.mp (show (Jvm.Cond.and given_1 narrow_1).before args s = true from hpre))
  obtain ⟨hg0, hgr0⟩ := and_e hg
  obtain ⟨hg1, hgr1⟩ := and_e hgr0
  obtain ⟨hg2, hgr2⟩ := and_e hgr1
  obtain ⟨hg3, hgr3⟩ := and_e hgr2
  obtain ⟨hg4, hgr4⟩ := and_e hgr3
  obtain ⟨hg5, hgr5⟩ := and_e hgr4
  obtain ⟨w0, w1, w2, w3, w4, w5, rfl⟩ : ∃ w0 w1 w2 w3 w4 w5 : Value, args = #[w0, w1, w2, w3, w4, w5] := by
    have hs : args.size = 6 := by simpa [Cond.value, given_1] using hg0
    obtain ⟨L⟩ := args
    match L, hs with
    | [w0, w1, w2, w3, w4, w5], _ => exact ⟨w0, w1, w2, w3, w4, w5, rfl⟩
  have hw := fun d (hd : d ∈ tables_1) => atoms_spec (ws := Jvm.Cond.code x code maxLocals ret :: tables_1) hat d (List.mem_cons_of_mem _ hd)
  have hfit : Fit s := fun {y c} hc i hi => by
    obtain ⟨ha, rfl⟩ := Array.getElem?_eq_some_iff.mp hc
    have q := List.all_eq_true.mp ((Array.all_eq_true_iff_forall_mem.mp hF) _ (Array.getElem_mem ha)) i (List.mem_range.mpr hi)
    simpa [Array.getElem?_eq_getElem hi] using q
  obtain ⟨i0, ei0⟩ := is_v hg1
  obtain rfl : w0 = (.int i0) := Option.some.inj ei0
  obtain ⟨i1, ei1⟩ := is_v hg2
  obtain rfl : w1 = (.int i1) := Option.some.inj ei1
  obtain ⟨i2, ei2⟩ := isL_v hg3
  obtain rfl : w2 = (.long i2) := Option.some.inj ei2
  obtain ⟨i3, ei3⟩ := isL_v hg4
  obtain rfl : w3 = (.long i3) := Option.some.inj ei3
  obtain ⟨i4, ei4⟩ := is_v hg5
  obtain rfl : w4 = (.int i4) := Option.some.inj ei4
  obtain ⟨i5, ei5⟩ := isL_v hgr5
  obtain rfl : w5 = (.long i5) := Option.some.inj ei5
  obtain ⟨n, o, h1, h2, h3, _, L, rfl, ⟨rfl, N, -⟩, hq⟩ := rm0 l s _ hw tables_1 i0 i1 i2 i3 i4 i5 s.heap s.heap.size (Nat.le_refl _)  p e ha hc hk s m _ below hf ((Spec.applies_iff_loose hf).mp happ).1 ⟨rfl, State.Warmed39.refl s, rfl⟩ trivial
  refine ⟨n, _, h1, h2, h3, hpost _ _ _ _ _ _ ⟨Cond.after_iff.mpr rfl, Cond.after_iff.mpr (eq_i res_at (Term.int_eval (1)) rfl), trivial⟩ ⟨hq.1, hq.2.1, (hq.2.2.sift fun y hy => Or.inr (N y hy)).mono (by decide) (by decide)⟩⟩
theorem main_1_1 : Claimed_1_1 := comes_1 fun _ _ _ _ _ _ h hF => ⟨h.1, hF⟩
theorem main_1_2 : Claimed_1_2 := comes_1 fun _ _ _ _ _ _ h hF => ⟨h.2.1, hF⟩
end Jvm.Pilot.@@N@@
namespace Jvm.Pilot.@@N@@
open Jvm Jvm.ClassFile Sem Op Lib Jvm.Free Jvm.Stand Jvm.Pilot.@@N@@.Jvm.D
/-! MADE BY PROGRAM (witnessworld.py) out of the Statement's table words and the real class files: 11 classes; the members and pool entries that the words name. The judged class is class 1, her method 1. -/
namespace start1
open Jvm.ClassFile
def u (s : String) : CpInfo := .utf8 (stringToUtf16 s)
/-- a pool by its gaps: so many unusable entries, then the entry; so many at the end -/
def gap : Nat → List CpInfo → List CpInfo
  | 0, r => r
  | n + 1, r => .unusable :: gap n r
def poolList (es : List (Nat × CpInfo)) (last : Nat) : List CpInfo := es.foldr (fun e r => gap e.1 (e.2 :: r)) (gap last [])
def pool (es : List (Nat × CpInfo)) (last : Nat) : Array CpInfo := ⟨poolList es last⟩
def fileOf (pool : Array CpInfo) (this : Nat) (attrs : Array Attribute := #[]) (ms : Array MethodInfo := #[]) (fl : Nat := 33) (sup : Nat := 0) (ifs : Array Nat := #[]) (fds : Array FieldInfo := #[]) : ClassFile where
  minorVersion := 0
  majorVersion := 65
  constantPool := pool
  accessFlags := fl
  thisClass := this
  superClass := sup
  interfaces := ifs
  fields := fds
  methods := ms
  attributes := attrs
def plain (name : String) (sup : Option ClassId) : Class where
  name := name
  kind := .ordinary
  loader := none
  accessFlags := 33
  super := sup
  interfaces := #[]
  cf := none
  fields := #[]
  methods := #[]
  instanceTypes := #[]
  staticTypes := #[]
  resolved := #[]
  callSites := []
  init := .initialized
  statics := none
  mirror := none

def pool0 : Array CpInfo := pool [(5, u "<init>"), (0, u "()V"), (1, .class_ 10), (1, u "java/lang/Object")] 113

def k0c0 : Code := { maxStack := 0, maxLocals := 1, code := object_method_1_code, exceptionTable := #[], attributes := #[] }
def k0m0 : Method := { name := "<init>", desc := "()V", sig := { parameters := [], returnType := none }, accessFlags := 1, code := some k0c0 }
/-- java/lang/Object -/
def k0 : Class := { plain "java/lang/Object" none with
  accessFlags := 33
  interfaces := #[]
  cf := some (fileOf pool0 8 #[] #[{ accessFlags := 1, nameIndex := 5, descriptorIndex := 6, attributes := #[] }] 33 0 #[] #[])
  fields := #[]
  methods := #[k0m0]
  instanceTypes := #[]
  staticTypes := #[]
  resolved := Array.replicate 124 none
  statics := none }

def pool1 : Array CpInfo := pool [(2, .class_ 4), (1, u "java/lang/Object"), (0, u "<init>"), (0, u "()V"), (0, .class_ 8), (0, u "com/example/token_handoff/tokenhandoff/BenchReport$Latency"), (0, .methodref 7 10), (0, .nameAndType 5 11), (0, u "(DJJ)V"), (0, .class_ 13), (0, u "com/example/token_handoff/tokenhandoff/BenchReport"), (0, .methodref 12 15), (0, .nameAndType 5 16), (0, u "(ILcom/example/token_handoff/tokenhandoff/BenchReport$Latency;Lcom/example/token_handoff/tokenhandoff/BenchReport$Latency;J)V"), (0, .methodref 12 18), (0, .nameAndType 19 20), (0, u "meanToRoundTrip"), (0, u "()D"), (0, .class_ 22), (0, u "com/example/token_handoff/tokenhandoff/BenchReportMeanToRoundTripPinLaw"), (2, u "law"), (0, u "(IIJJIJ)Z")] 5

def k1m0 : Method := { name := "<init>", desc := "()V", sig := { parameters := [], returnType := none }, accessFlags := 1, code := none }
def k1c1 : Code := { maxStack := 8, maxLocals := 20, code := code, exceptionTable := #[], attributes := #[] }
def k1m1 : Method := { name := "law", desc := "(IIJJIJ)Z", sig := { parameters := [.int, .int, .long, .long, .int, .long], returnType := some .boolean }, accessFlags := 9, code := some k1c1 }
/-- com/example/token_handoff/tokenhandoff/BenchReportMeanToRoundTripPinLaw -/
def k1 : Class := { plain "com/example/token_handoff/tokenhandoff/BenchReportMeanToRoundTripPinLaw" (some 0) with
  accessFlags := 49
  interfaces := #[]
  cf := some (fileOf pool1 21 #[] #[{ accessFlags := 1, nameIndex := 5, descriptorIndex := 6, attributes := #[] }, { accessFlags := 9, nameIndex := 25, descriptorIndex := 26, attributes := #[] }] 49 2 #[] #[])
  fields := #[]
  methods := #[k1m0, k1m1]
  instanceTypes := #[]
  staticTypes := #[]
  resolved := Array.replicate 32 none
  statics := none }

def pool2 : Array CpInfo := pool [(1, .methodref 2 3), (0, .class_ 4), (0, .nameAndType 5 6), (0, u "java/lang/Object"), (0, u "<init>"), (0, u "()V"), (0, .class_ 8), (0, u "java/lang/Record")] 13

def k2c0 : Code := { maxStack := 1, maxLocals := 1, code := jdk_30_method_1_code, exceptionTable := #[], attributes := #[] }
def k2m0 : Method := { name := "<init>", desc := "()V", sig := { parameters := [], returnType := none }, accessFlags := 4, code := some k2c0 }
/-- java/lang/Record -/
def k2 : Class := { plain "java/lang/Record" (some 0) with
  accessFlags := 1057
  interfaces := #[]
  cf := some (fileOf pool2 7 #[] #[{ accessFlags := 4, nameIndex := 5, descriptorIndex := 6, attributes := #[] }] 1057 2 #[] #[])
  fields := #[]
  methods := #[k2m0]
  instanceTypes := #[]
  staticTypes := #[]
  resolved := Array.replicate 22 none
  statics := none }

def pool3 : Array CpInfo := pool [(1, .methodref 2 3), (0, .class_ 4), (0, .nameAndType 5 6), (0, u "java/lang/Record"), (0, u "<init>"), (0, u "()V"), (0, .fieldref 8 9), (0, .class_ 10), (0, .nameAndType 11 12), (0, u "com/example/token_handoff/tokenhandoff/BenchReport$Latency"), (0, u "mean"), (0, u "D"), (0, .fieldref 8 14), (0, .nameAndType 15 16), (0, u "p50"), (0, u "J"), (0, .fieldref 8 18), (0, .nameAndType 19 16), (0, u "p99"), (53, u "(DJJ)V"), (31, u "()D"), (3, .class_ 110), (0, u "com/example/token_handoff/tokenhandoff/BenchReport")] 21

def k3c0 : Code := { maxStack := 3, maxLocals := 7, code := prog_2_method_1_code, exceptionTable := #[], attributes := #[] }
def k3m0 : Method := { name := "<init>", desc := "(DJJ)V", sig := { parameters := [.double, .long, .long], returnType := none }, accessFlags := 1, code := some k3c0 }
def k3c1 : Code := { maxStack := 2, maxLocals := 1, code := prog_2_method_7_code, exceptionTable := #[], attributes := #[] }
def k3m1 : Method := { name := "mean", desc := "()D", sig := { parameters := [], returnType := some .double }, accessFlags := 1, code := some k3c1 }
/-- com/example/token_handoff/tokenhandoff/BenchReport$Latency -/
def k3 : Class := { plain "com/example/token_handoff/tokenhandoff/BenchReport$Latency" (some 2) with
  accessFlags := 49
  interfaces := #[]
  cf := some (fileOf pool3 8 #[.nestHost 109] #[{ accessFlags := 1, nameIndex := 5, descriptorIndex := 73, attributes := #[] }, { accessFlags := 1, nameIndex := 11, descriptorIndex := 105, attributes := #[] }] 49 2 #[] #[{ accessFlags := 18, nameIndex := 11, descriptorIndex := 12, attributes := #[] }, { accessFlags := 18, nameIndex := 15, descriptorIndex := 16, attributes := #[] }, { accessFlags := 18, nameIndex := 19, descriptorIndex := 16, attributes := #[] }])
  fields := #[{ name := "mean", type := .double, accessFlags := 18, slot := 0, constantValue := 0 }, { name := "p50", type := .long, accessFlags := 18, slot := 1, constantValue := 0 }, { name := "p99", type := .long, accessFlags := 18, slot := 2, constantValue := 0 }]
  methods := #[k3m0, k3m1]
  instanceTypes := #[.double, .long, .long]
  staticTypes := #[]
  resolved := Array.replicate 132 none
  statics := none }

def pool4 : Array CpInfo := pool [(1, .methodref 2 3), (0, .class_ 4), (0, .nameAndType 5 6), (0, u "java/lang/Record"), (0, u "<init>"), (0, u "()V"), (0, .fieldref 8 9), (0, .class_ 10), (0, .nameAndType 11 12), (0, u "com/example/token_handoff/tokenhandoff/BenchReport"), (0, u "handoffs"), (0, u "I"), (0, .fieldref 8 14), (0, .nameAndType 15 16), (0, u "roundTrip"), (0, u "Lcom/example/token_handoff/tokenhandoff/BenchReport$Latency;"), (0, .fieldref 8 18), (0, .nameAndType 19 16), (0, u "handoff"), (0, .fieldref 8 21), (0, .nameAndType 22 23), (0, u "kept"), (0, u "J"), (0, .methodref 25 26), (0, .class_ 27), (0, .nameAndType 28 29), (0, u "com/example/token_handoff/tokenhandoff/BenchReport$Latency"), (0, u "mean"), (0, u "()D"), (16, u "(ILcom/example/token_handoff/tokenhandoff/BenchReport$Latency;Lcom/example/token_handoff/tokenhandoff/BenchReport$Latency;J)V"), (3, u "meanToRoundTrip")] 30

def k4c0 : Code := { maxStack := 3, maxLocals := 6, code := prog_1_method_1_code, exceptionTable := #[], attributes := #[] }
def k4m0 : Method := { name := "<init>", desc := "(ILcom/example/token_handoff/tokenhandoff/BenchReport$Latency;Lcom/example/token_handoff/tokenhandoff/BenchReport$Latency;J)V", sig := { parameters := [.int, (.object "com/example/token_handoff/tokenhandoff/BenchReport$Latency"), (.object "com/example/token_handoff/tokenhandoff/BenchReport$Latency"), .long], returnType := none }, accessFlags := 1, code := some k4c0 }
def k4c1 : Code := { maxStack := 4, maxLocals := 1, code := prog_1_method_2_code, exceptionTable := #[], attributes := #[] }
def k4m1 : Method := { name := "meanToRoundTrip", desc := "()D", sig := { parameters := [], returnType := some .double }, accessFlags := 1, code := some k4c1 }
/-- com/example/token_handoff/tokenhandoff/BenchReport -/
def k4 : Class := { plain "com/example/token_handoff/tokenhandoff/BenchReport" (some 2) with
  accessFlags := 49
  interfaces := #[]
  cf := some (fileOf pool4 8 #[.nestMembers #[25]] #[{ accessFlags := 1, nameIndex := 5, descriptorIndex := 46, attributes := #[] }, { accessFlags := 1, nameIndex := 50, descriptorIndex := 29, attributes := #[] }] 49 2 #[] #[{ accessFlags := 18, nameIndex := 11, descriptorIndex := 12, attributes := #[] }, { accessFlags := 18, nameIndex := 15, descriptorIndex := 16, attributes := #[] }, { accessFlags := 18, nameIndex := 19, descriptorIndex := 16, attributes := #[] }, { accessFlags := 18, nameIndex := 22, descriptorIndex := 23, attributes := #[] }])
  fields := #[{ name := "handoffs", type := .int, accessFlags := 18, slot := 0, constantValue := 0 }, { name := "roundTrip", type := (.object "com/example/token_handoff/tokenhandoff/BenchReport$Latency"), accessFlags := 18, slot := 1, constantValue := 0 }, { name := "handoff", type := (.object "com/example/token_handoff/tokenhandoff/BenchReport$Latency"), accessFlags := 18, slot := 2, constantValue := 0 }, { name := "kept", type := .long, accessFlags := 18, slot := 3, constantValue := 0 }]
  methods := #[k4m0, k4m1]
  instanceTypes := #[.int, (.object "com/example/token_handoff/tokenhandoff/BenchReport$Latency"), (.object "com/example/token_handoff/tokenhandoff/BenchReport$Latency"), .long]
  staticTypes := #[]
  resolved := Array.replicate 81 none
  statics := none }

def pool5 : Array CpInfo := pool [(1, u "java/lang/Cloneable"), (0, .class_ 1), (0, u "java/lang/Object"), (0, .class_ 3)] 3

/-- java/lang/Cloneable -/
def k5 : Class := { plain "java/lang/Cloneable" (some 0) with
  accessFlags := 1537
  interfaces := #[]
  cf := some (fileOf pool5 2 #[] #[] 1537 4 #[] #[])
  fields := #[]
  methods := #[]
  instanceTypes := #[]
  staticTypes := #[]
  resolved := Array.replicate 8 none
  statics := none }

def pool6 : Array CpInfo := pool [(1, u "java/io/Serializable"), (0, .class_ 1), (0, u "java/lang/Object"), (0, .class_ 3)] 3

/-- java/io/Serializable -/
def k6 : Class := { plain "java/io/Serializable" (some 0) with
  accessFlags := 1537
  interfaces := #[]
  cf := some (fileOf pool6 2 #[] #[] 1537 4 #[] #[])
  fields := #[]
  methods := #[]
  instanceTypes := #[]
  staticTypes := #[]
  resolved := Array.replicate 8 none
  statics := none }

/-- the primitive byte -/
def k7 : Class := { plain "byte" none with kind := .primitive 'B', accessFlags := 0x411 }
/-- [B -/
def k8 : Class := { plain "[B" (some 0) with kind := .array 7 .byte, interfaces := #[5, 6], accessFlags := 1041 }

/-- the primitive int -/
def k9 : Class := { plain "int" none with kind := .primitive 'I', accessFlags := 0x411 }
/-- [I -/
def k10 : Class := { plain "[I" (some 0) with kind := .array 9 .int, interfaces := #[5, 6], accessFlags := 1041 }

def heap : Heap := #[]
def classes : Array Class := #[k0, k1, k2, k3, k4, k5, k6, k7, k8, k9, k10]
def interned : List (Array UInt16 × Addr) := []
def slotsUsed : Nat := 0
def theMethod : MethodId := ⟨1, 1⟩
def args0 : Array Value := #[.int 3, .int 4, .long 4, .long 5, .int 6, .long 7]
def aboutOver (below : List Frame) : State where
  vm := { classes := classes, interned := interned.toArray }
  heap := heap
  slotsUsed := slotsUsed
  threads := #[{ frames := .invoking theMethod args0 :: below }]
def below0 : List Frame := [.native { method := ⟨0, 0⟩, args := #[] }]
def about1 : State := aboutOver below0
def p0 : Program := .bare "" "" ""
def e0 : Env := launch0.env 0 0 0
theorem w_frames : about1.frames = Frame.invoking theMethod args0 :: below0 := rfl
set_option maxRecDepth 65536 in
theorem w_args : argsFit about1.vm theMethod args0 = true := by decide +kernel
set_option maxRecDepth 65536 in
theorem w_heap : heapFits about1 = true := by decide +kernel
set_option maxRecDepth 65536 in
theorem w_runnable : about1.curStatus? = some .runnable := by decide +kernel
set_option maxRecDepth 65536 in
theorem w_alone : about1.alone = true := by decide +kernel
set_option maxRecDepth 65536 in
theorem w_named : about1.methodNamed? x = some theMethod := by decide +kernel
set_option maxRecDepth 65536 in
theorem w_hears : about1.hears theMethod below0 = true := by decide +kernel
set_option maxRecDepth 65536 in
theorem w_ripe : about1.ripe theMethod args0 below0 = true := by decide +kernel
theorem w_running : about1.status = .running := rfl
set_option maxRecDepth 65536 in
theorem w_room : about1.hasRoom e0.platform room_1 = true :=
  launch0.hasRoom_least _ room_1 (by decide +kernel) (by decide +kernel) (by decide +kernel) (by decide +kernel) (by decide +kernel) (by decide +kernel)
theorem allAtoms_all (ts : List Jvm.Cond) (a : Array Jvm.Value) (st : Jvm.State) : (allAtoms ts).before a st = ts.all (fun c => c.before a st) := by
  induction ts with
  | nil => rfl
  | cons c t ih =>
    show (Jvm.Cond.and c (allAtoms t)).before a st = _
    rw [Jvm.Cond.before_and, ih, List.all_cons]
def words1 : List Jvm.Cond := Jvm.Cond.code x code maxLocals ret :: tables_1
/-- a 'code' word, met by the world's own term for the bytes: nothing is compared byte by byte -/
theorem code_word {y : MethodName} {bytes : ByteArray} {mx : Nat} {rt : Option FieldType} {a : Array Value} {s : State} {m : MethodId} {meth : Method} {c : Code} (h1 : s.methodNamed? y = some m) (h2 : s.vm.method? m = some meth) (h3 : meth.code = some c) (h4 : c.code = bytes)
    (h5 : (c.maxLocals == mx && c.exceptionTable.isEmpty && decide (c.maxStack ≤ mostOperands) && decide (meth.sig.returnType = rt) && !meth.locks && decide (parseMethodDescriptor y.desc = some meth.sig)) = true) : (Jvm.Cond.code y bytes mx rt).before a s = true := by
  simp only [Bool.and_eq_true, beq_iff_eq, Bool.not_eq_true', decide_eq_true_eq] at h5
  obtain ⟨⟨⟨⟨⟨g1, g2⟩, g3⟩, g4⟩, g5⟩, g6⟩ := h5
  simp [Cond.before, Cond.holds, Cond.value, h1, h2, h3, h4, g1, g2, g3, g4, g5, g6]
def isCode : Jvm.Cond → Bool
  | .code _ _ _ _ => true
  | _ => false
theorem all_split {L : List Jvm.Cond} {P : Jvm.Cond → Bool} (h1 : L.all (fun c => isCode c || P c) = true) (h2 : ∀ c ∈ L.filter isCode, P c = true) : L.all P = true := by
  refine List.all_eq_true.mpr fun c hc => ?_
  have h := List.all_eq_true.mp h1 c hc
  rcases Bool.eq_false_or_eq_true (isCode c) with hi | hi
  · exact h2 c (List.mem_filter.mpr ⟨hc, hi⟩)
  · simpa [hi] using h
set_option maxRecDepth 65536 in
theorem w_c0 : (Jvm.Cond.code x code maxLocals ret).before args0 about1 = true := code_word (m := ⟨1, 1⟩) (meth := k1m1) (c := k1c1) (by decide +kernel) rfl rfl rfl (by decide +kernel)
set_option maxRecDepth 65536 in
theorem w_c1 : (Jvm.Cond.code ({ cls := "com/example/token_handoff/tokenhandoff/BenchReport$Latency", name := "<init>", desc := "(DJJ)V" } : Jvm.MethodName) prog_2_method_1_code (7 : Nat) (Option.none : Option Jvm.ClassFile.FieldType)).before args0 about1 = true := code_word (m := ⟨3, 0⟩) (meth := k3m0) (c := k3c0) (by decide +kernel) rfl rfl rfl (by decide +kernel)
set_option maxRecDepth 65536 in
theorem w_c2 : (Jvm.Cond.code ({ cls := "java/lang/Record", name := "<init>", desc := "()V" } : Jvm.MethodName) jdk_30_method_1_code (1 : Nat) (Option.none : Option Jvm.ClassFile.FieldType)).before args0 about1 = true := code_word (m := ⟨2, 0⟩) (meth := k2m0) (c := k2c0) (by decide +kernel) rfl rfl rfl (by decide +kernel)
set_option maxRecDepth 65536 in
theorem w_c3 : (Jvm.Cond.code ({ cls := "java/lang/Object", name := "<init>", desc := "()V" } : Jvm.MethodName) object_method_1_code (1 : Nat) (Option.none : Option Jvm.ClassFile.FieldType)).before args0 about1 = true := code_word (m := ⟨0, 0⟩) (meth := k0m0) (c := k0c0) (by decide +kernel) rfl rfl rfl (by decide +kernel)
set_option maxRecDepth 65536 in
theorem w_c4 : (Jvm.Cond.code ({ cls := "com/example/token_handoff/tokenhandoff/BenchReport", name := "<init>", desc := "(ILcom/example/token_handoff/tokenhandoff/BenchReport$Latency;Lcom/example/token_handoff/tokenhandoff/BenchReport$Latency;J)V" } : Jvm.MethodName) prog_1_method_1_code (6 : Nat) (Option.none : Option Jvm.ClassFile.FieldType)).before args0 about1 = true := code_word (m := ⟨4, 0⟩) (meth := k4m0) (c := k4c0) (by decide +kernel) rfl rfl rfl (by decide +kernel)
set_option maxRecDepth 65536 in
theorem w_c5 : (Jvm.Cond.code ({ cls := "com/example/token_handoff/tokenhandoff/BenchReport", name := "meanToRoundTrip", desc := "()D" } : Jvm.MethodName) prog_1_method_2_code (1 : Nat) (Option.some Jvm.ClassFile.FieldType.double)).before args0 about1 = true := code_word (m := ⟨4, 1⟩) (meth := k4m1) (c := k4c1) (by decide +kernel) rfl rfl rfl (by decide +kernel)
set_option maxRecDepth 65536 in
theorem w_c6 : (Jvm.Cond.code ({ cls := "com/example/token_handoff/tokenhandoff/BenchReport$Latency", name := "mean", desc := "()D" } : Jvm.MethodName) prog_2_method_7_code (1 : Nat) (Option.some Jvm.ClassFile.FieldType.double)).before args0 about1 = true := code_word (m := ⟨3, 1⟩) (meth := k3m1) (c := k3c1) (by decide +kernel) rfl rfl rfl (by decide +kernel)
def codes1 : List Jvm.Cond := [Jvm.Cond.code x code maxLocals ret, Jvm.Cond.code ({ cls := "com/example/token_handoff/tokenhandoff/BenchReport$Latency", name := "<init>", desc := "(DJJ)V" } : Jvm.MethodName) prog_2_method_1_code (7 : Nat) (Option.none : Option Jvm.ClassFile.FieldType), Jvm.Cond.code ({ cls := "java/lang/Record", name := "<init>", desc := "()V" } : Jvm.MethodName) jdk_30_method_1_code (1 : Nat) (Option.none : Option Jvm.ClassFile.FieldType), Jvm.Cond.code ({ cls := "java/lang/Object", name := "<init>", desc := "()V" } : Jvm.MethodName) object_method_1_code (1 : Nat) (Option.none : Option Jvm.ClassFile.FieldType), Jvm.Cond.code ({ cls := "com/example/token_handoff/tokenhandoff/BenchReport", name := "<init>", desc := "(ILcom/example/token_handoff/tokenhandoff/BenchReport$Latency;Lcom/example/token_handoff/tokenhandoff/BenchReport$Latency;J)V" } : Jvm.MethodName) prog_1_method_1_code (6 : Nat) (Option.none : Option Jvm.ClassFile.FieldType), Jvm.Cond.code ({ cls := "com/example/token_handoff/tokenhandoff/BenchReport", name := "meanToRoundTrip", desc := "()D" } : Jvm.MethodName) prog_1_method_2_code (1 : Nat) (Option.some Jvm.ClassFile.FieldType.double), Jvm.Cond.code ({ cls := "com/example/token_handoff/tokenhandoff/BenchReport$Latency", name := "mean", desc := "()D" } : Jvm.MethodName) prog_2_method_7_code (1 : Nat) (Option.some Jvm.ClassFile.FieldType.double)]
set_option maxRecDepth 65536 in
theorem codes_eq : words1.filter isCode = codes1 := rfl
theorem w_codes : ∀ c ∈ words1.filter isCode, c.before args0 about1 = true := by
  rw [codes_eq]
  intro c hc
  simp only [codes1, List.mem_cons, List.not_mem_nil, or_false] at hc
  rcases hc with rfl | rfl | rfl | rfl | rfl | rfl | rfl
  · exact w_c0
  · exact w_c1
  · exact w_c2
  · exact w_c3
  · exact w_c4
  · exact w_c5
  · exact w_c6
set_option maxRecDepth 65536 in
theorem w_t1 : (words1.take 24).all (fun c => isCode c || c.before args0 about1) = true := by decide +kernel
set_option maxRecDepth 65536 in
theorem w_t2 : (words1.drop 24).all (fun c => isCode c || c.before args0 about1) = true := by decide +kernel
theorem w_tables : (allAtoms (Jvm.Cond.code x code maxLocals ret :: tables_1)).before args0 about1 = true := by
  rw [allAtoms_all]
  show words1.all (fun c => c.before args0 about1) = true
  refine all_split ?_ w_codes
  rw [← List.take_append_drop 24 words1, List.all_append, w_t1, w_t2]
  rfl
set_option maxRecDepth 65536 in
theorem w_case : (Jvm.Cond.and given_1 narrow_1).before args0 about1 = true := by decide +kernel
theorem w_applies : (headSpec (Jvm.Cond.code x code maxLocals ret :: tables_1) room_1).applies x e0.platform about1 = true :=
  (Spec.applies_iff w_frames).mpr ⟨w_running, w_runnable, w_alone, w_named, w_hears, w_ripe, w_room, w_tables⟩
theorem atStart : AtStart classFile x code maxLocals ret World_1 tables_1 room_1 Calls_1 rest_1 Pre_1 launch0 p0 e0 about1 theMethod args0 below0 :=
  ⟨lists_1, trivial, launch0.admits_env _ _ _, launch0.least_env, fairChoices_fair.cas, fairChoices_fair.clock, w_frames, w_args, w_heap, w_applies, trivial, trivial, w_case⟩
end start1
theorem witness_1 : WitnessClaimed_1 := ⟨start1.p0, start1.e0, start1.about1, start1.theMethod, start1.args0, start1.below0, start1.atStart⟩
end Jvm.Pilot.@@N@@
