import JvmDerived
import JvmDerived.Pilot.@@N@@Statement
import JvmDerived.Pilot.@@N@@Code
set_option linter.unusedVariables false
set_option linter.unusedSimpArgs false
namespace Jvm.RoadKit
open Sem ClassFile Op Lib Jvm.Stand Jvm.Free Jvm.LawKit
section New
variable {p : Program} {l : Launch} {e : Env} {R : Room} {s : State} {m : MethodId} {args : Array Value} {below : List Frame} {meth : Method} {c : Code} {T : State} {locs : List Loc} {cells slots : Nat}
theorem retI (X : Stand p l e R s m args below meth c T locs cells slots) (hx : p.tables.exec = Jvm.exec) {pc : Nat} {Ls : Array Slot} {z : Int32} {rest : List Value} (hret : meth.sig.returnType = some .int) (hd : decode c.code pc = .ok (.ireturn, 1)) {fs : List Frame}
    (hl : ∀ (f : JFrame) (acts : List Action), f.method = m → f.locked = none → f.entered = [] → (doReturn e (T.setTop f) acts (some (.int z))).1 = T.setFrames fs) : Steps p.tables e below (T.setTop (mkF m pc Ls (.int z :: rest))) (T.setFrames fs) := by
  have hm' : T.vm.method? m = some meth := X.method'
  have hn : narrow .int (.int z) = .int z := rfl
  show Steps p.tables e below (T.setTop { method := m, pc := pc, locals := Ls, stack := _ :: rest, locked := none }) _
  jvm_step X.here [X.here.top, hx, hd, hm', hret, hn]
  first | (intro acts; rw [hl _ acts rfl rfl rfl]) | rw [hl _ _ rfl rfl rfl]
  exact Steps.refl _
end New
end Jvm.RoadKit
namespace Jvm.Pilot.@@N@@
open Jvm Jvm.ClassFile Sem Op Lib Jvm.Free Jvm.Stand Jvm.LawKit Jvm.RoadKit Bundle Jvm.Pilot.@@N@@.Jvm.D
theorem own_eqI {t : Term} {args : Array Value} {first s : State} {o : Option Outcome} {idx : List Nat} {k : Int32} (h : (Jvm.Cond.eq t (.int k)).value args first o s idx = some true) : t.eval args first o idx s = some (.int k) := by
  cases ht : t.eval args first o idx s with
  | none => simp [Cond.value, ht] at h
  | some x => cases x <;> simp [Cond.value, ht, Term.eval] at h ⊢ <;> exact h
theorem own_eqJ {t : Term} {args : Array Value} {first s : State} {o : Option Outcome} {idx : List Nat} {k : Int64} (h : (Jvm.Cond.eq t (.long k)).value args first o s idx = some true) : t.eval args first o idx s = some (.long k) := by
  cases ht : t.eval args first o idx s with
  | none => simp [Cond.value, ht] at h
  | some x => cases x <;> simp [Cond.value, ht, Term.eval] at h ⊢ <;> exact h
theorem own_eqR {t u : Term} {args : Array Value} {first s : State} {o : Option Outcome} {idx : List Nat} {x : Addr} (h : (Jvm.Cond.eq t u).value args first o s idx = some true) (hu : u.eval args first o idx s = some (.ref x)) : t.eval args first o idx s = some (.ref x) := by
  cases ht : t.eval args first o idx s with
  | none => simp [Cond.value, ht] at h
  | some z => cases z <;> simp [Cond.value, ht, hu] at h ⊢ <;> exact h
theorem cat_of {v : Value} (h : v.isRef = true) : v.category = 1 := by rcases ref_cases h with rfl | ⟨a, rfl⟩ <;> rfl
theorem own_fits {n : String} {v : Value} (h : v.isRef = true) : fits (.object n) v = true := by rcases ref_cases h with rfl | ⟨a, rfl⟩ <;> rfl
theorem own_exa_ns {Z : State} {h : Heap} {a : Addr} {C : String} (E : Exa Z h a C) : ∀ c : Cell, h[a]? = some c → c.vm.isStatics = false := fun c hc => by
  obtain ⟨cell, k, h1, -, -, h4, -⟩ := E
  cases h1.symm.trans hc; exact h4
theorem own_arv_ns {Z : State} {h : Heap} {a : Addr} {k : ClassId} {ty : FieldType} {z : Int32} {vs : List Value} {d : Value} (F : Arv Z h a k ty z vs d) : ∀ c : Cell, h[a]? = some c → c.vm.isStatics = false := fun c hc => by
  obtain ⟨cl, A, -⟩ := F
  cases A.1.symm.trans hc; exact A.plain
theorem own_sta_keep {Z : State} {h h' : Heap} {ws : List Addr} {C n d : String} {v : Value} (F : Sta Z h C n d v) (K : Keep h h' ws) (q : ∀ x ∈ ws, ∀ c : Cell, h[x]? = some c → c.vm.isStatics = false) : Sta Z h' C n d v := by
  obtain ⟨cf, i, k, f, st, cell, h1, h2, h3, h4, h5, h6, r⟩ := F
  refine ⟨cf, i, k, f, st, cell, h1, h2, h3, h4, K.2.1 st cell h5 (fun hm => ?_), h6, r⟩
  have := q st hm cell h5
  rw [h6] at this; cases this
theorem own_mono {s t : State} {o : Outcome} {L : List Loc} {k n k' n' : Nat} (h : ReturnedEndW s o t L k n) (hk : k ≤ k') (hn : n ≤ n') : ReturnedEndW s o t L k' n' := ⟨h.1, h.2.1, h.2.2.1, h.2.2.2.mono hk hn⟩
theorem own_wS {Z : State} {aw : Array Value} (hw : ∀ d ∈ tables_1, d.before aw Z = true) : ∀ a ∈ Bundle.stringAtoms, a.before aw Z = true := by
  intro a ha
  simp only [Bundle.stringAtoms, Bundle.sN, List.mem_cons, List.not_mem_nil, or_false] at ha
  rcases ha with rfl | rfl | rfl | rfl | rfl | rfl | rfl
  · exact (hw _ (List.mem_of_getElem? (i := 6) rfl))
  · exact (hw _ (List.mem_of_getElem? (i := 5) rfl))
  · exact (hw _ (List.mem_of_getElem? (i := 19) rfl))
  · exact (hw _ (List.mem_of_getElem? (i := 20) rfl))
  · exact (hw _ (List.mem_of_getElem? (i := 21) rfl))
  · exact (hw _ (List.mem_of_getElem? (i := 22) rfl))
  · exact (hw _ (List.mem_of_getElem? (i := 23) rfl))
theorem own_neI {t : Term} {args : Array Value} {first s : State} {o : Option Outcome} {idx : List Nat} {w k : Int32} (h : (Jvm.Cond.not (.eq t (.int k))).value args first o s idx = some true) (ht : t.eval args first o idx s = some (.int w)) : ¬ w = k := by
  intro e
  subst e
  simp [Cond.value, ht, Term.eval] at h
theorem own_EW {Z : State} {aw : Array Value} (hw : ∀ d ∈ tables_1, d.before aw Z = true) : EW Z aw consts_1 := (EW.cons (hw _ (List.mem_of_getElem? (i := 33) rfl)) (by decide) (EW.cons (hw _ (List.mem_of_getElem? (i := 18) rfl)) (by decide) EW.nil))
def own_c8 (x : Int32) : Prop := 0 ≤ x.toInt ∧ x.toInt ≤ 255
def own_vs (n c0 c1 : Int32) : List Value := if n = 0 then [] else if n = 1 then [(.int ((c0.toInt8.toInt32)).toInt8.toInt32)] else [(.int ((c0.toInt8.toInt32)).toInt8.toInt32), (.int ((c1.toInt8.toInt32)).toInt8.toInt32)]
theorem own_vs0 (c0 c1 : Int32) : own_vs 0 c0 c1 = [] := by unfold own_vs; rw [if_pos rfl]
theorem own_vs1 (c0 c1 : Int32) : own_vs 1 c0 c1 = [(.int ((c0.toInt8.toInt32)).toInt8.toInt32)] := by unfold own_vs; rw [if_neg (by decide), if_pos rfl]
theorem own_vs2 (c0 c1 : Int32) : own_vs 2 c0 c1 = [(.int ((c0.toInt8.toInt32)).toInt8.toInt32), (.int ((c1.toInt8.toInt32)).toInt8.toInt32)] := by unfold own_vs; rw [if_neg (by decide), if_neg (by decide)]
theorem own_le8 {x : Int32} (h : own_c8 x) : ¬ ((255 : Int32) < x) := by
  have q : (255 : Int32).toInt = 255 := by decide
  rw [Int32.lt_iff_toInt_lt]; unfold own_c8 at h; omega
theorem own_nar8 {x : Int32} (h : own_c8 x) : nar .char x = x := by
  show x.toUInt32.toUInt16.toUInt32.toInt32 = x
  have q := c_i2c x
  unfold own_c8 at h
  apply Int32.toInt_inj.mp
  omega
theorem own_b8 {x y : Int32} (hx : own_c8 x) (hy : own_c8 y) : ((x.toInt8.toInt32)).toInt8.toInt32 = ((y.toInt8.toInt32)).toInt8.toInt32 ↔ x = y := by
  constructor
  · intro e
    have a := c_i2b x
    have b := c_i2b (x.toInt8.toInt32)
    have c := c_i2b y
    have d := c_i2b (y.toInt8.toInt32)
    have e' := congrArg Int32.toInt e
    unfold own_c8 at hx hy
    apply Int32.toInt_inj.mp
    omega
  · rintro rfl; rfl
theorem own_ch (x : Int32) : own_c8 ((x &&& (255 : Int32)).toUInt32.toUInt16.toUInt32.toInt32) := by
  rw [i2c_mask]
  have h := c_and x 255 (by decide)
  have q : (255 : Int32).toInt = 255 := by decide
  unfold own_c8; omega
theorem own_l3 (x : Int32) : (0 : Int32) = (x &&& (3 : Int32)) % (3 : Int32) ∨ (1 : Int32) = (x &&& (3 : Int32)) % (3 : Int32) ∨ (2 : Int32) = (x &&& (3 : Int32)) % (3 : Int32) := by
  have h := c_and x 3 (by decide)
  have g := (c_irem (x &&& 3) 3 3 rfl).1 h.1
  have q : (0 : Int32).toInt = 0 ∧ (1 : Int32).toInt = 1 ∧ (2 : Int32).toInt = 2 := by decide
  have b := Int.emod_nonneg (x &&& 3).toInt (show (3 : Int) ≠ 0 by decide)
  have c := Int.emod_lt_of_pos (x &&& 3).toInt (show (0 : Int) < 3 by decide)
  have k : ((x &&& 3) % 3).toInt = 0 ∨ ((x &&& 3) % 3).toInt = 1 ∨ ((x &&& 3) % 3).toInt = 2 := by omega
  rcases k with k | k | k
  · exact Or.inl (Int32.toInt_inj.mp (by rw [k]; exact q.1))
  · exact Or.inr (Or.inl (Int32.toInt_inj.mp (by rw [k]; exact q.2.1)))
  · exact Or.inr (Or.inr (Int32.toInt_inj.mp (by rw [k]; exact q.2.2)))
theorem own_sym {z1 z2 x0 y0 x1 y1 n m : Int32} (h : (z1 = z2 ∧ (z1 < (1 : Int32) ∨ x0 = y0) ∧ (z1 < (2 : Int32) ∨ x1 = y1)) ∧ n = m) : (z2 = z1 ∧ (z2 < (1 : Int32) ∨ y0 = x0) ∧ (z2 < (2 : Int32) ∨ y1 = x1)) ∧ m = n := by
  obtain ⟨⟨rfl, a, b⟩, rfl⟩ := h
  exact ⟨⟨rfl, a.imp id Eq.symm, b.imp id Eq.symm⟩, rfl⟩
theorem own_notsub {Z : State} {aw : Array Value} {C S K : String} {n : Nat} (w1 : (Jvm.Cond.superclass C S).before aw Z = true) (w2 : (Jvm.Cond.noSuperclass S).before aw Z = true) (wk : (Jvm.Cond.instantiable K n).before aw Z = true) (hc : C ≠ K) (hs : S ≠ K) :
    ∃ c t, Z.vm.findClass C = some c ∧ Z.vm.findClass K = some t ∧ Z.vm.assignable c t = false := by
  obtain ⟨t, k', g0, g2, g5, g7, -⟩ := Cond.instantiable_spec wk
  obtain ⟨o, ko, o1, o2, o3, -, -⟩ := Cond.noSuperclass_spec w2
  obtain ⟨c, h0⟩ := found_sup w1
  obtain ⟨p, k, kp, h1, h2, h3, h4, h5, -, h7⟩ := Cond.superclass_spec h0 w1
  cases o1.symm.trans h1
  have neo := ids_ne o1 g0 hs
  have nec := ids_ne h0 g0 hc
  have ns0 : ∀ fuel, Z.vm.isSubclassAux fuel o t = false := fun fuel => by
    cases fuel with
    | zero => rfl
    | succ f => simp [Vm.isSubclassAux, neo, o2, o3]
  have ns1 : ∀ fuel, Z.vm.isSubclassAux fuel c t = false := fun fuel => by
    cases fuel with
    | zero => rfl
    | succ f => simp [Vm.isSubclassAux, nec, h2, h4, ns0]
  have g8 : k'.isInterface = false := (Bool.or_eq_false_iff.mp g7).1
  refine ⟨c, t, h0, g0, ?_⟩
  show Z.vm.assignableAux (255 + 1) c t = false
  simp [Vm.assignableAux, nec, h2, g2, h5, g5, g8, Vm.isSubclass, ns1]
theorem own_safe {Z : State} {EL : List (String × Nat)} {vm : Vm} {h : Heap} {x : Addr} (hal : Z.vm.Alike vm) (E : Exa Z h x "java/lang/String") (F : Fld Z h x "java/lang/String" "value" "[B" .null) : Safe Z EL vm h x := fun B => by
  obtain ⟨p, -, u, a, -, q, -, G, rfl | rfl⟩ := B
  · obtain ⟨cS, ⟨⟨s1, s2, s3, ⟨cv, kv, iv, s4, s4'⟩, ⟨cc, kc, ic, s5, s5'⟩, s6, s7, s8, -⟩, -, -⟩, -⟩ := G
    obtain ⟨cell, cf, k, i, f, f1, f2, f3, f4, f5, f6, f7⟩ := F
    cases (show h[q.sa]? = some q.sC from s1).symm.trans f1
    obtain ⟨kv', z4⟩ := ff_back (U := Wst Z vm h) hal s4
    cases f2.symm.trans z4
    cases s8.symm.trans f7
  · obtain ⟨cell, k, e1, e2, e3, -, -⟩ := E
    cases (show h[q.sd]? = some q.SA from G.hd).symm.trans e1
    obtain ⟨cS, -, -, f, -⟩ := G
    have f' : vm.findClass "[B" = some q.SA.cls := f
    rw [hal.findClass] at f'
    exact ids_ne f' e2 (by decide) rfl
theorem pn_0 : plainName "java/lang/StringLatin1" = true := by first | (simp [plainName, overriddenIn]; done) | decide +kernel
theorem d11_0 : decode jdk_43_method_3_code 0 = .ok (.iload_n 0, 1) := by decide +kernel
theorem d11_1 : decode jdk_43_method_3_code 1 = .ok (.sipush 255, 3) := by decide +kernel
theorem d11_4 : decode jdk_43_method_3_code 4 = .ok (.if_icmp .gt 7, 3) := by decide +kernel
theorem d11_7 : decode jdk_43_method_3_code 7 = .ok (.iconst 1, 1) := by decide +kernel
theorem d11_8 : decode jdk_43_method_3_code 8 = .ok (.goto 4, 3) := by decide +kernel
theorem d11_12 : decode jdk_43_method_3_code 12 = .ok (.ireturn, 1) := by decide +kernel
theorem ef_11 (m : MethodId) (x0 : Int32)  : entryFrame m #[(.int x0)] 1 = mkF m 0 #[.val (.int x0)] [] := by first | (simp [entryFrame, mkF, argsToLocals, Value.category]; done) | rfl
def Q11 (Z : State) (p0 : Int32) (h0 : Heap) (n0 : Nat) (v : Option Value) (h : Heap) (L : List Loc) : Prop := v = some (.int (1 : Int32)) ∧ Fr n0 L ∧ h = h0
set_option maxRecDepth 65536 in
set_option maxHeartbeats 40000000 in
theorem rm11 (l : Launch) (Z : State) (aw : Array Value) (hw : ∀ d ∈ tables_1, d.before aw Z = true) (ws : List Jvm.Cond) (p0 : Int32) (h0 : Heap) (n0 : Nat) (Z0 : n0 ≤ h0.size) (hc0 : ¬ ((255 : Int32) < p0)) :
    MetFree l (⟨"java/lang/StringLatin1", "canEncode", "(C)Z"⟩ : MethodName) (head1 (Jvm.Cond.code (⟨"java/lang/StringLatin1", "canEncode", "(C)Z"⟩ : MethodName) jdk_43_method_3_code 1 (some .boolean) :: ws) ({ frames := 0, cells := 0, slots := 0, locals := 0 } : Room)) (fun a U => a = #[(.int p0)] ∧ Z.Warmed39 U.vm ∧ U.heap = h0) (fun _ _ _ _ _ => True) (fun _ U o U' => ∃ v L, o = .returned v ∧ Q11 Z p0 h0 n0 v U'.heap L ∧ FrameEnd U o U' L ({ frames := 0, cells := 0, slots := 0, locals := 0 } : Room).cells ({ frames := 0, cells := 0, slots := 0, locals := 0 } : Room).slots) := by
  refine MetFree.of_bodySF (plainFor_of_name pn_0) hisR ?_
  intro p e s m args below meth c s₁ Bd hml0 hP hK
  obtain ⟨rfl, hZ, hh⟩ := hP
  have hx := Bd.exec
  have hby := Bd.bytes
  have hml : c.maxLocals = 1 := hml0
  have hown : s.vm.findClass "java/lang/StringLatin1" = some m.cls := findClass_of_methodNamed Bd.named
  have hnm := (name_of_methodNamed Bd.named Bd.method).1
  have X0 : Stand p l e ({ frames := 0, cells := 0, slots := 0, locals := 0 } : Room) s m #[(.int p0)] below meth c s₁ [] 0 0 := Stand.of_body Bd
  have e0 : s₁.heap = h0 := by rw [← hh, Bd.state]; rfl
  have N0 := Fr.nil n0
  have pre0 : ∀ t, Steps p.tables e below (s₁.setTop (mkF m 0 #[.val (.int p0)] [])) t → Steps p.tables e below (s₁.setTop (entryFrame m #[(.int p0)] 1)) t := fun t k => castTop (ef_11 m p0 ) k
  have pre1 : ∀ t, Steps p.tables e below (s₁.setTop (mkF m 12 #[.val (.int p0)] [(.int (1 : Int32))])) t → Steps p.tables e below (s₁.setTop (entryFrame m #[(.int p0)] 1)) t := fun t kt => pre0 t (by
      show Steps p.tables e below (s₁.setTop (mkF m 0 #[.val (.int p0)] [])) _
      refine XS.iloadN X0.here hx rfl (hb hby d11_0) rfl ?_
      show Steps p.tables e below (s₁.setTop (mkF m 1 #[.val (.int p0)] [(.int p0)])) _
      refine XS.sipush X0.here hx rfl (hb hby d11_1) ?_
      show Steps p.tables e below (s₁.setTop (mkF m 4 #[.val (.int p0)] [(.int (255 : Int32)), (.int p0)])) _
      refine XS.icmpNo X0.here hx rfl (hb hby d11_4) rfl (flt hc0).2.2.1 ?_
      show Steps p.tables e below (s₁.setTop (mkF m 7 #[.val (.int p0)] [])) _
      refine XS.iconst X0.here hx rfl (hb hby d11_7) ?_
      show Steps p.tables e below (s₁.setTop (mkF m 8 #[.val (.int p0)] [(.int (1 : Int32))])) _
      refine XS.goto X0.here hx rfl (pc0 := 8) (pc' := 12) rfl (hb hby d11_8) (by decide) (by decide) ?_
      exact kt)
  obtain ⟨fs, hr, hrun, hended, hW, hsame⟩ := X0.leave (v := some (.int (1 : Int32))) (fun h => by rw [Bd.returns] at h; cases h)
  refine ⟨_, _, pre1 _ ?_, hrun, hended, _, _, rfl, ?_, ⟨_, rfl⟩, hW, hsame.mono (by decide) (by decide)⟩
  · show Steps p.tables e below (s₁.setTop (mkF m 12 #[.val (.int p0)] [(.int (1 : Int32))])) _
    exact retN X0 hx (t := .boolean) Bd.returns (by simp) (hb hby d11_12) hr
  · show Q11 Z _ h0 n0 _ s₁.heap _
    rw [e0]
    exact ⟨rfl, N0, rfl⟩
theorem d12_0 : decode jdk_43_method_46_code 0 = .ok (.iconst 1, 1) := by decide +kernel
theorem d12_1 : decode jdk_43_method_46_code 1 = .ok (.newarray .byte, 2) := by decide +kernel
theorem d12_3 : decode jdk_43_method_46_code 3 = .ok (.dup, 1) := by decide +kernel
theorem d12_4 : decode jdk_43_method_46_code 4 = .ok (.iconst 0, 1) := by decide +kernel
theorem d12_5 : decode jdk_43_method_46_code 5 = .ok (.iload_n 0, 1) := by decide +kernel
theorem d12_6 : decode jdk_43_method_46_code 6 = .ok (.i2b, 1) := by decide +kernel
theorem d12_7 : decode jdk_43_method_46_code 7 = .ok (.bastore, 1) := by decide +kernel
theorem d12_8 : decode jdk_43_method_46_code 8 = .ok (.areturn, 1) := by decide +kernel
theorem ef_12 (m : MethodId) (x0 : Int32)  : entryFrame m #[(.int x0)] 1 = mkF m 0 #[.val (.int x0)] [] := by first | (simp [entryFrame, mkF, argsToLocals, Value.category]; done) | rfl
def Q12 (Z : State) (p0 : Int32) (h0 : Heap) (n0 : Nat) (v : Option Value) (h : Heap) (L : List Loc) : Prop := (∃ (r : Addr) (kb : ClassId), v = some (.ref r) ∧ (h0.size ≤ r) ∧ (Arv Z h r kb .byte (1 : Int32) [(.int ((p0.toInt8.toInt32)).toInt8.toInt32)] (.int (0 : Int32)))) ∧ Fr n0 L ∧ (Keep h0 h [])
set_option maxRecDepth 65536 in
set_option maxHeartbeats 40000000 in
theorem rm12 (l : Launch) (Z : State) (aw : Array Value) (hw : ∀ d ∈ tables_1, d.before aw Z = true) (ws : List Jvm.Cond) (p0 : Int32) (h0 : Heap) (n0 : Nat) (Z0 : n0 ≤ h0.size) :
    MetFree l (⟨"java/lang/StringLatin1", "toBytes", "(C)[B"⟩ : MethodName) (head1 (Jvm.Cond.code (⟨"java/lang/StringLatin1", "toBytes", "(C)[B"⟩ : MethodName) jdk_43_method_46_code 1 (some (.array .byte)) :: ws) ({ frames := 0, cells := 1, slots := 1, locals := 0 } : Room)) (fun a U => a = #[(.int p0)] ∧ Z.Warmed39 U.vm ∧ U.heap = h0) (fun _ _ _ _ _ => True) (fun _ U o U' => ∃ v L, o = .returned v ∧ Q12 Z p0 h0 n0 v U'.heap L ∧ FrameEnd U o U' L ({ frames := 0, cells := 1, slots := 1, locals := 0 } : Room).cells ({ frames := 0, cells := 1, slots := 1, locals := 0 } : Room).slots) := by
  refine MetFree.of_bodySF (plainFor_of_name pn_0) hisR ?_
  intro p e s m args below meth c s₁ Bd hml0 hP hK
  obtain ⟨rfl, hZ, hh⟩ := hP
  have hx := Bd.exec
  have hby := Bd.bytes
  have hml : c.maxLocals = 1 := hml0
  have hown : s.vm.findClass "java/lang/StringLatin1" = some m.cls := findClass_of_methodNamed Bd.named
  have hnm := (name_of_methodNamed Bd.named Bd.method).1
  have X0 : Stand p l e ({ frames := 0, cells := 1, slots := 1, locals := 0 } : Room) s m #[(.int p0)] below meth c s₁ [] 0 0 := Stand.of_body Bd
  have e0 : s₁.heap = h0 := by rw [← hh, Bd.state]; rfl
  have N0 := Fr.nil n0
  have pre0 : ∀ t, Steps p.tables e below (s₁.setTop (mkF m 0 #[.val (.int p0)] [])) t → Steps p.tables e below (s₁.setTop (entryFrame m #[(.int p0)] 1)) t := fun t k => castTop (ef_12 m p0 ) k
  obtain ⟨T1, h1, k1, X1, e1, E1, A1, st1⟩ := newP X0 hx hZ (hw _ (List.mem_of_getElem? (i := 19) rfl)) e0 (g := (mkF m 1 #[.val (.int p0)] [(.int (1 : Int32))])) rfl (hb hby d12_1) rfl (by decide) (cap := 1) (by decide) (by decide) (by decide) (by decide)
  obtain ⟨b1, g1⟩ : ∃ z, z = h0.size := ⟨_, rfl⟩
  rw [← g1] at A1 st1
  have ge_b1 : n0 ≤ b1 := Nat.le_trans Z0 (Nat.le_of_eq g1.symm)
  have sz_b1 : h0.size ≤ b1 := Nat.le_trans (Keep.refl h0 []).1 (Nat.le_of_eq g1.symm)
  have K1 : Keep h0 h1 [] := Keep.ext (Keep.refl h0 []) E1
  have V1 : Arv Z h1 b1 k1 .byte (1 : Int32) [(.int (0 : Int32))] (.int (0 : Int32)) := (Arv.new A1 (by decide)).pad (pad_rep [] (.int (0 : Int32)) 1)
  obtain ⟨co2, Ao2, qo2, So2, No2, Ho2, Go2⟩ := id V1
  have hin3 : ¬ ((0 : Int32) < 0 ∨ co2.slots.size ≤ ((0 : Int32)).toNatClampNeg) := inb_of So2 ⟨by decide, by decide⟩
  obtain ⟨T4, h4, X4, e4, W4, st4⟩ := stB X1 hx hZ e1 Ao2 (j := (0 : Int32)) hin3 (g := (mkF m 7 #[.val (.int p0)] [(.int (p0.toInt8.toInt32)), (.int (0 : Int32)), (.ref b1), (.ref b1)])) rfl rfl (hb hby d12_7)
  have V4 : Arv Z h4 b1 k1 .byte (1 : Int32) [(.int ((p0.toInt8.toInt32)).toInt8.toInt32)] (.int (0 : Int32)) := Arv.set Ao2 qo2 So2 No2 Ho2 Go2 (fits_nar_byte _) W4 0 rfl (Nat.le_of_ble_eq_true rfl)
  have N4 := Fr.snoc X4 N0 ge_b1
  have K4 : Keep h0 h4 [] := Keep.wr K1 W4 (Or.inr sz_b1)
  have pre5 : ∀ t, Steps p.tables e below (T4.setTop (mkF m 8 #[.val (.int p0)] [(.ref b1)])) t → Steps p.tables e below (s₁.setTop (entryFrame m #[(.int p0)] 1)) t := fun t kt => pre0 t (by
      show Steps p.tables e below (s₁.setTop (mkF m 0 #[.val (.int p0)] [])) _
      refine XS.iconst X0.here hx rfl (hb hby d12_0) ?_
      show Steps p.tables e below (s₁.setTop (mkF m 1 #[.val (.int p0)] [(.int (1 : Int32))])) _
      refine st1 _ ?_
      show Steps p.tables e below (T1.setTop (mkF m 3 #[.val (.int p0)] [(.ref b1)])) _
      refine XS.dup X1.here hx rfl (hb hby d12_3) rfl rfl ?_
      show Steps p.tables e below (T1.setTop (mkF m 4 #[.val (.int p0)] [(.ref b1), (.ref b1)])) _
      refine XS.iconst X1.here hx rfl (hb hby d12_4) ?_
      show Steps p.tables e below (T1.setTop (mkF m 5 #[.val (.int p0)] [(.int (0 : Int32)), (.ref b1), (.ref b1)])) _
      refine XS.iloadN X1.here hx rfl (hb hby d12_5) rfl ?_
      show Steps p.tables e below (T1.setTop (mkF m 6 #[.val (.int p0)] [(.int p0), (.int (0 : Int32)), (.ref b1), (.ref b1)])) _
      refine XS.i2b X1.here hx rfl (hb hby d12_6) rfl ?_
      show Steps p.tables e below (T1.setTop (mkF m 7 #[.val (.int p0)] [(.int (p0.toInt8.toInt32)), (.int (0 : Int32)), (.ref b1), (.ref b1)])) _
      refine st4 _ ?_
      exact kt)
  obtain ⟨fs, hr, hrun, hended, hW, hsame⟩ := X4.leave (v := some (.ref b1)) (fun h => by rw [Bd.returns] at h; cases h)
  refine ⟨_, _, pre5 _ ?_, hrun, hended, _, _, rfl, ?_, ⟨_, rfl⟩, hW, hsame.mono (by decide) (by decide)⟩
  · show Steps p.tables e below (T4.setTop (mkF m 8 #[.val (.int p0)] [(.ref b1)])) _
    jvm_step X4.here [X4.here.top, hx, (hb hby d12_8), X4.method', Bd.returns, Value.isRef, FieldType.isReference]
    first | (intro acts; rw [hr _ acts rfl rfl rfl]) | rw [hr _ _ rfl rfl rfl]
    exact Steps.refl _
  · show Q12 Z _ h0 n0 _ T4.heap _
    rw [e4]
    exact ⟨⟨_, _, rfl, sz_b1, V4⟩, N4, K4⟩
theorem pn_1 : plainName "java/lang/String" = true := by first | (simp [plainName, overriddenIn]; done) | decide +kernel
theorem d13_0 : decode jdk_42_method_151_code 0 = .ok (.aload_n 0, 1) := by decide +kernel
theorem d13_1 : decode jdk_42_method_151_code 1 = .ok (.invokespecial 1, 3) := by decide +kernel
theorem d13_4 : decode jdk_42_method_151_code 4 = .ok (.aload_n 0, 1) := by decide +kernel
theorem d13_5 : decode jdk_42_method_151_code 5 = .ok (.aload_n 1, 1) := by decide +kernel
theorem d13_6 : decode jdk_42_method_151_code 6 = .ok (.putfield 9, 3) := by decide +kernel
theorem d13_9 : decode jdk_42_method_151_code 9 = .ok (.aload_n 0, 1) := by decide +kernel
theorem d13_10 : decode jdk_42_method_151_code 10 = .ok (.iload_n 2, 1) := by decide +kernel
theorem d13_11 : decode jdk_42_method_151_code 11 = .ok (.putfield 15, 3) := by decide +kernel
theorem d13_14 : decode jdk_42_method_151_code 14 = .ok (.return_, 1) := by decide +kernel
theorem ef_13 (m : MethodId) (x0 : Addr) (x1 : Addr) (x2 : Int32)  : entryFrame m #[(.ref x0), (.ref x1), (.int x2)] 3 = mkF m 0 #[.val (.ref x0), .val (.ref x1), .val (.int x2)] [] := by first | (simp [entryFrame, mkF, argsToLocals, Value.category]; done) | rfl
def Q13 (Z : State) (a0 : Addr) (a1 : Addr) (u_value_0 : Value) (u_coder_1 : Value) (h0 : Heap) (n0 : Nat) (v : Option Value) (h : Heap) (L : List Loc) : Prop := v = none ∧ Fr n0 L ∧ (Keep h0 h [a0]) ∧ (Exa Z h a0 "java/lang/String") ∧ (Fld Z h a0 "java/lang/String" "coder" "B" (.int (0 : Int32))) ∧ (Fld Z h a0 "java/lang/String" "value" "[B" (.ref a1))
set_option maxRecDepth 65536 in
set_option maxHeartbeats 40000000 in
theorem rm13 (l : Launch) (Z : State) (aw : Array Value) (hw : ∀ d ∈ tables_1, d.before aw Z = true) (ws : List Jvm.Cond) (a0 : Addr) (a1 : Addr) (u_value_0 : Value) (u_coder_1 : Value) (h0 : Heap) (n0 : Nat) (Z0 : n0 ≤ h0.size) (Exa_0 : Exa Z h0 a0 "java/lang/String") (Fo_value_1 : Fld Z h0 a0 "java/lang/String" "value" "[B" u_value_0) (g_a0 : n0 ≤ a0) (Fo_coder_3 : Fld Z h0 a0 "java/lang/String" "coder" "B" u_coder_1) :
    MetFree l (⟨"java/lang/String", "<init>", "([BB)V"⟩ : MethodName) (head1 (Jvm.Cond.code (⟨"java/lang/String", "<init>", "([BB)V"⟩ : MethodName) jdk_42_method_151_code 3 none :: ws) ({ frames := 1, cells := 0, slots := 0, locals := 12 } : Room)) (fun a U => a = #[(.ref a0), (.ref a1), (.int (0 : Int32))] ∧ Z.Warmed39 U.vm ∧ U.heap = h0) (fun _ _ _ _ _ => True) (fun _ U o U' => ∃ v L, o = .returned v ∧ Q13 Z a0 a1 u_value_0 u_coder_1 h0 n0 v U'.heap L ∧ FrameEnd U o U' L ({ frames := 1, cells := 0, slots := 0, locals := 12 } : Room).cells ({ frames := 1, cells := 0, slots := 0, locals := 12 } : Room).slots) := by
  refine MetFree.of_bodySF (plainFor_of_name pn_1) hisR ?_
  intro p e s m args below meth c s₁ Bd hml0 hP hK
  obtain ⟨rfl, hZ, hh⟩ := hP
  have hx := Bd.exec
  have hby := Bd.bytes
  have hml : c.maxLocals = 3 := hml0
  have hown : s.vm.findClass "java/lang/String" = some m.cls := findClass_of_methodNamed Bd.named
  have hnm := (name_of_methodNamed Bd.named Bd.method).1
  have X0 : Stand p l e ({ frames := 1, cells := 0, slots := 0, locals := 12 } : Room) s m #[(.ref a0), (.ref a1), (.int (0 : Int32))] below meth c s₁ [] 0 0 := Stand.of_body Bd
  have e0 : s₁.heap = h0 := by rw [← hh, Bd.state]; rfl
  have N0 := Fr.nil n0
  have pre0 : ∀ t, Steps p.tables e below (s₁.setTop (mkF m 0 #[.val (.ref a0), .val (.ref a1), .val (.int (0 : Int32))] [])) t → Steps p.tables e below (s₁.setTop (entryFrame m #[(.ref a0), (.ref a1), (.int (0 : Int32))] 3)) t := fun t k => castTop (ef_13 m a0 a1 (0 : Int32) ) k
  obtain ⟨T1, X1, e1, st1⟩ := initO X0 hx hZ hown (hw _ (List.mem_of_getElem? (i := 15) rfl)) (hw _ (List.mem_of_getElem? (i := 16) rfl)) (hw _ (List.mem_of_getElem? (i := 17) rfl)) e0 (g := (mkF m 1 #[.val (.ref a0), .val (.ref a1), .val (.int (0 : Int32))] [(.ref a0)])) rfl (by rw [hml]; rfl) rfl (hb hby d13_1) (by decide) (W := 0) (by show 2 * 0 + _ ≤ _; exact Nat.le_of_eq rfl) (by decide)
  obtain ⟨T2, h2, X2, e2, W2, st2⟩ := putF X1 hx hZ hown (host := "") (Or.inl (hw _ (List.mem_of_getElem? (i := 24) rfl))) Via.refl e1 Fo_value_1 Exa_0 (Or.inr ⟨(hw _ (List.mem_of_getElem? (i := 20) rfl)), rfl, hnm⟩) (hw _ (List.mem_of_getElem? (i := 5) rfl)) (ty := (.array .byte)) (by decide) rfl rfl (g := (mkF m 6 #[.val (.ref a0), .val (.ref a1), .val (.int (0 : Int32))] [(.ref a1), (.ref a0)])) rfl rfl (hb hby d13_6)
  have Fw2 := Fo_value_1.same W2
  have f3 := (Exa_0.wr W2)
  have N2 := Fr.snoc X2 N0 g_a0
  have K2 : Keep h0 h2 [a0] := Keep.wr (Keep.refl h0 [a0]) W2 (Or.inl (List.mem_of_getElem? (i := 0) rfl))
  obtain ⟨T4, h4, X4, e4, W4, st4⟩ := putFN X2 hx hZ hown (hw _ (List.mem_of_getElem? (i := 25) rfl)) Via.refl e2 (Fo_coder_3.other W2 (Or.inr (slot_ne (Or.inr (hw _ (List.mem_of_getElem? (i := 21) rfl))) (Or.inr (hw _ (List.mem_of_getElem? (i := 20) rfl))) (by decide) (t := .byte) (t' := (.array .byte)) (by decide) (by decide)))) f3 (Or.inr ⟨(hw _ (List.mem_of_getElem? (i := 21) rfl)), rfl, hnm⟩) (hw _ (List.mem_of_getElem? (i := 5) rfl)) (ty := .byte) (v' := (.int (0 : Int32))) (by decide) rfl (by decide) (g := (mkF m 11 #[.val (.ref a0), .val (.ref a1), .val (.int (0 : Int32))] [(.int (0 : Int32)), (.ref a0)])) rfl rfl (hb hby d13_11)
  have Fw4 := (Fo_coder_3.other W2 (Or.inr (slot_ne (Or.inr (hw _ (List.mem_of_getElem? (i := 21) rfl))) (Or.inr (hw _ (List.mem_of_getElem? (i := 20) rfl))) (by decide) (t := .byte) (t' := (.array .byte)) (by decide) (by decide)))).same W4
  have f5 := (f3.wr W4)
  have f6 := (Fw2.other W4 (Or.inr (slot_ne (Or.inr (hw _ (List.mem_of_getElem? (i := 20) rfl))) (Or.inr (hw _ (List.mem_of_getElem? (i := 21) rfl))) (by decide) (t := (.array .byte)) (t' := .byte) (by decide) (by decide))))
  have N4 := Fr.snoc X4 N2 g_a0
  have K4 : Keep h0 h4 [a0] := Keep.wr K2 W4 (Or.inl (List.mem_of_getElem? (i := 0) rfl))
  have pre7 : ∀ t, Steps p.tables e below (T4.setTop (mkF m 14 #[.val (.ref a0), .val (.ref a1), .val (.int (0 : Int32))] [])) t → Steps p.tables e below (s₁.setTop (entryFrame m #[(.ref a0), (.ref a1), (.int (0 : Int32))] 3)) t := fun t kt => pre0 t (by
      show Steps p.tables e below (s₁.setTop (mkF m 0 #[.val (.ref a0), .val (.ref a1), .val (.int (0 : Int32))] [])) _
      refine XS.aloadN X0.here hx rfl (hb hby d13_0) rfl rfl ?_
      show Steps p.tables e below (s₁.setTop (mkF m 1 #[.val (.ref a0), .val (.ref a1), .val (.int (0 : Int32))] [(.ref a0)])) _
      refine st1 _ ?_
      show Steps p.tables e below (T1.setTop (mkF m 4 #[.val (.ref a0), .val (.ref a1), .val (.int (0 : Int32))] [])) _
      refine XS.aloadN X1.here hx rfl (hb hby d13_4) rfl rfl ?_
      show Steps p.tables e below (T1.setTop (mkF m 5 #[.val (.ref a0), .val (.ref a1), .val (.int (0 : Int32))] [(.ref a0)])) _
      refine XS.aloadN X1.here hx rfl (hb hby d13_5) rfl rfl ?_
      show Steps p.tables e below (T1.setTop (mkF m 6 #[.val (.ref a0), .val (.ref a1), .val (.int (0 : Int32))] [(.ref a1), (.ref a0)])) _
      refine st2 _ ?_
      show Steps p.tables e below (T2.setTop (mkF m 9 #[.val (.ref a0), .val (.ref a1), .val (.int (0 : Int32))] [])) _
      refine XS.aloadN X2.here hx rfl (hb hby d13_9) rfl rfl ?_
      show Steps p.tables e below (T2.setTop (mkF m 10 #[.val (.ref a0), .val (.ref a1), .val (.int (0 : Int32))] [(.ref a0)])) _
      refine XS.iloadN X2.here hx rfl (hb hby d13_10) rfl ?_
      show Steps p.tables e below (T2.setTop (mkF m 11 #[.val (.ref a0), .val (.ref a1), .val (.int (0 : Int32))] [(.int (0 : Int32)), (.ref a0)])) _
      refine st4 _ ?_
      exact kt)
  obtain ⟨fs, hr, hrun, hended, hW, hsame⟩ := X4.leave (v := none) (fun _ => rfl)
  refine ⟨_, _, pre7 _ ?_, hrun, hended, _, _, rfl, ?_, ⟨_, rfl⟩, hW, hsame.mono (by decide) (by decide)⟩
  · show Steps p.tables e below (T4.setTop (mkF m 14 #[.val (.ref a0), .val (.ref a1), .val (.int (0 : Int32))] [])) _
    exact X4.returnOut hx Bd.returns (hb hby d13_14) hr
  · show Q13 Z _ _ _ _ h0 n0 _ T4.heap _
    rw [e4]
    exact ⟨rfl, N4, K4, f5, Fw4, f6⟩
theorem pd_0 : parseMethodDescriptor "(C)Z" = some ⟨[.char], some .boolean⟩ := by decide +kernel
theorem pd_1 : parseMethodDescriptor "(C)[B" = some ⟨[.char], some (.array .byte)⟩ := by decide +kernel
theorem pd_2 : parseMethodDescriptor "([BB)V" = some ⟨[(.array .byte), .byte], none⟩ := by decide +kernel
theorem d10_0 : decode jdk_42_method_139_code 0 = .ok (.getstatic 38, 3) := by decide +kernel
theorem d10_3 : decode jdk_42_method_139_code 3 = .ok (.ifCond .eq 23, 3) := by decide +kernel
theorem d10_6 : decode jdk_42_method_139_code 6 = .ok (.iload_n 0, 1) := by decide +kernel
theorem d10_7 : decode jdk_42_method_139_code 7 = .ok (.invokestatic 1015, 3) := by decide +kernel
theorem d10_10 : decode jdk_42_method_139_code 10 = .ok (.ifCond .eq 16, 3) := by decide +kernel
theorem d10_13 : decode jdk_42_method_139_code 13 = .ok (.new 10, 3) := by decide +kernel
theorem d10_16 : decode jdk_42_method_139_code 16 = .ok (.dup, 1) := by decide +kernel
theorem d10_17 : decode jdk_42_method_139_code 17 = .ok (.iload_n 0, 1) := by decide +kernel
theorem d10_18 : decode jdk_42_method_139_code 18 = .ok (.invokestatic 1018, 3) := by decide +kernel
theorem d10_21 : decode jdk_42_method_139_code 21 = .ok (.iconst 0, 1) := by decide +kernel
theorem d10_22 : decode jdk_42_method_139_code 22 = .ok (.invokespecial 209, 3) := by decide +kernel
theorem d10_25 : decode jdk_42_method_139_code 25 = .ok (.areturn, 1) := by decide +kernel
theorem ef_10 (m : MethodId) (x0 : Int32)  : entryFrame m #[(.int x0)] 1 = mkF m 0 #[.val (.int x0)] [] := by first | (simp [entryFrame, mkF, argsToLocals, Value.category]; done) | rfl
def Q10 (Z : State) (p0 : Int32) (w_COMPACT_STRINGS_0 : Int32) (h0 : Heap) (n0 : Nat) (v : Option Value) (h : Heap) (L : List Loc) : Prop := (∃ (r : Addr) (vb : Addr) (kb : ClassId), v = some (.ref r) ∧ (h0.size ≤ r) ∧ (Exa Z h r "java/lang/String") ∧ (Fld Z h r "java/lang/String" "coder" "B" (.int (0 : Int32))) ∧ (Fld Z h r "java/lang/String" "value" "[B" (.ref vb)) ∧ (Arv Z h vb kb .byte (1 : Int32) [(.int ((p0.toInt8.toInt32)).toInt8.toInt32)] (.int (0 : Int32)))) ∧ Fr n0 L ∧ (Keep h0 h [])
set_option maxRecDepth 65536 in
set_option maxHeartbeats 40000000 in
theorem rm10 (l : Launch) (Z : State) (aw : Array Value) (hw : ∀ d ∈ tables_1, d.before aw Z = true) (ws : List Jvm.Cond) (p0 : Int32) (w_COMPACT_STRINGS_0 : Int32) (h0 : Heap) (n0 : Nat) (Z0 : n0 ≤ h0.size) (hc0 : ¬ ((255 : Int32) < p0)) (Sf_COMPACT_STRINGS_1 : Sta Z h0 "java/lang/String" "COMPACT_STRINGS" "Z" (.int w_COMPACT_STRINGS_0)) (hp2 : ¬ w_COMPACT_STRINGS_0 = (0 : Int32)) :
    MetFree l (⟨"java/lang/String", "valueOf", "(C)Ljava/lang/String;"⟩ : MethodName) (head1 (Jvm.Cond.code (⟨"java/lang/String", "valueOf", "(C)Ljava/lang/String;"⟩ : MethodName) jdk_42_method_139_code 1 (some (.object "java/lang/String")) :: ws) ({ frames := 2, cells := 2, slots := 5, locals := 27 } : Room)) (fun a U => a = #[(.int p0)] ∧ Z.Warmed39 U.vm ∧ U.heap = h0) (fun _ _ _ _ _ => True) (fun _ U o U' => ∃ v L, o = .returned v ∧ Q10 Z p0 w_COMPACT_STRINGS_0 h0 n0 v U'.heap L ∧ FrameEnd U o U' L ({ frames := 2, cells := 2, slots := 5, locals := 27 } : Room).cells ({ frames := 2, cells := 2, slots := 5, locals := 27 } : Room).slots) := by
  refine MetFree.of_bodySF (plainFor_of_name pn_1) hisR ?_
  intro p e s m args below meth c s₁ Bd hml0 hP hK
  obtain ⟨rfl, hZ, hh⟩ := hP
  have hx := Bd.exec
  have hby := Bd.bytes
  have hml : c.maxLocals = 1 := hml0
  have hown : s.vm.findClass "java/lang/String" = some m.cls := findClass_of_methodNamed Bd.named
  have hnm := (name_of_methodNamed Bd.named Bd.method).1
  have X0 : Stand p l e ({ frames := 2, cells := 2, slots := 5, locals := 27 } : Room) s m #[(.int p0)] below meth c s₁ [] 0 0 := Stand.of_body Bd
  have e0 : s₁.heap = h0 := by rw [← hh, Bd.state]; rfl
  have N0 := Fr.nil n0
  have pre0 : ∀ t, Steps p.tables e below (s₁.setTop (mkF m 0 #[.val (.int p0)] [])) t → Steps p.tables e below (s₁.setTop (entryFrame m #[(.int p0)] 1)) t := fun t k => castTop (ef_10 m p0 ) k
  obtain ⟨T1, X1, e1, st1⟩ := getS2 X0 hx hZ hown (host := "") (Or.inl (hw _ (List.mem_of_getElem? (i := 56) rfl))) Via.refl e0 Sf_COMPACT_STRINGS_1 (g := (mkF m 0 #[.val (.int p0)] [])) rfl (hb hby d10_0)
  obtain ⟨_, _, ⟨T3, L3, k3, n3⟩, -, X3, ⟨Lc3, hQ3, l3, y3, z3⟩, st3⟩ := Jvm.LawKit.callS X1 hx (y := (⟨"java/lang/StringLatin1", "canEncode", "(C)Z"⟩ : MethodName)) hown (mvT hZ (hw _ (List.mem_of_getElem? (i := 64) rfl))) (mvT hZ (hw _ (List.mem_of_getElem? (i := 65) rfl))) (mvT hZ (hw _ (List.mem_of_getElem? (i := 59) rfl))) (mvT hZ (hw _ (List.mem_of_getElem? (i := 66) rfl))) (by decide) (backOf (W := 0) (rm11 l Z aw hw [] p0 h0 n0 Z0 hc0) hZ (hw _ (List.mem_of_getElem? (i := 66) rfl)) (hw _ (List.mem_of_getElem? (i := 59) rfl)) (by decide) (by decide)) (g := (mkF m 7 #[.val (.int p0)] [(.int p0)])) rfl (by rw [hml]; rfl) (argsL := [(.int p0)]) (rest := []) (lenOf pd_0 rfl) rfl (by show 2 * 0 + _ ≤ _; exact Nat.le_of_eq rfl) (hb hby d10_7) (fun _ _ => ⟨rfl, e1, (by decide : 0 + 0 ≤ _), (by decide : 0 + 0 ≤ _)⟩)
  dsimp only [Pt.U, Pt.locs, Pt.cells, Pt.slots] at X3 l3 y3 z3 st3 hQ3
  subst l3 y3 z3
  obtain ⟨rfl, Nq3, e3⟩ := hQ3
  have N3 := Fr.app N0 Nq3
  obtain ⟨T4, h4, X4, e4, E4, A4, D4, -, st4⟩ := newO X3 hx hZ hown (hw _ (List.mem_of_getElem? (i := 55) rfl)) (hw _ (List.mem_of_getElem? (i := 5) rfl)) (hw _ (List.mem_of_getElem? (i := 6) rfl)) e3 (g := (mkF m 13 #[.val (.int p0)] [])) rfl (hb hby d10_13) (by decide) (by decide)
  obtain ⟨b4, g4⟩ : ∃ z, z = h0.size := ⟨_, rfl⟩
  rw [← g4] at A4 D4 st4
  have f5 := (Sf_COMPACT_STRINGS_1.ext E4)
  have ge_b4 : n0 ≤ b4 := Nat.le_trans Z0 (Nat.le_of_eq g4.symm)
  have sz_b4 : h0.size ≤ b4 := Nat.le_trans (Keep.refl h0 []).1 (Nat.le_of_eq g4.symm)
  have K4 : Keep h0 h4 [] := Keep.ext (Keep.refl h0 []) E4
  have F4_value : Fld Z h4 b4 "java/lang/String" "value" "[B" .null := D4 (Or.inr (hw _ (List.mem_of_getElem? (i := 20) rfl))) (ty := (.array .byte)) (by decide)
  have F4_coder : Fld Z h4 b4 "java/lang/String" "coder" "B" (.int (0 : Int32)) := D4 (Or.inr (hw _ (List.mem_of_getElem? (i := 21) rfl))) (ty := .byte) (by decide)
  obtain ⟨_, _, ⟨T6, L6, k6, n6⟩, -, X6, ⟨Lc6, hQ6, l6, y6, z6⟩, st6⟩ := Jvm.LawKit.callS X4 hx (y := (⟨"java/lang/StringLatin1", "toBytes", "(C)[B"⟩ : MethodName)) hown (mvT hZ (hw _ (List.mem_of_getElem? (i := 67) rfl))) (mvT hZ (hw _ (List.mem_of_getElem? (i := 68) rfl))) (mvT hZ (hw _ (List.mem_of_getElem? (i := 59) rfl))) (mvT hZ (hw _ (List.mem_of_getElem? (i := 69) rfl))) (by decide) (backOf (W := 2) (rm12 l Z aw hw [] p0 h4 n0 (Nat.le_trans Z0 E4.1) ) hZ (hw _ (List.mem_of_getElem? (i := 69) rfl)) (hw _ (List.mem_of_getElem? (i := 59) rfl)) (by decide) (by decide)) (g := (mkF m 18 #[.val (.int p0)] [(.int p0), (.ref b4), (.ref b4)])) rfl (by rw [hml]; rfl) (argsL := [(.int p0)]) (rest := [(.ref b4), (.ref b4)]) (lenOf pd_1 rfl) rfl (by show 2 * 0 + _ ≤ _; exact Nat.le_of_eq rfl) (hb hby d10_18) (fun _ _ => ⟨rfl, e4, (by decide : 1 + 1 ≤ _), (by decide : 4 + 1 ≤ _)⟩)
  dsimp only [Pt.U, Pt.locs, Pt.cells, Pt.slots] at X6 l6 y6 z6 st6 hQ6
  subst l6 y6 z6
  obtain ⟨⟨r7, kb8, rfl, m6_0, m6_1⟩, Nq6, c6_0⟩ := hQ6
  have N6 := Fr.app N3 Nq6
  have f9 := (own_sta_keep f5 c6_0 all0)
  have f10 := (A4.keep c6_0)
  have f11 := (F4_value.keep c6_0 nin0)
  have f12 := (F4_coder.keep c6_0 nin0)
  have K13 : Keep h0 T6.heap [] := Keep.trans K4 c6_0 all0
  obtain ⟨_, _, ⟨T14, L14, k14, n14⟩, -, X14, ⟨Lc14, hQ14, l14, y14, z14⟩, st14⟩ := X6.specialBack hx (y := (⟨"java/lang/String", "<init>", "([BB)V"⟩ : MethodName)) rfl hown (mvT hZ (hw _ (List.mem_of_getElem? (i := 70) rfl))) (mvT hZ (hw _ (List.mem_of_getElem? (i := 71) rfl))) (mvT hZ (hw _ (List.mem_of_getElem? (i := 72) rfl))) (by decide) (backOf (W := 1) (rm13 l Z aw hw [] b4 r7 .null (.int (0 : Int32)) T6.heap n0 (Nat.le_trans (Nat.le_trans Z0 E4.1) c6_0.1) f10 f11 ge_b4 f12) hZ (hw _ (List.mem_of_getElem? (i := 72) rfl)) (hw _ (List.mem_of_getElem? (i := 6) rfl)) (by decide) (by decide)) (g := (mkF m 22 #[.val (.int p0)] [(.int (0 : Int32)), (.ref r7), (.ref b4), (.ref b4)])) rfl (by rw [hml]; rfl) (Steps.refl _) (a := b4) (argsL := [(.ref r7), (.int (0 : Int32))]) (rest := [(.ref b4)]) (lenOf pd_2 rfl) rfl (by show 2 * 0 + _ ≤ _; exact Nat.le_of_eq rfl) (hb hby d10_22) (fun _ _ => ⟨rfl, rfl, (by decide : 2 + 0 ≤ _), (by decide : 5 + 0 ≤ _)⟩)
  dsimp only [Pt.U, Pt.locs, Pt.cells, Pt.slots] at X14 l14 y14 z14 st14 hQ14
  subst l14 y14 z14
  obtain ⟨rfl, Nq14, c14_0, c14_1, c14_2, c14_3⟩ := hQ14
  have N14 := Fr.app N6 Nq14
  have f15 := (own_sta_keep f9 c14_0 (allS (own_exa_ns f10) all0))
  have f16 := (f10.keep c14_0)
  have f17 := (m6_1.keep c14_0 (ninS (Nat.ne_of_gt (Nat.lt_of_lt_of_le A4.lt m6_0)) nin0))
  have K18 : Keep h0 T14.heap [] := Keep.trans K13 c14_0 (allS (Or.inr sz_b4) all0)
  have pre19 : ∀ t, Steps p.tables e below (T14.setTop (mkF m 25 #[.val (.int p0)] [(.ref b4)])) t → Steps p.tables e below (s₁.setTop (entryFrame m #[(.int p0)] 1)) t := fun t kt => pre0 t (by
      show Steps p.tables e below (s₁.setTop (mkF m 0 #[.val (.int p0)] [])) _
      refine st1 _ ?_
      show Steps p.tables e below (T1.setTop (mkF m 3 #[.val (.int p0)] [(.int w_COMPACT_STRINGS_0)])) _
      refine XS.ifNo X1.here hx rfl (hb hby d10_3) rfl ((if0 _ _).trans (feq hp2).1) ?_
      show Steps p.tables e below (T1.setTop (mkF m 6 #[.val (.int p0)] [])) _
      refine XS.iloadN X1.here hx rfl (hb hby d10_6) rfl ?_
      show Steps p.tables e below (T1.setTop (mkF m 7 #[.val (.int p0)] [(.int p0)])) _
      refine st3 _ ?_
      show Steps p.tables e below (T3.setTop (mkF m 10 #[.val (.int p0)] [(.int (1 : Int32))])) _
      refine XS.ifNo X3.here hx rfl (hb hby d10_10) rfl ((if0 _ _).trans (feq (by decide : ¬ ((1 : Int32) = (0 : Int32)))).1) ?_
      show Steps p.tables e below (T3.setTop (mkF m 13 #[.val (.int p0)] [])) _
      refine st4 _ ?_
      show Steps p.tables e below (T4.setTop (mkF m 16 #[.val (.int p0)] [(.ref b4)])) _
      refine XS.dup X4.here hx rfl (hb hby d10_16) rfl rfl ?_
      show Steps p.tables e below (T4.setTop (mkF m 17 #[.val (.int p0)] [(.ref b4), (.ref b4)])) _
      refine XS.iloadN X4.here hx rfl (hb hby d10_17) rfl ?_
      show Steps p.tables e below (T4.setTop (mkF m 18 #[.val (.int p0)] [(.int p0), (.ref b4), (.ref b4)])) _
      refine st6 _ ?_
      show Steps p.tables e below (T6.setTop (mkF m 21 #[.val (.int p0)] [(.ref r7), (.ref b4), (.ref b4)])) _
      refine XS.iconst X6.here hx rfl (hb hby d10_21) ?_
      show Steps p.tables e below (T6.setTop (mkF m 22 #[.val (.int p0)] [(.int (0 : Int32)), (.ref r7), (.ref b4), (.ref b4)])) _
      refine st14.trans ?_
      exact kt)
  obtain ⟨fs, hr, hrun, hended, hW, hsame⟩ := X14.leave (v := some (.ref b4)) (fun h => by rw [Bd.returns] at h; cases h)
  refine ⟨_, _, pre19 _ ?_, hrun, hended, _, _, rfl, ?_, ⟨_, rfl⟩, hW, hsame.mono (by decide) (by decide)⟩
  · show Steps p.tables e below (T14.setTop (mkF m 25 #[.val (.int p0)] [(.ref b4)])) _
    jvm_step X14.here [X14.here.top, hx, (hb hby d10_25), X14.method', Bd.returns, Value.isRef, FieldType.isReference]
    first | (intro acts; rw [hr _ acts rfl rfl rfl]) | rw [hr _ _ rfl rfl rfl]
    exact Steps.refl _
  · show Q10 Z _ _ h0 n0 _ T14.heap _
    exact ⟨⟨_, _, _, rfl, sz_b4, c14_1, c14_2, c14_3, f17⟩, N14, K18⟩
theorem pn_2 : plainName "java/lang/StringUTF16" = true := by first | (simp [plainName, overriddenIn]; done) | decide +kernel
theorem d15_0 : decode jdk_52_method_21_code 0 = .ok (.iconst 0, 1) := by decide +kernel
theorem d15_1 : decode jdk_52_method_21_code 1 = .ok (.istore 5, 2) := by decide +kernel
theorem d15_3 : decode jdk_52_method_21_code 3 = .ok (.iload 5, 2) := by decide +kernel
theorem d15_5 : decode jdk_52_method_21_code 5 = .ok (.iload 4, 2) := by decide +kernel
theorem d15_7 : decode jdk_52_method_21_code 7 = .ok (.if_icmp .ge 37, 3) := by decide +kernel
theorem d15_10 : decode jdk_52_method_21_code 10 = .ok (.aload_n 0, 1) := by decide +kernel
theorem d15_11 : decode jdk_52_method_21_code 11 = .ok (.iload_n 1, 1) := by decide +kernel
theorem d15_12 : decode jdk_52_method_21_code 12 = .ok (.caload, 1) := by decide +kernel
theorem d15_13 : decode jdk_52_method_21_code 13 = .ok (.istore 6, 2) := by decide +kernel
theorem d15_15 : decode jdk_52_method_21_code 15 = .ok (.iload 6, 2) := by decide +kernel
theorem d15_17 : decode jdk_52_method_21_code 17 = .ok (.sipush 255, 3) := by decide +kernel
theorem d15_20 : decode jdk_52_method_21_code 20 = .ok (.if_icmp .le 6, 3) := by decide +kernel
theorem d15_26 : decode jdk_52_method_21_code 26 = .ok (.aload_n 2, 1) := by decide +kernel
theorem d15_27 : decode jdk_52_method_21_code 27 = .ok (.iload_n 3, 1) := by decide +kernel
theorem d15_28 : decode jdk_52_method_21_code 28 = .ok (.iload 6, 2) := by decide +kernel
theorem d15_30 : decode jdk_52_method_21_code 30 = .ok (.i2b, 1) := by decide +kernel
theorem d15_31 : decode jdk_52_method_21_code 31 = .ok (.bastore, 1) := by decide +kernel
theorem d15_32 : decode jdk_52_method_21_code 32 = .ok (.iinc 1 1, 3) := by decide +kernel
theorem d15_35 : decode jdk_52_method_21_code 35 = .ok (.iinc 3 1, 3) := by decide +kernel
theorem d15_38 : decode jdk_52_method_21_code 38 = .ok (.iinc 5 1, 3) := by decide +kernel
theorem d15_41 : decode jdk_52_method_21_code 41 = .ok (.goto (-38), 3) := by decide +kernel
theorem d15_44 : decode jdk_52_method_21_code 44 = .ok (.iload 4, 2) := by decide +kernel
theorem d15_46 : decode jdk_52_method_21_code 46 = .ok (.ireturn, 1) := by decide +kernel
theorem ef_15 (m : MethodId) (x0 : Addr) (x1 : Int32) (x2 : Addr) (x3 : Int32) (x4 : Int32)  : entryFrame m #[(.ref x0), (.int x1), (.ref x2), (.int x3), (.int x4)] 7 = mkF m 0 #[.val (.ref x0), .val (.int x1), .val (.ref x2), .val (.int x3), .val (.int x4), .unset, .unset] [] := by first | (simp [entryFrame, mkF, argsToLocals, Value.category]; done) | rfl
def Q15 (Z : State) (a0 : Addr) (a2 : Addr) (c0 : Int32) (c1 : Int32) (kc : ClassId) (kb : ClassId) (h0 : Heap) (n0 : Nat) (v : Option Value) (h : Heap) (L : List Loc) : Prop := v = some (.int (2 : Int32)) ∧ Fr n0 L ∧ (Keep h0 h [a2]) ∧ (Arv Z h a2 kb .byte (2 : Int32) [(.int ((c0.toInt8.toInt32)).toInt8.toInt32), (.int ((c1.toInt8.toInt32)).toInt8.toInt32)] (.int (0 : Int32)))
set_option maxRecDepth 65536 in
set_option maxHeartbeats 40000000 in
theorem rm15 (l : Launch) (Z : State) (aw : Array Value) (hw : ∀ d ∈ tables_1, d.before aw Z = true) (ws : List Jvm.Cond) (a0 : Addr) (a2 : Addr) (c0 : Int32) (c1 : Int32) (kc : ClassId) (kb : ClassId) (h0 : Heap) (n0 : Nat) (Z0 : n0 ≤ h0.size) (h0c : ¬ (255 : Int32) < c0) (h1c : ¬ (255 : Int32) < c1) (hne : a0 ≠ a2) (Arv_3 : Arv Z h0 a0 kc .char (2 : Int32) [(.int c0), (.int c1)] (.int (0 : Int32))) (Arv_4 : Arv Z h0 a2 kb .byte (2 : Int32) [(.int (0 : Int32)), (.int (0 : Int32))] (.int (0 : Int32))) (g_a2 : n0 ≤ a2) :
    MetFree l (⟨"java/lang/StringUTF16", "compress", "([CI[BII)I"⟩ : MethodName) (head1 (Jvm.Cond.code (⟨"java/lang/StringUTF16", "compress", "([CI[BII)I"⟩ : MethodName) jdk_52_method_21_code 7 (some .int) :: ws) ({ frames := 0, cells := 0, slots := 0, locals := 0 } : Room)) (fun a U => a = #[(.ref a0), (.int (0 : Int32)), (.ref a2), (.int (0 : Int32)), (.int (2 : Int32))] ∧ Z.Warmed39 U.vm ∧ U.heap = h0) (fun _ _ _ _ _ => True) (fun _ U o U' => ∃ v L, o = .returned v ∧ Q15 Z a0 a2 c0 c1 kc kb h0 n0 v U'.heap L ∧ FrameEnd U o U' L ({ frames := 0, cells := 0, slots := 0, locals := 0 } : Room).cells ({ frames := 0, cells := 0, slots := 0, locals := 0 } : Room).slots) := by
  refine MetFree.of_bodySF (plainFor_of_name pn_2) hisR ?_
  intro p e s m args below meth c s₁ Bd hml0 hP hK
  obtain ⟨rfl, hZ, hh⟩ := hP
  have hx := Bd.exec
  have hby := Bd.bytes
  have hml : c.maxLocals = 7 := hml0
  have hown : s.vm.findClass "java/lang/StringUTF16" = some m.cls := findClass_of_methodNamed Bd.named
  have hnm := (name_of_methodNamed Bd.named Bd.method).1
  have X0 : Stand p l e ({ frames := 0, cells := 0, slots := 0, locals := 0 } : Room) s m #[(.ref a0), (.int (0 : Int32)), (.ref a2), (.int (0 : Int32)), (.int (2 : Int32))] below meth c s₁ [] 0 0 := Stand.of_body Bd
  have e0 : s₁.heap = h0 := by rw [← hh, Bd.state]; rfl
  have N0 := Fr.nil n0
  have pre0 : ∀ t, Steps p.tables e below (s₁.setTop (mkF m 0 #[.val (.ref a0), .val (.int (0 : Int32)), .val (.ref a2), .val (.int (0 : Int32)), .val (.int (2 : Int32)), .unset, .unset] [])) t → Steps p.tables e below (s₁.setTop (entryFrame m #[(.ref a0), (.int (0 : Int32)), (.ref a2), (.int (0 : Int32)), (.int (2 : Int32))] 7)) t := fun t k => castTop (ef_15 m a0 (0 : Int32) a2 (0 : Int32) (2 : Int32) ) k
  obtain ⟨co1, Ao1, qo1, So1, No1, Ho1, Go1⟩ := id Arv_3
  have hin2 : ¬ ((0 : Int32) < 0 ∨ co1.slots.size ≤ ((0 : Int32)).toNatClampNeg) := inb_of So1 ⟨by decide, by decide⟩
  have hat3 : co1.slots[((0 : Int32)).toNatClampNeg]? = some (.int c0) := Has.at Ho1 hin2 rfl
  obtain ⟨co4, Ao4, qo4, So4, No4, Ho4, Go4⟩ := id Arv_4
  have hin5 : ¬ ((0 : Int32) < 0 ∨ co4.slots.size ≤ ((0 : Int32)).toNatClampNeg) := inb_of So4 ⟨by decide, by decide⟩
  obtain ⟨T6, h6, X6, e6, W6, st6⟩ := stB X0 hx hZ e0 Ao4 (j := (0 : Int32)) hin5 (g := (mkF m 31 #[.val (.ref a0), .val (.int (0 : Int32)), .val (.ref a2), .val (.int (0 : Int32)), .val (.int (2 : Int32)), .val (.int (0 : Int32)), .val (.int c0)] [(.int (c0.toInt8.toInt32)), (.int (0 : Int32)), (.ref a2)])) rfl rfl (hb hby d15_31)
  have V6 : Arv Z h6 a2 kb .byte (2 : Int32) [(.int ((c0.toInt8.toInt32)).toInt8.toInt32), (.int (0 : Int32))] (.int (0 : Int32)) := Arv.set Ao4 qo4 So4 No4 Ho4 Go4 (fits_nar_byte _) W6 0 rfl (Nat.le_of_ble_eq_true rfl)
  have f7 := (Arv_3.other W6 hne)
  have N6 := Fr.snoc X6 N0 g_a2
  have K6 : Keep h0 h6 [a2] := Keep.wr (Keep.refl h0 [a2]) W6 (Or.inl (List.mem_of_getElem? (i := 0) rfl))
  obtain ⟨co8, Ao8, qo8, So8, No8, Ho8, Go8⟩ := id f7
  have hin9 : ¬ ((1 : Int32) < 0 ∨ co8.slots.size ≤ ((1 : Int32)).toNatClampNeg) := inb_of So8 ⟨by decide, by decide⟩
  have hat10 : co8.slots[((1 : Int32)).toNatClampNeg]? = some (.int c1) := Has.at Ho8 hin9 rfl
  obtain ⟨co11, Ao11, qo11, So11, No11, Ho11, Go11⟩ := id V6
  have hin12 : ¬ ((1 : Int32) < 0 ∨ co11.slots.size ≤ ((1 : Int32)).toNatClampNeg) := inb_of So11 ⟨by decide, by decide⟩
  obtain ⟨T13, h13, X13, e13, W13, st13⟩ := stB X6 hx hZ e6 Ao11 (j := (1 : Int32)) hin12 (g := (mkF m 31 #[.val (.ref a0), .val (.int (1 : Int32)), .val (.ref a2), .val (.int (1 : Int32)), .val (.int (2 : Int32)), .val (.int (1 : Int32)), .val (.int c1)] [(.int (c1.toInt8.toInt32)), (.int (1 : Int32)), (.ref a2)])) rfl rfl (hb hby d15_31)
  have V13 : Arv Z h13 a2 kb .byte (2 : Int32) [(.int ((c0.toInt8.toInt32)).toInt8.toInt32), (.int ((c1.toInt8.toInt32)).toInt8.toInt32)] (.int (0 : Int32)) := Arv.set Ao11 qo11 So11 No11 Ho11 Go11 (fits_nar_byte _) W13 1 rfl (Nat.le_of_ble_eq_true rfl)
  have f14 := (f7.other W13 hne)
  have N13 := Fr.snoc X13 N6 g_a2
  have K13 : Keep h0 h13 [a2] := Keep.wr K6 W13 (Or.inl (List.mem_of_getElem? (i := 0) rfl))
  have pre15 : ∀ t, Steps p.tables e below (T13.setTop (mkF m 46 #[.val (.ref a0), .val (.int (2 : Int32)), .val (.ref a2), .val (.int (2 : Int32)), .val (.int (2 : Int32)), .val (.int (2 : Int32)), .val (.int c1)] [(.int (2 : Int32))])) t → Steps p.tables e below (s₁.setTop (entryFrame m #[(.ref a0), (.int (0 : Int32)), (.ref a2), (.int (0 : Int32)), (.int (2 : Int32))] 7)) t := fun t kt => pre0 t (by
      show Steps p.tables e below (s₁.setTop (mkF m 0 #[.val (.ref a0), .val (.int (0 : Int32)), .val (.ref a2), .val (.int (0 : Int32)), .val (.int (2 : Int32)), .unset, .unset] [])) _
      refine XS.iconst X0.here hx rfl (hb hby d15_0) ?_
      show Steps p.tables e below (s₁.setTop (mkF m 1 #[.val (.ref a0), .val (.int (0 : Int32)), .val (.ref a2), .val (.int (0 : Int32)), .val (.int (2 : Int32)), .unset, .unset] [(.int (0 : Int32))])) _
      refine XS.istore X0.here hx rfl (hb hby d15_1) rfl (l' := #[.val (.ref a0), .val (.int (0 : Int32)), .val (.ref a2), .val (.int (0 : Int32)), .val (.int (2 : Int32)), .val (.int (0 : Int32)), .unset]) rfl ?_
      show Steps p.tables e below (s₁.setTop (mkF m 3 #[.val (.ref a0), .val (.int (0 : Int32)), .val (.ref a2), .val (.int (0 : Int32)), .val (.int (2 : Int32)), .val (.int (0 : Int32)), .unset] [])) _
      refine XS.iload X0.here hx rfl (hb hby d15_3) rfl ?_
      show Steps p.tables e below (s₁.setTop (mkF m 5 #[.val (.ref a0), .val (.int (0 : Int32)), .val (.ref a2), .val (.int (0 : Int32)), .val (.int (2 : Int32)), .val (.int (0 : Int32)), .unset] [(.int (0 : Int32))])) _
      refine XS.iload X0.here hx rfl (hb hby d15_5) rfl ?_
      show Steps p.tables e below (s₁.setTop (mkF m 7 #[.val (.ref a0), .val (.int (0 : Int32)), .val (.ref a2), .val (.int (0 : Int32)), .val (.int (2 : Int32)), .val (.int (0 : Int32)), .unset] [(.int (2 : Int32)), (.int (0 : Int32))])) _
      refine XS.icmpNo X0.here hx rfl (hb hby d15_7) rfl (tlt (by decide : (0 : Int32) < (2 : Int32))).2.1 ?_
      show Steps p.tables e below (s₁.setTop (mkF m 10 #[.val (.ref a0), .val (.int (0 : Int32)), .val (.ref a2), .val (.int (0 : Int32)), .val (.int (2 : Int32)), .val (.int (0 : Int32)), .unset] [])) _
      refine XS.aloadN X0.here hx rfl (hb hby d15_10) rfl rfl ?_
      show Steps p.tables e below (s₁.setTop (mkF m 11 #[.val (.ref a0), .val (.int (0 : Int32)), .val (.ref a2), .val (.int (0 : Int32)), .val (.int (2 : Int32)), .val (.int (0 : Int32)), .unset] [(.ref a0)])) _
      refine XS.iloadN X0.here hx rfl (hb hby d15_11) rfl ?_
      show Steps p.tables e below (s₁.setTop (mkF m 12 #[.val (.ref a0), .val (.int (0 : Int32)), .val (.ref a2), .val (.int (0 : Int32)), .val (.int (2 : Int32)), .val (.int (0 : Int32)), .unset] [(.int (0 : Int32)), (.ref a0)])) _
      refine X0.caload hx (j := (0 : Int32)) (v := (.int c0)) (by rw [e0]; exact Ao1.1) (State.isArrayOf_alike hZ.alike Ao1.2.1) Ao1.2.2 hin2 hat3 (g := (mkF m 12 #[.val (.ref a0), .val (.int (0 : Int32)), .val (.ref a2), .val (.int (0 : Int32)), .val (.int (2 : Int32)), .val (.int (0 : Int32)), .unset] [(.int (0 : Int32)), (.ref a0)])) rfl rfl (hb hby d15_12) _ ?_
      show Steps p.tables e below (s₁.setTop (mkF m 13 #[.val (.ref a0), .val (.int (0 : Int32)), .val (.ref a2), .val (.int (0 : Int32)), .val (.int (2 : Int32)), .val (.int (0 : Int32)), .unset] [(.int c0)])) _
      refine XS.istore X0.here hx rfl (hb hby d15_13) rfl (l' := #[.val (.ref a0), .val (.int (0 : Int32)), .val (.ref a2), .val (.int (0 : Int32)), .val (.int (2 : Int32)), .val (.int (0 : Int32)), .val (.int c0)]) rfl ?_
      show Steps p.tables e below (s₁.setTop (mkF m 15 #[.val (.ref a0), .val (.int (0 : Int32)), .val (.ref a2), .val (.int (0 : Int32)), .val (.int (2 : Int32)), .val (.int (0 : Int32)), .val (.int c0)] [])) _
      refine XS.iload X0.here hx rfl (hb hby d15_15) rfl ?_
      show Steps p.tables e below (s₁.setTop (mkF m 17 #[.val (.ref a0), .val (.int (0 : Int32)), .val (.ref a2), .val (.int (0 : Int32)), .val (.int (2 : Int32)), .val (.int (0 : Int32)), .val (.int c0)] [(.int c0)])) _
      refine XS.sipush X0.here hx rfl (hb hby d15_17) ?_
      show Steps p.tables e below (s₁.setTop (mkF m 20 #[.val (.ref a0), .val (.int (0 : Int32)), .val (.ref a2), .val (.int (0 : Int32)), .val (.int (2 : Int32)), .val (.int (0 : Int32)), .val (.int c0)] [(.int (255 : Int32)), (.int c0)])) _
      refine XS.icmpYes X0.here hx rfl (pc0 := 20) (pc' := 26) rfl (hb hby d15_20) rfl (flt h0c).2.2.2 (by decide) (by decide) ?_
      show Steps p.tables e below (s₁.setTop (mkF m 26 #[.val (.ref a0), .val (.int (0 : Int32)), .val (.ref a2), .val (.int (0 : Int32)), .val (.int (2 : Int32)), .val (.int (0 : Int32)), .val (.int c0)] [])) _
      refine XS.aloadN X0.here hx rfl (hb hby d15_26) rfl rfl ?_
      show Steps p.tables e below (s₁.setTop (mkF m 27 #[.val (.ref a0), .val (.int (0 : Int32)), .val (.ref a2), .val (.int (0 : Int32)), .val (.int (2 : Int32)), .val (.int (0 : Int32)), .val (.int c0)] [(.ref a2)])) _
      refine XS.iloadN X0.here hx rfl (hb hby d15_27) rfl ?_
      show Steps p.tables e below (s₁.setTop (mkF m 28 #[.val (.ref a0), .val (.int (0 : Int32)), .val (.ref a2), .val (.int (0 : Int32)), .val (.int (2 : Int32)), .val (.int (0 : Int32)), .val (.int c0)] [(.int (0 : Int32)), (.ref a2)])) _
      refine XS.iload X0.here hx rfl (hb hby d15_28) rfl ?_
      show Steps p.tables e below (s₁.setTop (mkF m 30 #[.val (.ref a0), .val (.int (0 : Int32)), .val (.ref a2), .val (.int (0 : Int32)), .val (.int (2 : Int32)), .val (.int (0 : Int32)), .val (.int c0)] [(.int c0), (.int (0 : Int32)), (.ref a2)])) _
      refine XS.i2b X0.here hx rfl (hb hby d15_30) rfl ?_
      show Steps p.tables e below (s₁.setTop (mkF m 31 #[.val (.ref a0), .val (.int (0 : Int32)), .val (.ref a2), .val (.int (0 : Int32)), .val (.int (2 : Int32)), .val (.int (0 : Int32)), .val (.int c0)] [(.int (c0.toInt8.toInt32)), (.int (0 : Int32)), (.ref a2)])) _
      refine st6 _ ?_
      show Steps p.tables e below (T6.setTop (mkF m 32 #[.val (.ref a0), .val (.int (0 : Int32)), .val (.ref a2), .val (.int (0 : Int32)), .val (.int (2 : Int32)), .val (.int (0 : Int32)), .val (.int c0)] [])) _
      refine XS.iinc X6.here hx rfl (hb hby d15_32) rfl (l' := #[.val (.ref a0), .val (.int (1 : Int32)), .val (.ref a2), .val (.int (0 : Int32)), .val (.int (2 : Int32)), .val (.int (0 : Int32)), .val (.int c0)]) rfl ?_
      show Steps p.tables e below (T6.setTop (mkF m 35 #[.val (.ref a0), .val (.int (1 : Int32)), .val (.ref a2), .val (.int (0 : Int32)), .val (.int (2 : Int32)), .val (.int (0 : Int32)), .val (.int c0)] [])) _
      refine XS.iinc X6.here hx rfl (hb hby d15_35) rfl (l' := #[.val (.ref a0), .val (.int (1 : Int32)), .val (.ref a2), .val (.int (1 : Int32)), .val (.int (2 : Int32)), .val (.int (0 : Int32)), .val (.int c0)]) rfl ?_
      show Steps p.tables e below (T6.setTop (mkF m 38 #[.val (.ref a0), .val (.int (1 : Int32)), .val (.ref a2), .val (.int (1 : Int32)), .val (.int (2 : Int32)), .val (.int (0 : Int32)), .val (.int c0)] [])) _
      refine XS.iinc X6.here hx rfl (hb hby d15_38) rfl (l' := #[.val (.ref a0), .val (.int (1 : Int32)), .val (.ref a2), .val (.int (1 : Int32)), .val (.int (2 : Int32)), .val (.int (1 : Int32)), .val (.int c0)]) rfl ?_
      show Steps p.tables e below (T6.setTop (mkF m 41 #[.val (.ref a0), .val (.int (1 : Int32)), .val (.ref a2), .val (.int (1 : Int32)), .val (.int (2 : Int32)), .val (.int (1 : Int32)), .val (.int c0)] [])) _
      refine XS.goto X6.here hx rfl (pc0 := 41) (pc' := 3) rfl (hb hby d15_41) (by decide) (by decide) ?_
      show Steps p.tables e below (T6.setTop (mkF m 3 #[.val (.ref a0), .val (.int (1 : Int32)), .val (.ref a2), .val (.int (1 : Int32)), .val (.int (2 : Int32)), .val (.int (1 : Int32)), .val (.int c0)] [])) _
      refine XS.iload X6.here hx rfl (hb hby d15_3) rfl ?_
      show Steps p.tables e below (T6.setTop (mkF m 5 #[.val (.ref a0), .val (.int (1 : Int32)), .val (.ref a2), .val (.int (1 : Int32)), .val (.int (2 : Int32)), .val (.int (1 : Int32)), .val (.int c0)] [(.int (1 : Int32))])) _
      refine XS.iload X6.here hx rfl (hb hby d15_5) rfl ?_
      show Steps p.tables e below (T6.setTop (mkF m 7 #[.val (.ref a0), .val (.int (1 : Int32)), .val (.ref a2), .val (.int (1 : Int32)), .val (.int (2 : Int32)), .val (.int (1 : Int32)), .val (.int c0)] [(.int (2 : Int32)), (.int (1 : Int32))])) _
      refine XS.icmpNo X6.here hx rfl (hb hby d15_7) rfl (tlt (by decide : (1 : Int32) < (2 : Int32))).2.1 ?_
      show Steps p.tables e below (T6.setTop (mkF m 10 #[.val (.ref a0), .val (.int (1 : Int32)), .val (.ref a2), .val (.int (1 : Int32)), .val (.int (2 : Int32)), .val (.int (1 : Int32)), .val (.int c0)] [])) _
      refine XS.aloadN X6.here hx rfl (hb hby d15_10) rfl rfl ?_
      show Steps p.tables e below (T6.setTop (mkF m 11 #[.val (.ref a0), .val (.int (1 : Int32)), .val (.ref a2), .val (.int (1 : Int32)), .val (.int (2 : Int32)), .val (.int (1 : Int32)), .val (.int c0)] [(.ref a0)])) _
      refine XS.iloadN X6.here hx rfl (hb hby d15_11) rfl ?_
      show Steps p.tables e below (T6.setTop (mkF m 12 #[.val (.ref a0), .val (.int (1 : Int32)), .val (.ref a2), .val (.int (1 : Int32)), .val (.int (2 : Int32)), .val (.int (1 : Int32)), .val (.int c0)] [(.int (1 : Int32)), (.ref a0)])) _
      refine X6.caload hx (j := (1 : Int32)) (v := (.int c1)) (by rw [e6]; exact Ao8.1) (State.isArrayOf_alike hZ.alike Ao8.2.1) Ao8.2.2 hin9 hat10 (g := (mkF m 12 #[.val (.ref a0), .val (.int (1 : Int32)), .val (.ref a2), .val (.int (1 : Int32)), .val (.int (2 : Int32)), .val (.int (1 : Int32)), .val (.int c0)] [(.int (1 : Int32)), (.ref a0)])) rfl rfl (hb hby d15_12) _ ?_
      show Steps p.tables e below (T6.setTop (mkF m 13 #[.val (.ref a0), .val (.int (1 : Int32)), .val (.ref a2), .val (.int (1 : Int32)), .val (.int (2 : Int32)), .val (.int (1 : Int32)), .val (.int c0)] [(.int c1)])) _
      refine XS.istore X6.here hx rfl (hb hby d15_13) rfl (l' := #[.val (.ref a0), .val (.int (1 : Int32)), .val (.ref a2), .val (.int (1 : Int32)), .val (.int (2 : Int32)), .val (.int (1 : Int32)), .val (.int c1)]) rfl ?_
      show Steps p.tables e below (T6.setTop (mkF m 15 #[.val (.ref a0), .val (.int (1 : Int32)), .val (.ref a2), .val (.int (1 : Int32)), .val (.int (2 : Int32)), .val (.int (1 : Int32)), .val (.int c1)] [])) _
      refine XS.iload X6.here hx rfl (hb hby d15_15) rfl ?_
      show Steps p.tables e below (T6.setTop (mkF m 17 #[.val (.ref a0), .val (.int (1 : Int32)), .val (.ref a2), .val (.int (1 : Int32)), .val (.int (2 : Int32)), .val (.int (1 : Int32)), .val (.int c1)] [(.int c1)])) _
      refine XS.sipush X6.here hx rfl (hb hby d15_17) ?_
      show Steps p.tables e below (T6.setTop (mkF m 20 #[.val (.ref a0), .val (.int (1 : Int32)), .val (.ref a2), .val (.int (1 : Int32)), .val (.int (2 : Int32)), .val (.int (1 : Int32)), .val (.int c1)] [(.int (255 : Int32)), (.int c1)])) _
      refine XS.icmpYes X6.here hx rfl (pc0 := 20) (pc' := 26) rfl (hb hby d15_20) rfl (flt h1c).2.2.2 (by decide) (by decide) ?_
      show Steps p.tables e below (T6.setTop (mkF m 26 #[.val (.ref a0), .val (.int (1 : Int32)), .val (.ref a2), .val (.int (1 : Int32)), .val (.int (2 : Int32)), .val (.int (1 : Int32)), .val (.int c1)] [])) _
      refine XS.aloadN X6.here hx rfl (hb hby d15_26) rfl rfl ?_
      show Steps p.tables e below (T6.setTop (mkF m 27 #[.val (.ref a0), .val (.int (1 : Int32)), .val (.ref a2), .val (.int (1 : Int32)), .val (.int (2 : Int32)), .val (.int (1 : Int32)), .val (.int c1)] [(.ref a2)])) _
      refine XS.iloadN X6.here hx rfl (hb hby d15_27) rfl ?_
      show Steps p.tables e below (T6.setTop (mkF m 28 #[.val (.ref a0), .val (.int (1 : Int32)), .val (.ref a2), .val (.int (1 : Int32)), .val (.int (2 : Int32)), .val (.int (1 : Int32)), .val (.int c1)] [(.int (1 : Int32)), (.ref a2)])) _
      refine XS.iload X6.here hx rfl (hb hby d15_28) rfl ?_
      show Steps p.tables e below (T6.setTop (mkF m 30 #[.val (.ref a0), .val (.int (1 : Int32)), .val (.ref a2), .val (.int (1 : Int32)), .val (.int (2 : Int32)), .val (.int (1 : Int32)), .val (.int c1)] [(.int c1), (.int (1 : Int32)), (.ref a2)])) _
      refine XS.i2b X6.here hx rfl (hb hby d15_30) rfl ?_
      show Steps p.tables e below (T6.setTop (mkF m 31 #[.val (.ref a0), .val (.int (1 : Int32)), .val (.ref a2), .val (.int (1 : Int32)), .val (.int (2 : Int32)), .val (.int (1 : Int32)), .val (.int c1)] [(.int (c1.toInt8.toInt32)), (.int (1 : Int32)), (.ref a2)])) _
      refine st13 _ ?_
      show Steps p.tables e below (T13.setTop (mkF m 32 #[.val (.ref a0), .val (.int (1 : Int32)), .val (.ref a2), .val (.int (1 : Int32)), .val (.int (2 : Int32)), .val (.int (1 : Int32)), .val (.int c1)] [])) _
      refine XS.iinc X13.here hx rfl (hb hby d15_32) rfl (l' := #[.val (.ref a0), .val (.int (2 : Int32)), .val (.ref a2), .val (.int (1 : Int32)), .val (.int (2 : Int32)), .val (.int (1 : Int32)), .val (.int c1)]) rfl ?_
      show Steps p.tables e below (T13.setTop (mkF m 35 #[.val (.ref a0), .val (.int (2 : Int32)), .val (.ref a2), .val (.int (1 : Int32)), .val (.int (2 : Int32)), .val (.int (1 : Int32)), .val (.int c1)] [])) _
      refine XS.iinc X13.here hx rfl (hb hby d15_35) rfl (l' := #[.val (.ref a0), .val (.int (2 : Int32)), .val (.ref a2), .val (.int (2 : Int32)), .val (.int (2 : Int32)), .val (.int (1 : Int32)), .val (.int c1)]) rfl ?_
      show Steps p.tables e below (T13.setTop (mkF m 38 #[.val (.ref a0), .val (.int (2 : Int32)), .val (.ref a2), .val (.int (2 : Int32)), .val (.int (2 : Int32)), .val (.int (1 : Int32)), .val (.int c1)] [])) _
      refine XS.iinc X13.here hx rfl (hb hby d15_38) rfl (l' := #[.val (.ref a0), .val (.int (2 : Int32)), .val (.ref a2), .val (.int (2 : Int32)), .val (.int (2 : Int32)), .val (.int (2 : Int32)), .val (.int c1)]) rfl ?_
      show Steps p.tables e below (T13.setTop (mkF m 41 #[.val (.ref a0), .val (.int (2 : Int32)), .val (.ref a2), .val (.int (2 : Int32)), .val (.int (2 : Int32)), .val (.int (2 : Int32)), .val (.int c1)] [])) _
      refine XS.goto X13.here hx rfl (pc0 := 41) (pc' := 3) rfl (hb hby d15_41) (by decide) (by decide) ?_
      show Steps p.tables e below (T13.setTop (mkF m 3 #[.val (.ref a0), .val (.int (2 : Int32)), .val (.ref a2), .val (.int (2 : Int32)), .val (.int (2 : Int32)), .val (.int (2 : Int32)), .val (.int c1)] [])) _
      refine XS.iload X13.here hx rfl (hb hby d15_3) rfl ?_
      show Steps p.tables e below (T13.setTop (mkF m 5 #[.val (.ref a0), .val (.int (2 : Int32)), .val (.ref a2), .val (.int (2 : Int32)), .val (.int (2 : Int32)), .val (.int (2 : Int32)), .val (.int c1)] [(.int (2 : Int32))])) _
      refine XS.iload X13.here hx rfl (hb hby d15_5) rfl ?_
      show Steps p.tables e below (T13.setTop (mkF m 7 #[.val (.ref a0), .val (.int (2 : Int32)), .val (.ref a2), .val (.int (2 : Int32)), .val (.int (2 : Int32)), .val (.int (2 : Int32)), .val (.int c1)] [(.int (2 : Int32)), (.int (2 : Int32))])) _
      refine XS.icmpYes X13.here hx rfl (pc0 := 7) (pc' := 44) rfl (hb hby d15_7) rfl (flt (fun z => Int32.lt_irrefl z)).2.1 (by decide) (by decide) ?_
      show Steps p.tables e below (T13.setTop (mkF m 44 #[.val (.ref a0), .val (.int (2 : Int32)), .val (.ref a2), .val (.int (2 : Int32)), .val (.int (2 : Int32)), .val (.int (2 : Int32)), .val (.int c1)] [])) _
      refine XS.iload X13.here hx rfl (hb hby d15_44) rfl ?_
      exact kt)
  obtain ⟨fs, hr, hrun, hended, hW, hsame⟩ := X13.leave (v := some (.int (2 : Int32))) (fun h => by rw [Bd.returns] at h; cases h)
  refine ⟨_, _, pre15 _ ?_, hrun, hended, _, _, rfl, ?_, ⟨_, rfl⟩, hW, hsame.mono (by decide) (by decide)⟩
  · show Steps p.tables e below (T13.setTop (mkF m 46 #[.val (.ref a0), .val (.int (2 : Int32)), .val (.ref a2), .val (.int (2 : Int32)), .val (.int (2 : Int32)), .val (.int (2 : Int32)), .val (.int c1)] [(.int (2 : Int32))])) _
    exact retI X13 hx Bd.returns (hb hby d15_46) hr
  · show Q15 Z _ _ _ _ _ _ h0 n0 _ T13.heap _
    rw [e13]
    exact ⟨rfl, N13, K13, V13⟩
theorem pd_3 : parseMethodDescriptor "([CI[BII)I" = some ⟨[(.array .char), .int, (.array .byte), .int, .int], some .int⟩ := by decide +kernel
theorem d14_0 : decode jdk_52_method_16_code 0 = .ok (.iload_n 2, 1) := by decide +kernel
theorem d14_1 : decode jdk_52_method_16_code 1 = .ok (.newarray .byte, 2) := by decide +kernel
theorem d14_3 : decode jdk_52_method_16_code 3 = .ok (.astore_n 3, 1) := by decide +kernel
theorem d14_4 : decode jdk_52_method_16_code 4 = .ok (.aload_n 0, 1) := by decide +kernel
theorem d14_5 : decode jdk_52_method_16_code 5 = .ok (.iload_n 1, 1) := by decide +kernel
theorem d14_6 : decode jdk_52_method_16_code 6 = .ok (.aload_n 3, 1) := by decide +kernel
theorem d14_7 : decode jdk_52_method_16_code 7 = .ok (.iconst 0, 1) := by decide +kernel
theorem d14_8 : decode jdk_52_method_16_code 8 = .ok (.iload_n 2, 1) := by decide +kernel
theorem d14_9 : decode jdk_52_method_16_code 9 = .ok (.invokestatic 115, 3) := by decide +kernel
theorem d14_12 : decode jdk_52_method_16_code 12 = .ok (.istore 4, 2) := by decide +kernel
theorem d14_14 : decode jdk_52_method_16_code 14 = .ok (.iload 4, 2) := by decide +kernel
theorem d14_16 : decode jdk_52_method_16_code 16 = .ok (.iload_n 2, 1) := by decide +kernel
theorem d14_17 : decode jdk_52_method_16_code 17 = .ok (.if_icmp .eq 40, 3) := by decide +kernel
theorem d14_57 : decode jdk_52_method_16_code 57 = .ok (.aload_n 3, 1) := by decide +kernel
theorem d14_58 : decode jdk_52_method_16_code 58 = .ok (.areturn, 1) := by decide +kernel
theorem ef_14 (m : MethodId) (x0 : Addr) (x1 : Int32) (x2 : Int32)  : entryFrame m #[(.ref x0), (.int x1), (.int x2)] 6 = mkF m 0 #[.val (.ref x0), .val (.int x1), .val (.int x2), .unset, .unset, .unset] [] := by first | (simp [entryFrame, mkF, argsToLocals, Value.category]; done) | rfl
def Q14 (Z : State) (a0 : Addr) (c0 : Int32) (c1 : Int32) (kc : ClassId) (h0 : Heap) (n0 : Nat) (v : Option Value) (h : Heap) (L : List Loc) : Prop := (∃ (r : Addr) (kb : ClassId), v = some (.ref r) ∧ (h0.size ≤ r) ∧ (Arv Z h r kb .byte (2 : Int32) [(.int ((c0.toInt8.toInt32)).toInt8.toInt32), (.int ((c1.toInt8.toInt32)).toInt8.toInt32)] (.int (0 : Int32)))) ∧ Fr n0 L ∧ (Keep h0 h [])
set_option maxRecDepth 65536 in
set_option maxHeartbeats 40000000 in
theorem rm14 (l : Launch) (Z : State) (aw : Array Value) (hw : ∀ d ∈ tables_1, d.before aw Z = true) (ws : List Jvm.Cond) (a0 : Addr) (c0 : Int32) (c1 : Int32) (kc : ClassId) (h0 : Heap) (n0 : Nat) (Z0 : n0 ≤ h0.size) (h0c : ¬ (255 : Int32) < c0) (h1c : ¬ (255 : Int32) < c1) (Arv_2 : Arv Z h0 a0 kc .char (2 : Int32) [(.int c0), (.int c1)] (.int (0 : Int32))) :
    MetFree l (⟨"java/lang/StringUTF16", "compress", "([CII)[B"⟩ : MethodName) (head1 (Jvm.Cond.code (⟨"java/lang/StringUTF16", "compress", "([CII)[B"⟩ : MethodName) jdk_52_method_16_code 6 (some (.array .byte)) :: ws) ({ frames := 1, cells := 1, slots := 2, locals := 18 } : Room)) (fun a U => a = #[(.ref a0), (.int (0 : Int32)), (.int (2 : Int32))] ∧ Z.Warmed39 U.vm ∧ U.heap = h0) (fun _ _ _ _ _ => True) (fun _ U o U' => ∃ v L, o = .returned v ∧ Q14 Z a0 c0 c1 kc h0 n0 v U'.heap L ∧ FrameEnd U o U' L ({ frames := 1, cells := 1, slots := 2, locals := 18 } : Room).cells ({ frames := 1, cells := 1, slots := 2, locals := 18 } : Room).slots) := by
  refine MetFree.of_bodySF (plainFor_of_name pn_2) hisR ?_
  intro p e s m args below meth c s₁ Bd hml0 hP hK
  obtain ⟨rfl, hZ, hh⟩ := hP
  have hx := Bd.exec
  have hby := Bd.bytes
  have hml : c.maxLocals = 6 := hml0
  have hown : s.vm.findClass "java/lang/StringUTF16" = some m.cls := findClass_of_methodNamed Bd.named
  have hnm := (name_of_methodNamed Bd.named Bd.method).1
  have X0 : Stand p l e ({ frames := 1, cells := 1, slots := 2, locals := 18 } : Room) s m #[(.ref a0), (.int (0 : Int32)), (.int (2 : Int32))] below meth c s₁ [] 0 0 := Stand.of_body Bd
  have e0 : s₁.heap = h0 := by rw [← hh, Bd.state]; rfl
  have N0 := Fr.nil n0
  have pre0 : ∀ t, Steps p.tables e below (s₁.setTop (mkF m 0 #[.val (.ref a0), .val (.int (0 : Int32)), .val (.int (2 : Int32)), .unset, .unset, .unset] [])) t → Steps p.tables e below (s₁.setTop (entryFrame m #[(.ref a0), (.int (0 : Int32)), (.int (2 : Int32))] 6)) t := fun t k => castTop (ef_14 m a0 (0 : Int32) (2 : Int32) ) k
  obtain ⟨T1, h1, k1, X1, e1, E1, A1, st1⟩ := newP X0 hx hZ (hw _ (List.mem_of_getElem? (i := 19) rfl)) e0 (g := (mkF m 1 #[.val (.ref a0), .val (.int (0 : Int32)), .val (.int (2 : Int32)), .unset, .unset, .unset] [(.int (2 : Int32))])) rfl (hb hby d14_1) rfl (by decide) (cap := 2) (by decide) (by decide) (by decide) (by decide)
  obtain ⟨b1, g1⟩ : ∃ z, z = h0.size := ⟨_, rfl⟩
  rw [← g1] at A1 st1
  have f2 := (Arv_2.ext E1)
  have ne3 : a0 ≠ b1 := Nat.ne_of_lt (Nat.lt_of_lt_of_le Arv_2.lt (Nat.le_of_eq g1.symm))
  have ge_b1 : n0 ≤ b1 := Nat.le_trans Z0 (Nat.le_of_eq g1.symm)
  have sz_b1 : h0.size ≤ b1 := Nat.le_trans (Keep.refl h0 []).1 (Nat.le_of_eq g1.symm)
  have K1 : Keep h0 h1 [] := Keep.ext (Keep.refl h0 []) E1
  have V1 : Arv Z h1 b1 k1 .byte (2 : Int32) [(.int (0 : Int32)), (.int (0 : Int32))] (.int (0 : Int32)) := (Arv.new A1 (by decide)).pad (pad_rep [] (.int (0 : Int32)) 2)
  obtain ⟨_, _, ⟨T4, L4, k4, n4⟩, -, X4, ⟨Lc4, hQ4, l4, y4, z4⟩, st4⟩ := Jvm.LawKit.callS X1 hx (y := (⟨"java/lang/StringUTF16", "compress", "([CI[BII)I"⟩ : MethodName)) hown (mvT hZ (hw _ (List.mem_of_getElem? (i := 79) rfl))) (mvT hZ (hw _ (List.mem_of_getElem? (i := 80) rfl))) (mvT hZ (hw _ (List.mem_of_getElem? (i := 77) rfl))) (mvT hZ (hw _ (List.mem_of_getElem? (i := 81) rfl))) (by decide) (backOf (W := 0) (rm15 l Z aw hw [] a0 b1 c0 c1 kc k1 h1 n0 (Nat.le_trans Z0 E1.1) h0c h1c ne3 f2 V1 ge_b1) hZ (hw _ (List.mem_of_getElem? (i := 81) rfl)) (hw _ (List.mem_of_getElem? (i := 77) rfl)) (by decide) (by decide)) (g := (mkF m 9 #[.val (.ref a0), .val (.int (0 : Int32)), .val (.int (2 : Int32)), .val (.ref b1), .unset, .unset] [(.int (2 : Int32)), (.int (0 : Int32)), (.ref b1), (.int (0 : Int32)), (.ref a0)])) rfl (by rw [hml]; rfl) (argsL := [(.ref a0), (.int (0 : Int32)), (.ref b1), (.int (0 : Int32)), (.int (2 : Int32))]) (rest := []) (lenOf pd_3 rfl) rfl (by show 2 * 0 + _ ≤ _; exact Nat.le_of_eq rfl) (hb hby d14_9) (fun _ _ => ⟨rfl, e1, (by decide : 1 + 0 ≤ _), (by decide : 2 + 0 ≤ _)⟩)
  dsimp only [Pt.U, Pt.locs, Pt.cells, Pt.slots] at X4 l4 y4 z4 st4 hQ4
  subst l4 y4 z4
  obtain ⟨rfl, Nq4, c4_0, c4_1⟩ := hQ4
  have N4 := Fr.app N0 Nq4
  have f5 := (f2.keep c4_0 (ninS ne3 nin0))
  have K6 : Keep h0 T4.heap [] := Keep.trans K1 c4_0 (allS (Or.inr sz_b1) all0)
  have pre7 : ∀ t, Steps p.tables e below (T4.setTop (mkF m 58 #[.val (.ref a0), .val (.int (0 : Int32)), .val (.int (2 : Int32)), .val (.ref b1), .val (.int (2 : Int32)), .unset] [(.ref b1)])) t → Steps p.tables e below (s₁.setTop (entryFrame m #[(.ref a0), (.int (0 : Int32)), (.int (2 : Int32))] 6)) t := fun t kt => pre0 t (by
      show Steps p.tables e below (s₁.setTop (mkF m 0 #[.val (.ref a0), .val (.int (0 : Int32)), .val (.int (2 : Int32)), .unset, .unset, .unset] [])) _
      refine XS.iloadN X0.here hx rfl (hb hby d14_0) rfl ?_
      show Steps p.tables e below (s₁.setTop (mkF m 1 #[.val (.ref a0), .val (.int (0 : Int32)), .val (.int (2 : Int32)), .unset, .unset, .unset] [(.int (2 : Int32))])) _
      refine st1 _ ?_
      show Steps p.tables e below (T1.setTop (mkF m 3 #[.val (.ref a0), .val (.int (0 : Int32)), .val (.int (2 : Int32)), .unset, .unset, .unset] [(.ref b1)])) _
      refine XS.astoreN X1.here hx rfl (hb hby d14_3) rfl rfl (l' := #[.val (.ref a0), .val (.int (0 : Int32)), .val (.int (2 : Int32)), .val (.ref b1), .unset, .unset]) rfl ?_
      show Steps p.tables e below (T1.setTop (mkF m 4 #[.val (.ref a0), .val (.int (0 : Int32)), .val (.int (2 : Int32)), .val (.ref b1), .unset, .unset] [])) _
      refine XS.aloadN X1.here hx rfl (hb hby d14_4) rfl rfl ?_
      show Steps p.tables e below (T1.setTop (mkF m 5 #[.val (.ref a0), .val (.int (0 : Int32)), .val (.int (2 : Int32)), .val (.ref b1), .unset, .unset] [(.ref a0)])) _
      refine XS.iloadN X1.here hx rfl (hb hby d14_5) rfl ?_
      show Steps p.tables e below (T1.setTop (mkF m 6 #[.val (.ref a0), .val (.int (0 : Int32)), .val (.int (2 : Int32)), .val (.ref b1), .unset, .unset] [(.int (0 : Int32)), (.ref a0)])) _
      refine XS.aloadN X1.here hx rfl (hb hby d14_6) rfl rfl ?_
      show Steps p.tables e below (T1.setTop (mkF m 7 #[.val (.ref a0), .val (.int (0 : Int32)), .val (.int (2 : Int32)), .val (.ref b1), .unset, .unset] [(.ref b1), (.int (0 : Int32)), (.ref a0)])) _
      refine XS.iconst X1.here hx rfl (hb hby d14_7) ?_
      show Steps p.tables e below (T1.setTop (mkF m 8 #[.val (.ref a0), .val (.int (0 : Int32)), .val (.int (2 : Int32)), .val (.ref b1), .unset, .unset] [(.int (0 : Int32)), (.ref b1), (.int (0 : Int32)), (.ref a0)])) _
      refine XS.iloadN X1.here hx rfl (hb hby d14_8) rfl ?_
      show Steps p.tables e below (T1.setTop (mkF m 9 #[.val (.ref a0), .val (.int (0 : Int32)), .val (.int (2 : Int32)), .val (.ref b1), .unset, .unset] [(.int (2 : Int32)), (.int (0 : Int32)), (.ref b1), (.int (0 : Int32)), (.ref a0)])) _
      refine st4 _ ?_
      show Steps p.tables e below (T4.setTop (mkF m 12 #[.val (.ref a0), .val (.int (0 : Int32)), .val (.int (2 : Int32)), .val (.ref b1), .unset, .unset] [(.int (2 : Int32))])) _
      refine XS.istore X4.here hx rfl (hb hby d14_12) rfl (l' := #[.val (.ref a0), .val (.int (0 : Int32)), .val (.int (2 : Int32)), .val (.ref b1), .val (.int (2 : Int32)), .unset]) rfl ?_
      show Steps p.tables e below (T4.setTop (mkF m 14 #[.val (.ref a0), .val (.int (0 : Int32)), .val (.int (2 : Int32)), .val (.ref b1), .val (.int (2 : Int32)), .unset] [])) _
      refine XS.iload X4.here hx rfl (hb hby d14_14) rfl ?_
      show Steps p.tables e below (T4.setTop (mkF m 16 #[.val (.ref a0), .val (.int (0 : Int32)), .val (.int (2 : Int32)), .val (.ref b1), .val (.int (2 : Int32)), .unset] [(.int (2 : Int32))])) _
      refine XS.iloadN X4.here hx rfl (hb hby d14_16) rfl ?_
      show Steps p.tables e below (T4.setTop (mkF m 17 #[.val (.ref a0), .val (.int (0 : Int32)), .val (.int (2 : Int32)), .val (.ref b1), .val (.int (2 : Int32)), .unset] [(.int (2 : Int32)), (.int (2 : Int32))])) _
      refine XS.icmpYes X4.here hx rfl (pc0 := 17) (pc' := 57) rfl (hb hby d14_17) rfl (teq (rfl : (2 : Int32) = (2 : Int32))).1 (by decide) (by decide) ?_
      show Steps p.tables e below (T4.setTop (mkF m 57 #[.val (.ref a0), .val (.int (0 : Int32)), .val (.int (2 : Int32)), .val (.ref b1), .val (.int (2 : Int32)), .unset] [])) _
      refine XS.aloadN X4.here hx rfl (hb hby d14_57) rfl rfl ?_
      exact kt)
  obtain ⟨fs, hr, hrun, hended, hW, hsame⟩ := X4.leave (v := some (.ref b1)) (fun h => by rw [Bd.returns] at h; cases h)
  refine ⟨_, _, pre7 _ ?_, hrun, hended, _, _, rfl, ?_, ⟨_, rfl⟩, hW, hsame.mono (by decide) (by decide)⟩
  · show Steps p.tables e below (T4.setTop (mkF m 58 #[.val (.ref a0), .val (.int (0 : Int32)), .val (.int (2 : Int32)), .val (.ref b1), .val (.int (2 : Int32)), .unset] [(.ref b1)])) _
    jvm_step X4.here [X4.here.top, hx, (hb hby d14_58), X4.method', Bd.returns, Value.isRef, FieldType.isReference]
    first | (intro acts; rw [hr _ acts rfl rfl rfl]) | rw [hr _ _ rfl rfl rfl]
    exact Steps.refl _
  · show Q14 Z _ _ _ _ h0 n0 _ T4.heap _
    exact ⟨⟨_, _, rfl, sz_b1, c4_1⟩, N4, K6⟩
theorem d16_0 : decode jdk_52_method_15_code 0 = .ok (.iload_n 1, 1) := by decide +kernel
theorem d16_1 : decode jdk_52_method_15_code 1 = .ok (.aload_n 0, 1) := by decide +kernel
theorem d16_2 : decode jdk_52_method_15_code 2 = .ok (.arraylength, 1) := by decide +kernel
theorem d16_3 : decode jdk_52_method_15_code 3 = .ok (.isub, 1) := by decide +kernel
theorem d16_4 : decode jdk_52_method_15_code 4 = .ok (.bipush 31, 2) := by decide +kernel
theorem d16_6 : decode jdk_52_method_15_code 6 = .ok (.iushr, 1) := by decide +kernel
theorem d16_7 : decode jdk_52_method_15_code 7 = .ok (.i2b, 1) := by decide +kernel
theorem d16_8 : decode jdk_52_method_15_code 8 = .ok (.ireturn, 1) := by decide +kernel
theorem ef_16 (m : MethodId) (x0 : Addr) (x1 : Int32)  : entryFrame m #[(.ref x0), (.int x1)] 2 = mkF m 0 #[.val (.ref x0), .val (.int x1)] [] := by first | (simp [entryFrame, mkF, argsToLocals, Value.category]; done) | rfl
def Q16 (Z : State) (a0 : Addr) (kb : ClassId) (vs : List Value) (h0 : Heap) (n0 : Nat) (v : Option Value) (h : Heap) (L : List Loc) : Prop := v = some (.int (0 : Int32)) ∧ Fr n0 L ∧ h = h0
set_option maxRecDepth 65536 in
set_option maxHeartbeats 40000000 in
theorem rm16 (l : Launch) (Z : State) (aw : Array Value) (hw : ∀ d ∈ tables_1, d.before aw Z = true) (ws : List Jvm.Cond) (a0 : Addr) (kb : ClassId) (vs : List Value) (h0 : Heap) (n0 : Nat) (Z0 : n0 ≤ h0.size) (Arv_0 : Arv Z h0 a0 kb .byte (2 : Int32) vs (.int (0 : Int32))) :
    MetFree l (⟨"java/lang/StringUTF16", "coderFromArrayLen", "([BI)B"⟩ : MethodName) (head1 (Jvm.Cond.code (⟨"java/lang/StringUTF16", "coderFromArrayLen", "([BI)B"⟩ : MethodName) jdk_52_method_15_code 2 (some .byte) :: ws) ({ frames := 0, cells := 0, slots := 0, locals := 0 } : Room)) (fun a U => a = #[(.ref a0), (.int (2 : Int32))] ∧ Z.Warmed39 U.vm ∧ U.heap = h0) (fun _ _ _ _ _ => True) (fun _ U o U' => ∃ v L, o = .returned v ∧ Q16 Z a0 kb vs h0 n0 v U'.heap L ∧ FrameEnd U o U' L ({ frames := 0, cells := 0, slots := 0, locals := 0 } : Room).cells ({ frames := 0, cells := 0, slots := 0, locals := 0 } : Room).slots) := by
  refine MetFree.of_bodySF (plainFor_of_name pn_2) hisR ?_
  intro p e s m args below meth c s₁ Bd hml0 hP hK
  obtain ⟨rfl, hZ, hh⟩ := hP
  have hx := Bd.exec
  have hby := Bd.bytes
  have hml : c.maxLocals = 2 := hml0
  have hown : s.vm.findClass "java/lang/StringUTF16" = some m.cls := findClass_of_methodNamed Bd.named
  have hnm := (name_of_methodNamed Bd.named Bd.method).1
  have X0 : Stand p l e ({ frames := 0, cells := 0, slots := 0, locals := 0 } : Room) s m #[(.ref a0), (.int (2 : Int32))] below meth c s₁ [] 0 0 := Stand.of_body Bd
  have e0 : s₁.heap = h0 := by rw [← hh, Bd.state]; rfl
  have N0 := Fr.nil n0
  have pre0 : ∀ t, Steps p.tables e below (s₁.setTop (mkF m 0 #[.val (.ref a0), .val (.int (2 : Int32))] [])) t → Steps p.tables e below (s₁.setTop (entryFrame m #[(.ref a0), (.int (2 : Int32))] 2)) t := fun t k => castTop (ef_16 m a0 (2 : Int32) ) k
  obtain ⟨co1, Ao1, qo1, So1, No1, Ho1, Go1⟩ := id Arv_0
  have pre2 : ∀ t, Steps p.tables e below (s₁.setTop (mkF m 8 #[.val (.ref a0), .val (.int (2 : Int32))] [(.int (((((2 : Int32) - (2 : Int32)).toUInt32 >>> ((31 : Int32) &&& 31).toUInt32).toInt32).toInt8.toInt32))])) t → Steps p.tables e below (s₁.setTop (entryFrame m #[(.ref a0), (.int (2 : Int32))] 2)) t := fun t kt => pre0 t (by
      show Steps p.tables e below (s₁.setTop (mkF m 0 #[.val (.ref a0), .val (.int (2 : Int32))] [])) _
      refine XS.iloadN X0.here hx rfl (hb hby d16_0) rfl ?_
      show Steps p.tables e below (s₁.setTop (mkF m 1 #[.val (.ref a0), .val (.int (2 : Int32))] [(.int (2 : Int32))])) _
      refine XS.aloadN X0.here hx rfl (hb hby d16_1) rfl rfl ?_
      show Steps p.tables e below (s₁.setTop (mkF m 2 #[.val (.ref a0), .val (.int (2 : Int32))] [(.ref a0), (.int (2 : Int32))])) _
      refine X0.arraylength hx (by rw [e0]; exact Ao1.1) (State.isArrayOf_alike hZ.alike Ao1.2.1) (g := (mkF m 2 #[.val (.ref a0), .val (.int (2 : Int32))] [(.ref a0), (.int (2 : Int32))])) rfl rfl (hb hby d16_2) _ ?_
      rw [len_of So1 No1]
      show Steps p.tables e below (s₁.setTop (mkF m 3 #[.val (.ref a0), .val (.int (2 : Int32))] [(.int (2 : Int32)), (.int (2 : Int32))])) _
      refine XS.isub X0.here hx rfl (hb hby d16_3) rfl ?_
      show Steps p.tables e below (s₁.setTop (mkF m 4 #[.val (.ref a0), .val (.int (2 : Int32))] [(.int ((2 : Int32) - (2 : Int32)))])) _
      refine XS.bipush X0.here hx rfl (hb hby d16_4) ?_
      show Steps p.tables e below (s₁.setTop (mkF m 6 #[.val (.ref a0), .val (.int (2 : Int32))] [(.int (31 : Int32)), (.int ((2 : Int32) - (2 : Int32)))])) _
      refine XS.iushr X0.here hx rfl (hb hby d16_6) rfl ?_
      show Steps p.tables e below (s₁.setTop (mkF m 7 #[.val (.ref a0), .val (.int (2 : Int32))] [(.int ((((2 : Int32) - (2 : Int32)).toUInt32 >>> ((31 : Int32) &&& 31).toUInt32).toInt32))])) _
      refine XS.i2b X0.here hx rfl (hb hby d16_7) rfl ?_
      exact kt)
  obtain ⟨fs, hr, hrun, hended, hW, hsame⟩ := X0.leave (v := some (.int (((((2 : Int32) - (2 : Int32)).toUInt32 >>> ((31 : Int32) &&& 31).toUInt32).toInt32).toInt8.toInt32))) (fun h => by rw [Bd.returns] at h; cases h)
  refine ⟨_, _, pre2 _ ?_, hrun, hended, _, _, rfl, ?_, ⟨_, rfl⟩, hW, hsame.mono (by decide) (by decide)⟩
  · show Steps p.tables e below (s₁.setTop (mkF m 8 #[.val (.ref a0), .val (.int (2 : Int32))] [(.int (((((2 : Int32) - (2 : Int32)).toUInt32 >>> ((31 : Int32) &&& 31).toUInt32).toInt32).toInt8.toInt32))])) _
    exact retN X0 hx (t := .byte) Bd.returns (by simp) (hb hby d16_8) hr
  · show Q16 Z _ _ _ h0 n0 _ s₁.heap _
    rw [e0]
    exact ⟨rfl, N0, rfl⟩
theorem pd_4 : parseMethodDescriptor "([CII)[B" = some ⟨[(.array .char), .int, .int], some (.array .byte)⟩ := by decide +kernel
theorem pd_5 : parseMethodDescriptor "([BI)B" = some ⟨[(.array .byte), .int], some .byte⟩ := by decide +kernel
theorem d3_0 : decode jdk_42_method_149_code 0 = .ok (.aload_n 0, 1) := by decide +kernel
theorem d3_1 : decode jdk_42_method_149_code 1 = .ok (.invokespecial 1, 3) := by decide +kernel
theorem d3_4 : decode jdk_42_method_149_code 4 = .ok (.iload_n 3, 1) := by decide +kernel
theorem d3_5 : decode jdk_42_method_149_code 5 = .ok (.ifCond .ne 22, 3) := by decide +kernel
theorem d3_27 : decode jdk_42_method_149_code 27 = .ok (.getstatic 38, 3) := by decide +kernel
theorem d3_30 : decode jdk_42_method_149_code 30 = .ok (.ifCond .eq 28, 3) := by decide +kernel
theorem d3_33 : decode jdk_42_method_149_code 33 = .ok (.aload_n 1, 1) := by decide +kernel
theorem d3_34 : decode jdk_42_method_149_code 34 = .ok (.iload_n 2, 1) := by decide +kernel
theorem d3_35 : decode jdk_42_method_149_code 35 = .ok (.iload_n 3, 1) := by decide +kernel
theorem d3_36 : decode jdk_42_method_149_code 36 = .ok (.invokestatic 177, 3) := by decide +kernel
theorem d3_39 : decode jdk_42_method_149_code 39 = .ok (.astore 5, 2) := by decide +kernel
theorem d3_41 : decode jdk_42_method_149_code 41 = .ok (.aload_n 0, 1) := by decide +kernel
theorem d3_42 : decode jdk_42_method_149_code 42 = .ok (.aload 5, 2) := by decide +kernel
theorem d3_44 : decode jdk_42_method_149_code 44 = .ok (.iload_n 3, 1) := by decide +kernel
theorem d3_45 : decode jdk_42_method_149_code 45 = .ok (.invokestatic 47, 3) := by decide +kernel
theorem d3_48 : decode jdk_42_method_149_code 48 = .ok (.putfield 15, 3) := by decide +kernel
theorem d3_51 : decode jdk_42_method_149_code 51 = .ok (.aload_n 0, 1) := by decide +kernel
theorem d3_52 : decode jdk_42_method_149_code 52 = .ok (.aload 5, 2) := by decide +kernel
theorem d3_54 : decode jdk_42_method_149_code 54 = .ok (.putfield 9, 3) := by decide +kernel
theorem d3_57 : decode jdk_42_method_149_code 57 = .ok (.return_, 1) := by decide +kernel
theorem ef_I4 (m : MethodId) (x0 : Addr) (x1 : Addr) (x2 : Int32) (x3 : Int32)  : entryFrame m #[(.ref x0), (.ref x1), (.int x2), (.int x3), .null] 6 = mkF m 0 #[.val (.ref x0), .val (.ref x1), .val (.int x2), .val (.int x3), .val .null, .unset] [] := by first | (simp [entryFrame, mkF, argsToLocals, Value.category]; done) | rfl
def QI4 (Z : State) (a0 : Addr) (a1 : Addr) (c0 : Int32) (c1 : Int32) (kc : ClassId) (w_COMPACT_STRINGS_3 : Int32) (u_coder_4 : Value) (u_value_5 : Value) (h0 : Heap) (n0 : Nat) (v : Option Value) (h : Heap) (L : List Loc) : Prop := v = none ∧ Fr n0 L ∧ (Keep h0 h [a0]) ∧ ∃ (vb : Addr) (kb : ClassId), (Exa Z h a0 "java/lang/String") ∧ (Fld Z h a0 "java/lang/String" "coder" "B" (.int (0 : Int32))) ∧ (Fld Z h a0 "java/lang/String" "value" "[B" (.ref vb)) ∧ (Arv Z h vb kb .byte (2 : Int32) [(.int ((c0.toInt8.toInt32)).toInt8.toInt32), (.int ((c1.toInt8.toInt32)).toInt8.toInt32)] (.int (0 : Int32)))
set_option maxRecDepth 65536 in
set_option maxHeartbeats 40000000 in
theorem rmI4 (l : Launch) (Z : State) (aw : Array Value) (hw : ∀ d ∈ tables_1, d.before aw Z = true) (ws : List Jvm.Cond) (a0 : Addr) (a1 : Addr) (c0 : Int32) (c1 : Int32) (kc : ClassId) (w_COMPACT_STRINGS_3 : Int32) (u_coder_4 : Value) (u_value_5 : Value) (h0 : Heap) (n0 : Nat) (Z0 : n0 ≤ h0.size) (h0c : ¬ (255 : Int32) < c0) (h1c : ¬ (255 : Int32) < c1) (Arv_2 : Arv Z h0 a1 kc .char (2 : Int32) [(.int c0), (.int c1)] (.int (0 : Int32))) (Sf_COMPACT_STRINGS_3 : Sta Z h0 "java/lang/String" "COMPACT_STRINGS" "Z" (.int w_COMPACT_STRINGS_3)) (hp3 : ¬ w_COMPACT_STRINGS_3 = (0 : Int32)) (Exa_5 : Exa Z h0 a0 "java/lang/String") (Fo_coder_6 : Fld Z h0 a0 "java/lang/String" "coder" "B" u_coder_4) (g_a0 : n0 ≤ a0) (Fo_value_8 : Fld Z h0 a0 "java/lang/String" "value" "[B" u_value_5) :
    MetFree l (⟨"java/lang/String", "<init>", "([CIILjava/lang/Void;)V"⟩ : MethodName) (head1 (Jvm.Cond.code (⟨"java/lang/String", "<init>", "([CIILjava/lang/Void;)V"⟩ : MethodName) jdk_42_method_149_code 6 none :: ws) ({ frames := 2, cells := 1, slots := 2, locals := 35 } : Room)) (fun a U => a = #[(.ref a0), (.ref a1), (.int (0 : Int32)), (.int (2 : Int32)), .null] ∧ Z.Warmed39 U.vm ∧ U.heap = h0) (fun _ _ _ _ _ => True) (fun _ U o U' => ∃ v L, o = .returned v ∧ QI4 Z a0 a1 c0 c1 kc w_COMPACT_STRINGS_3 u_coder_4 u_value_5 h0 n0 v U'.heap L ∧ FrameEnd U o U' L ({ frames := 2, cells := 1, slots := 2, locals := 35 } : Room).cells ({ frames := 2, cells := 1, slots := 2, locals := 35 } : Room).slots) := by
  refine MetFree.of_bodySF (plainFor_of_name pn_1) hisR ?_
  intro p e s m args below meth c s₁ Bd hml0 hP hK
  obtain ⟨rfl, hZ, hh⟩ := hP
  have hx := Bd.exec
  have hby := Bd.bytes
  have hml : c.maxLocals = 6 := hml0
  have hown : s.vm.findClass "java/lang/String" = some m.cls := findClass_of_methodNamed Bd.named
  have hnm := (name_of_methodNamed Bd.named Bd.method).1
  have X0 : Stand p l e ({ frames := 2, cells := 1, slots := 2, locals := 35 } : Room) s m #[(.ref a0), (.ref a1), (.int (0 : Int32)), (.int (2 : Int32)), .null] below meth c s₁ [] 0 0 := Stand.of_body Bd
  have e0 : s₁.heap = h0 := by rw [← hh, Bd.state]; rfl
  have N0 := Fr.nil n0
  have pre0 : ∀ t, Steps p.tables e below (s₁.setTop (mkF m 0 #[.val (.ref a0), .val (.ref a1), .val (.int (0 : Int32)), .val (.int (2 : Int32)), .val .null, .unset] [])) t → Steps p.tables e below (s₁.setTop (entryFrame m #[(.ref a0), (.ref a1), (.int (0 : Int32)), (.int (2 : Int32)), .null] 6)) t := fun t k => castTop (ef_I4 m a0 a1 (0 : Int32) (2 : Int32) ) k
  obtain ⟨T1, X1, e1, st1⟩ := initO X0 hx hZ hown (hw _ (List.mem_of_getElem? (i := 15) rfl)) (hw _ (List.mem_of_getElem? (i := 16) rfl)) (hw _ (List.mem_of_getElem? (i := 17) rfl)) e0 (g := (mkF m 1 #[.val (.ref a0), .val (.ref a1), .val (.int (0 : Int32)), .val (.int (2 : Int32)), .val .null, .unset] [(.ref a0)])) rfl (by rw [hml]; rfl) rfl (hb hby d3_1) (by decide) (W := 0) (by show 2 * 0 + _ ≤ _; exact Nat.le_of_eq rfl) (by decide)
  obtain ⟨T2, X2, e2, st2⟩ := getS2 X1 hx hZ hown (host := "") (Or.inl (hw _ (List.mem_of_getElem? (i := 56) rfl))) Via.refl e1 Sf_COMPACT_STRINGS_3 (g := (mkF m 27 #[.val (.ref a0), .val (.ref a1), .val (.int (0 : Int32)), .val (.int (2 : Int32)), .val .null, .unset] [])) rfl (hb hby d3_27)
  obtain ⟨_, _, ⟨T4, L4, k4, n4⟩, -, X4, ⟨Lc4, hQ4, l4, y4, z4⟩, st4⟩ := Jvm.LawKit.callS X2 hx (y := (⟨"java/lang/StringUTF16", "compress", "([CII)[B"⟩ : MethodName)) hown (mvT hZ (hw _ (List.mem_of_getElem? (i := 75) rfl))) (mvT hZ (hw _ (List.mem_of_getElem? (i := 76) rfl))) (mvT hZ (hw _ (List.mem_of_getElem? (i := 77) rfl))) (mvT hZ (hw _ (List.mem_of_getElem? (i := 78) rfl))) (by decide) (backOf (W := 0) (rm14 l Z aw hw [] a1 c0 c1 kc h0 n0 Z0 h0c h1c Arv_2) hZ (hw _ (List.mem_of_getElem? (i := 78) rfl)) (hw _ (List.mem_of_getElem? (i := 77) rfl)) (by decide) (by decide)) (g := (mkF m 36 #[.val (.ref a0), .val (.ref a1), .val (.int (0 : Int32)), .val (.int (2 : Int32)), .val .null, .unset] [(.int (2 : Int32)), (.int (0 : Int32)), (.ref a1)])) rfl (by rw [hml]; rfl) (argsL := [(.ref a1), (.int (0 : Int32)), (.int (2 : Int32))]) (rest := []) (lenOf pd_4 rfl) rfl (by show 2 * 0 + _ ≤ _; exact Nat.le_of_eq rfl) (hb hby d3_36) (fun _ _ => ⟨rfl, e2, (by decide : 0 + 1 ≤ _), (by decide : 0 + 2 ≤ _)⟩)
  dsimp only [Pt.U, Pt.locs, Pt.cells, Pt.slots] at X4 l4 y4 z4 st4 hQ4
  subst l4 y4 z4
  obtain ⟨⟨r5, kb6, rfl, m4_0, m4_1⟩, Nq4, c4_0⟩ := hQ4
  have N4 := Fr.app N0 Nq4
  have f7 := (Arv_2.keep c4_0 nin0)
  have f8 := (own_sta_keep Sf_COMPACT_STRINGS_3 c4_0 all0)
  have K9 : Keep h0 T4.heap [a0] := Keep.trans (Keep.refl h0 [a0]) c4_0 all0
  obtain ⟨_, _, ⟨T10, L10, k10, n10⟩, -, X10, ⟨Lc10, hQ10, l10, y10, z10⟩, st10⟩ := Jvm.LawKit.callS X4 hx (y := (⟨"java/lang/StringUTF16", "coderFromArrayLen", "([BI)B"⟩ : MethodName)) hown (mvT hZ (hw _ (List.mem_of_getElem? (i := 82) rfl))) (mvT hZ (hw _ (List.mem_of_getElem? (i := 83) rfl))) (mvT hZ (hw _ (List.mem_of_getElem? (i := 77) rfl))) (mvT hZ (hw _ (List.mem_of_getElem? (i := 84) rfl))) (by decide) (backOf (W := 1) (rm16 l Z aw hw [] r5 kb6 [(.int ((c0.toInt8.toInt32)).toInt8.toInt32), (.int ((c1.toInt8.toInt32)).toInt8.toInt32)] T4.heap n0 (Nat.le_trans Z0 c4_0.1) m4_1) hZ (hw _ (List.mem_of_getElem? (i := 84) rfl)) (hw _ (List.mem_of_getElem? (i := 77) rfl)) (by decide) (by decide)) (g := (mkF m 45 #[.val (.ref a0), .val (.ref a1), .val (.int (0 : Int32)), .val (.int (2 : Int32)), .val .null, .val (.ref r5)] [(.int (2 : Int32)), (.ref r5), (.ref a0)])) rfl (by rw [hml]; rfl) (argsL := [(.ref r5), (.int (2 : Int32))]) (rest := [(.ref a0)]) (lenOf pd_5 rfl) rfl (by show 2 * 0 + _ ≤ _; exact Nat.le_of_eq rfl) (hb hby d3_45) (fun _ _ => ⟨rfl, rfl, (by decide : 1 + 0 ≤ _), (by decide : 2 + 0 ≤ _)⟩)
  dsimp only [Pt.U, Pt.locs, Pt.cells, Pt.slots] at X10 l10 y10 z10 st10 hQ10
  subst l10 y10 z10
  obtain ⟨rfl, Nq10, e10⟩ := hQ10
  have N10 := Fr.app N4 Nq10
  obtain ⟨T11, h11, X11, e11, W11, st11⟩ := putFN X10 hx hZ hown (hw _ (List.mem_of_getElem? (i := 25) rfl)) Via.refl e10 (Fo_coder_6.keep c4_0 nin0) (Exa_5.keep c4_0) (Or.inr ⟨(hw _ (List.mem_of_getElem? (i := 21) rfl)), rfl, hnm⟩) (hw _ (List.mem_of_getElem? (i := 5) rfl)) (ty := .byte) (v' := (.int (0 : Int32))) (by decide) rfl (by decide) (g := (mkF m 48 #[.val (.ref a0), .val (.ref a1), .val (.int (0 : Int32)), .val (.int (2 : Int32)), .val .null, .val (.ref r5)] [(.int (0 : Int32)), (.ref a0)])) rfl rfl (hb hby d3_48)
  have Fw11 := (Fo_coder_6.keep c4_0 nin0).same W11
  have f12 := (f7.other W11 (Ne.symm (Exa.neArv (Exa_5.keep c4_0) f7 (hw _ (List.mem_of_getElem? (i := 5) rfl)))))
  have f13 := (f8.wr W11)
  have f14 := (m4_1.other W11 (Ne.symm (Exa.neArv (Exa_5.keep c4_0) m4_1 (hw _ (List.mem_of_getElem? (i := 5) rfl)))))
  have f15 := ((Exa_5.keep c4_0).wr W11)
  have N11 := Fr.snoc X11 N10 g_a0
  have K11 : Keep h0 h11 [a0] := Keep.wr K9 W11 (Or.inl (List.mem_of_getElem? (i := 0) rfl))
  obtain ⟨T16, h16, X16, e16, W16, st16⟩ := putF X11 hx hZ hown (host := "") (Or.inl (hw _ (List.mem_of_getElem? (i := 24) rfl))) Via.refl e11 ((Fo_value_8.keep c4_0 nin0).other W11 (Or.inr (slot_ne (Or.inr (hw _ (List.mem_of_getElem? (i := 20) rfl))) (Or.inr (hw _ (List.mem_of_getElem? (i := 21) rfl))) (by decide) (t := (.array .byte)) (t' := .byte) (by decide) (by decide)))) f15 (Or.inr ⟨(hw _ (List.mem_of_getElem? (i := 20) rfl)), rfl, hnm⟩) (hw _ (List.mem_of_getElem? (i := 5) rfl)) (ty := (.array .byte)) (by decide) rfl rfl (g := (mkF m 54 #[.val (.ref a0), .val (.ref a1), .val (.int (0 : Int32)), .val (.int (2 : Int32)), .val .null, .val (.ref r5)] [(.ref r5), (.ref a0)])) rfl rfl (hb hby d3_54)
  have Fw16 := ((Fo_value_8.keep c4_0 nin0).other W11 (Or.inr (slot_ne (Or.inr (hw _ (List.mem_of_getElem? (i := 20) rfl))) (Or.inr (hw _ (List.mem_of_getElem? (i := 21) rfl))) (by decide) (t := (.array .byte)) (t' := .byte) (by decide) (by decide)))).same W16
  have f17 := (f12.other W16 (Ne.symm (Exa.neArv f15 f12 (hw _ (List.mem_of_getElem? (i := 5) rfl)))))
  have f18 := (f13.wr W16)
  have f19 := (f14.other W16 (Ne.symm (Exa.neArv f15 f14 (hw _ (List.mem_of_getElem? (i := 5) rfl)))))
  have f20 := (f15.wr W16)
  have f21 := (Fw11.other W16 (Or.inr (slot_ne (Or.inr (hw _ (List.mem_of_getElem? (i := 21) rfl))) (Or.inr (hw _ (List.mem_of_getElem? (i := 20) rfl))) (by decide) (t := .byte) (t' := (.array .byte)) (by decide) (by decide))))
  have N16 := Fr.snoc X16 N11 g_a0
  have K16 : Keep h0 h16 [a0] := Keep.wr K11 W16 (Or.inl (List.mem_of_getElem? (i := 0) rfl))
  have pre22 : ∀ t, Steps p.tables e below (T16.setTop (mkF m 57 #[.val (.ref a0), .val (.ref a1), .val (.int (0 : Int32)), .val (.int (2 : Int32)), .val .null, .val (.ref r5)] [])) t → Steps p.tables e below (s₁.setTop (entryFrame m #[(.ref a0), (.ref a1), (.int (0 : Int32)), (.int (2 : Int32)), .null] 6)) t := fun t kt => pre0 t (by
      show Steps p.tables e below (s₁.setTop (mkF m 0 #[.val (.ref a0), .val (.ref a1), .val (.int (0 : Int32)), .val (.int (2 : Int32)), .val .null, .unset] [])) _
      refine XS.aloadN X0.here hx rfl (hb hby d3_0) rfl rfl ?_
      show Steps p.tables e below (s₁.setTop (mkF m 1 #[.val (.ref a0), .val (.ref a1), .val (.int (0 : Int32)), .val (.int (2 : Int32)), .val .null, .unset] [(.ref a0)])) _
      refine st1 _ ?_
      show Steps p.tables e below (T1.setTop (mkF m 4 #[.val (.ref a0), .val (.ref a1), .val (.int (0 : Int32)), .val (.int (2 : Int32)), .val .null, .unset] [])) _
      refine XS.iloadN X1.here hx rfl (hb hby d3_4) rfl ?_
      show Steps p.tables e below (T1.setTop (mkF m 5 #[.val (.ref a0), .val (.ref a1), .val (.int (0 : Int32)), .val (.int (2 : Int32)), .val .null, .unset] [(.int (2 : Int32))])) _
      refine XS.ifYes X1.here hx rfl (pc0 := 5) (pc' := 27) rfl (hb hby d3_5) rfl ((if0 _ _).trans (feq (by decide : ¬ ((2 : Int32) = (0 : Int32)))).2) (by decide) (by decide) ?_
      show Steps p.tables e below (T1.setTop (mkF m 27 #[.val (.ref a0), .val (.ref a1), .val (.int (0 : Int32)), .val (.int (2 : Int32)), .val .null, .unset] [])) _
      refine st2 _ ?_
      show Steps p.tables e below (T2.setTop (mkF m 30 #[.val (.ref a0), .val (.ref a1), .val (.int (0 : Int32)), .val (.int (2 : Int32)), .val .null, .unset] [(.int w_COMPACT_STRINGS_3)])) _
      refine XS.ifNo X2.here hx rfl (hb hby d3_30) rfl ((if0 _ _).trans (feq hp3).1) ?_
      show Steps p.tables e below (T2.setTop (mkF m 33 #[.val (.ref a0), .val (.ref a1), .val (.int (0 : Int32)), .val (.int (2 : Int32)), .val .null, .unset] [])) _
      refine XS.aloadN X2.here hx rfl (hb hby d3_33) rfl rfl ?_
      show Steps p.tables e below (T2.setTop (mkF m 34 #[.val (.ref a0), .val (.ref a1), .val (.int (0 : Int32)), .val (.int (2 : Int32)), .val .null, .unset] [(.ref a1)])) _
      refine XS.iloadN X2.here hx rfl (hb hby d3_34) rfl ?_
      show Steps p.tables e below (T2.setTop (mkF m 35 #[.val (.ref a0), .val (.ref a1), .val (.int (0 : Int32)), .val (.int (2 : Int32)), .val .null, .unset] [(.int (0 : Int32)), (.ref a1)])) _
      refine XS.iloadN X2.here hx rfl (hb hby d3_35) rfl ?_
      show Steps p.tables e below (T2.setTop (mkF m 36 #[.val (.ref a0), .val (.ref a1), .val (.int (0 : Int32)), .val (.int (2 : Int32)), .val .null, .unset] [(.int (2 : Int32)), (.int (0 : Int32)), (.ref a1)])) _
      refine st4 _ ?_
      show Steps p.tables e below (T4.setTop (mkF m 39 #[.val (.ref a0), .val (.ref a1), .val (.int (0 : Int32)), .val (.int (2 : Int32)), .val .null, .unset] [(.ref r5)])) _
      refine XS.astore X4.here hx rfl (hb hby d3_39) rfl rfl (l' := #[.val (.ref a0), .val (.ref a1), .val (.int (0 : Int32)), .val (.int (2 : Int32)), .val .null, .val (.ref r5)]) rfl ?_
      show Steps p.tables e below (T4.setTop (mkF m 41 #[.val (.ref a0), .val (.ref a1), .val (.int (0 : Int32)), .val (.int (2 : Int32)), .val .null, .val (.ref r5)] [])) _
      refine XS.aloadN X4.here hx rfl (hb hby d3_41) rfl rfl ?_
      show Steps p.tables e below (T4.setTop (mkF m 42 #[.val (.ref a0), .val (.ref a1), .val (.int (0 : Int32)), .val (.int (2 : Int32)), .val .null, .val (.ref r5)] [(.ref a0)])) _
      refine XS.aload X4.here hx rfl (hb hby d3_42) rfl rfl ?_
      show Steps p.tables e below (T4.setTop (mkF m 44 #[.val (.ref a0), .val (.ref a1), .val (.int (0 : Int32)), .val (.int (2 : Int32)), .val .null, .val (.ref r5)] [(.ref r5), (.ref a0)])) _
      refine XS.iloadN X4.here hx rfl (hb hby d3_44) rfl ?_
      show Steps p.tables e below (T4.setTop (mkF m 45 #[.val (.ref a0), .val (.ref a1), .val (.int (0 : Int32)), .val (.int (2 : Int32)), .val .null, .val (.ref r5)] [(.int (2 : Int32)), (.ref r5), (.ref a0)])) _
      refine st10 _ ?_
      show Steps p.tables e below (T10.setTop (mkF m 48 #[.val (.ref a0), .val (.ref a1), .val (.int (0 : Int32)), .val (.int (2 : Int32)), .val .null, .val (.ref r5)] [(.int (0 : Int32)), (.ref a0)])) _
      refine st11 _ ?_
      show Steps p.tables e below (T11.setTop (mkF m 51 #[.val (.ref a0), .val (.ref a1), .val (.int (0 : Int32)), .val (.int (2 : Int32)), .val .null, .val (.ref r5)] [])) _
      refine XS.aloadN X11.here hx rfl (hb hby d3_51) rfl rfl ?_
      show Steps p.tables e below (T11.setTop (mkF m 52 #[.val (.ref a0), .val (.ref a1), .val (.int (0 : Int32)), .val (.int (2 : Int32)), .val .null, .val (.ref r5)] [(.ref a0)])) _
      refine XS.aload X11.here hx rfl (hb hby d3_52) rfl rfl ?_
      show Steps p.tables e below (T11.setTop (mkF m 54 #[.val (.ref a0), .val (.ref a1), .val (.int (0 : Int32)), .val (.int (2 : Int32)), .val .null, .val (.ref r5)] [(.ref r5), (.ref a0)])) _
      refine st16 _ ?_
      exact kt)
  obtain ⟨fs, hr, hrun, hended, hW, hsame⟩ := X16.leave (v := none) (fun _ => rfl)
  refine ⟨_, _, pre22 _ ?_, hrun, hended, _, _, rfl, ?_, ⟨_, rfl⟩, hW, hsame.mono (by decide) (by decide)⟩
  · show Steps p.tables e below (T16.setTop (mkF m 57 #[.val (.ref a0), .val (.ref a1), .val (.int (0 : Int32)), .val (.int (2 : Int32)), .val .null, .val (.ref r5)] [])) _
    exact X16.returnOut hx Bd.returns (hb hby d3_57) hr
  · show QI4 Z _ _ _ _ _ _ _ _ h0 n0 _ T16.heap _
    rw [e16]
    exact ⟨rfl, N16, K16, _, _, f20, f21, Fw16, f19⟩
theorem pd_6 : parseMethodDescriptor "([CIILjava/lang/Void;)V" = some ⟨[(.array .char), .int, .int, (.object "java/lang/Void")], none⟩ := by decide +kernel
theorem d2_0 : decode jdk_42_method_3_code 0 = .ok (.aload_n 0, 1) := by decide +kernel
theorem d2_1 : decode jdk_42_method_3_code 1 = .ok (.aload_n 1, 1) := by decide +kernel
theorem d2_2 : decode jdk_42_method_3_code 2 = .ok (.iconst 0, 1) := by decide +kernel
theorem d2_3 : decode jdk_42_method_3_code 3 = .ok (.aload_n 1, 1) := by decide +kernel
theorem d2_4 : decode jdk_42_method_3_code 4 = .ok (.arraylength, 1) := by decide +kernel
theorem d2_5 : decode jdk_42_method_3_code 5 = .ok (.aconst_null, 1) := by decide +kernel
theorem d2_6 : decode jdk_42_method_3_code 6 = .ok (.invokespecial 27, 3) := by decide +kernel
theorem d2_9 : decode jdk_42_method_3_code 9 = .ok (.return_, 1) := by decide +kernel
theorem ef_I1 (m : MethodId) (x0 : Addr) (x1 : Addr)  : entryFrame m #[(.ref x0), (.ref x1)] 2 = mkF m 0 #[.val (.ref x0), .val (.ref x1)] [] := by first | (simp [entryFrame, mkF, argsToLocals, Value.category]; done) | rfl
def QI1 (Z : State) (a0 : Addr) (a1 : Addr) (c0 : Int32) (c1 : Int32) (kc : ClassId) (w_COMPACT_STRINGS_3 : Int32) (u_coder_4 : Value) (u_value_5 : Value) (h0 : Heap) (n0 : Nat) (v : Option Value) (h : Heap) (L : List Loc) : Prop := v = none ∧ Fr n0 L ∧ (Keep h0 h [a0]) ∧ ∃ (vb : Addr) (kb : ClassId), (Exa Z h a0 "java/lang/String") ∧ (Fld Z h a0 "java/lang/String" "coder" "B" (.int (0 : Int32))) ∧ (Fld Z h a0 "java/lang/String" "value" "[B" (.ref vb)) ∧ (Arv Z h vb kb .byte (2 : Int32) [(.int ((c0.toInt8.toInt32)).toInt8.toInt32), (.int ((c1.toInt8.toInt32)).toInt8.toInt32)] (.int (0 : Int32)))
set_option maxRecDepth 65536 in
set_option maxHeartbeats 40000000 in
theorem rmI1 (l : Launch) (Z : State) (aw : Array Value) (hw : ∀ d ∈ tables_1, d.before aw Z = true) (ws : List Jvm.Cond) (a0 : Addr) (a1 : Addr) (c0 : Int32) (c1 : Int32) (kc : ClassId) (w_COMPACT_STRINGS_3 : Int32) (u_coder_4 : Value) (u_value_5 : Value) (h0 : Heap) (n0 : Nat) (Z0 : n0 ≤ h0.size) (h0c : ¬ (255 : Int32) < c0) (h1c : ¬ (255 : Int32) < c1) (Arv_2 : Arv Z h0 a1 kc .char (2 : Int32) [(.int c0), (.int c1)] (.int (0 : Int32))) (Sf_COMPACT_STRINGS_3 : Sta Z h0 "java/lang/String" "COMPACT_STRINGS" "Z" (.int w_COMPACT_STRINGS_3)) (hp3 : ¬ w_COMPACT_STRINGS_3 = (0 : Int32)) (Exa_5 : Exa Z h0 a0 "java/lang/String") (Fo_coder_6 : Fld Z h0 a0 "java/lang/String" "coder" "B" u_coder_4) (g_a0 : n0 ≤ a0) (Fo_value_8 : Fld Z h0 a0 "java/lang/String" "value" "[B" u_value_5) :
    MetFree l (⟨"java/lang/String", "<init>", "([C)V"⟩ : MethodName) (head1 (Jvm.Cond.code (⟨"java/lang/String", "<init>", "([C)V"⟩ : MethodName) jdk_42_method_3_code 2 none :: ws) ({ frames := 3, cells := 1, slots := 2, locals := 52 } : Room)) (fun a U => a = #[(.ref a0), (.ref a1)] ∧ Z.Warmed39 U.vm ∧ U.heap = h0) (fun _ _ _ _ _ => True) (fun _ U o U' => ∃ v L, o = .returned v ∧ QI1 Z a0 a1 c0 c1 kc w_COMPACT_STRINGS_3 u_coder_4 u_value_5 h0 n0 v U'.heap L ∧ FrameEnd U o U' L ({ frames := 3, cells := 1, slots := 2, locals := 52 } : Room).cells ({ frames := 3, cells := 1, slots := 2, locals := 52 } : Room).slots) := by
  refine MetFree.of_bodySF (plainFor_of_name pn_1) hisR ?_
  intro p e s m args below meth c s₁ Bd hml0 hP hK
  obtain ⟨rfl, hZ, hh⟩ := hP
  have hx := Bd.exec
  have hby := Bd.bytes
  have hml : c.maxLocals = 2 := hml0
  have hown : s.vm.findClass "java/lang/String" = some m.cls := findClass_of_methodNamed Bd.named
  have hnm := (name_of_methodNamed Bd.named Bd.method).1
  have X0 : Stand p l e ({ frames := 3, cells := 1, slots := 2, locals := 52 } : Room) s m #[(.ref a0), (.ref a1)] below meth c s₁ [] 0 0 := Stand.of_body Bd
  have e0 : s₁.heap = h0 := by rw [← hh, Bd.state]; rfl
  have N0 := Fr.nil n0
  have pre0 : ∀ t, Steps p.tables e below (s₁.setTop (mkF m 0 #[.val (.ref a0), .val (.ref a1)] [])) t → Steps p.tables e below (s₁.setTop (entryFrame m #[(.ref a0), (.ref a1)] 2)) t := fun t k => castTop (ef_I1 m a0 a1 ) k
  obtain ⟨co1, Ao1, qo1, So1, No1, Ho1, Go1⟩ := id Arv_2
  obtain ⟨_, _, ⟨T2, L2, k2, n2⟩, -, X2, ⟨Lc2, hQ2, l2, y2, z2⟩, st2⟩ := X0.specialBack hx (y := (⟨"java/lang/String", "<init>", "([CIILjava/lang/Void;)V"⟩ : MethodName)) rfl hown (mvT hZ (hw _ (List.mem_of_getElem? (i := 11) rfl))) (mvT hZ (hw _ (List.mem_of_getElem? (i := 12) rfl))) (mvT hZ (hw _ (List.mem_of_getElem? (i := 14) rfl))) (by decide) (backOf (W := 0) (rmI4 l Z aw hw [] a0 a1 c0 c1 kc w_COMPACT_STRINGS_3 u_coder_4 u_value_5 h0 n0 Z0 h0c h1c Arv_2 Sf_COMPACT_STRINGS_3 hp3 Exa_5 Fo_coder_6 g_a0 Fo_value_8) hZ (hw _ (List.mem_of_getElem? (i := 14) rfl)) (hw _ (List.mem_of_getElem? (i := 6) rfl)) (by decide) (by decide)) (g := (mkF m 6 #[.val (.ref a0), .val (.ref a1)] [.null, (.int (2 : Int32)), (.int (0 : Int32)), (.ref a1), (.ref a0)])) rfl (by rw [hml]; rfl) (Steps.refl _) (a := a0) (argsL := [(.ref a1), (.int (0 : Int32)), (.int (2 : Int32)), .null]) (rest := []) (lenOf pd_6 rfl) rfl (by show 2 * 0 + _ ≤ _; exact Nat.le_of_eq rfl) (hb hby d2_6) (fun _ _ => ⟨rfl, e0, (by decide : 0 + 1 ≤ _), (by decide : 0 + 2 ≤ _)⟩)
  dsimp only [Pt.U, Pt.locs, Pt.cells, Pt.slots] at X2 l2 y2 z2 st2 hQ2
  subst l2 y2 z2
  obtain ⟨rfl, Nq2, c2_0, vb4, kb5, c2_1, c2_2, c2_3, c2_4⟩ := hQ2
  have N2 := Fr.app N0 Nq2
  have f6 := (Arv_2.keep c2_0 (ninS (Ne.symm (Exa.neArv Exa_5 Arv_2 (hw _ (List.mem_of_getElem? (i := 5) rfl)))) nin0))
  have f7 := (own_sta_keep Sf_COMPACT_STRINGS_3 c2_0 (allS (own_exa_ns Exa_5) all0))
  have f8 := (Exa_5.keep c2_0)
  have K9 : Keep h0 T2.heap [a0] := Keep.trans (Keep.refl h0 [a0]) c2_0 (allS (Or.inl (List.mem_of_getElem? (i := 0) rfl)) all0)
  have pre10 : ∀ t, Steps p.tables e below (T2.setTop (mkF m 9 #[.val (.ref a0), .val (.ref a1)] [])) t → Steps p.tables e below (s₁.setTop (entryFrame m #[(.ref a0), (.ref a1)] 2)) t := fun t kt => pre0 t (by
      show Steps p.tables e below (s₁.setTop (mkF m 0 #[.val (.ref a0), .val (.ref a1)] [])) _
      refine XS.aloadN X0.here hx rfl (hb hby d2_0) rfl rfl ?_
      show Steps p.tables e below (s₁.setTop (mkF m 1 #[.val (.ref a0), .val (.ref a1)] [(.ref a0)])) _
      refine XS.aloadN X0.here hx rfl (hb hby d2_1) rfl rfl ?_
      show Steps p.tables e below (s₁.setTop (mkF m 2 #[.val (.ref a0), .val (.ref a1)] [(.ref a1), (.ref a0)])) _
      refine XS.iconst X0.here hx rfl (hb hby d2_2) ?_
      show Steps p.tables e below (s₁.setTop (mkF m 3 #[.val (.ref a0), .val (.ref a1)] [(.int (0 : Int32)), (.ref a1), (.ref a0)])) _
      refine XS.aloadN X0.here hx rfl (hb hby d2_3) rfl rfl ?_
      show Steps p.tables e below (s₁.setTop (mkF m 4 #[.val (.ref a0), .val (.ref a1)] [(.ref a1), (.int (0 : Int32)), (.ref a1), (.ref a0)])) _
      refine X0.arraylength hx (by rw [e0]; exact Ao1.1) (State.isArrayOf_alike hZ.alike Ao1.2.1) (g := (mkF m 4 #[.val (.ref a0), .val (.ref a1)] [(.ref a1), (.int (0 : Int32)), (.ref a1), (.ref a0)])) rfl rfl (hb hby d2_4) _ ?_
      rw [len_of So1 No1]
      show Steps p.tables e below (s₁.setTop (mkF m 5 #[.val (.ref a0), .val (.ref a1)] [(.int (2 : Int32)), (.int (0 : Int32)), (.ref a1), (.ref a0)])) _
      refine XS.aconstNull X0.here hx rfl (hb hby d2_5) ?_
      show Steps p.tables e below (s₁.setTop (mkF m 6 #[.val (.ref a0), .val (.ref a1)] [.null, (.int (2 : Int32)), (.int (0 : Int32)), (.ref a1), (.ref a0)])) _
      refine st2.trans ?_
      exact kt)
  obtain ⟨fs, hr, hrun, hended, hW, hsame⟩ := X2.leave (v := none) (fun _ => rfl)
  refine ⟨_, _, pre10 _ ?_, hrun, hended, _, _, rfl, ?_, ⟨_, rfl⟩, hW, hsame.mono (by decide) (by decide)⟩
  · show Steps p.tables e below (T2.setTop (mkF m 9 #[.val (.ref a0), .val (.ref a1)] [])) _
    exact X2.returnOut hx Bd.returns (hb hby d2_9) hr
  · show QI1 Z _ _ _ _ _ _ _ _ h0 n0 _ T2.heap _
    exact ⟨rfl, N2, K9, _, _, c2_1, c2_2, c2_3, c2_4⟩
theorem d3_8 : decode jdk_42_method_149_code 8 = .ok (.aload_n 0, 1) := by decide +kernel
theorem d3_9 : decode jdk_42_method_149_code 9 = .ok (.ldc 7, 2) := by decide +kernel
theorem d3_11 : decode jdk_42_method_149_code 11 = .ok (.getfield 9, 3) := by decide +kernel
theorem d3_14 : decode jdk_42_method_149_code 14 = .ok (.putfield 9, 3) := by decide +kernel
theorem d3_17 : decode jdk_42_method_149_code 17 = .ok (.aload_n 0, 1) := by decide +kernel
theorem d3_18 : decode jdk_42_method_149_code 18 = .ok (.ldc 7, 2) := by decide +kernel
theorem d3_20 : decode jdk_42_method_149_code 20 = .ok (.getfield 15, 3) := by decide +kernel
theorem d3_23 : decode jdk_42_method_149_code 23 = .ok (.putfield 15, 3) := by decide +kernel
theorem d3_26 : decode jdk_42_method_149_code 26 = .ok (.return_, 1) := by decide +kernel
theorem ef_J4 (m : MethodId) (x0 : Addr) (x1 : Addr) (x2 : Int32) (x3 : Int32)  : entryFrame m #[(.ref x0), (.ref x1), (.int x2), (.int x3), .null] 6 = mkF m 0 #[.val (.ref x0), .val (.ref x1), .val (.int x2), .val (.int x3), .val .null, .unset] [] := by first | (simp [entryFrame, mkF, argsToLocals, Value.category]; done) | rfl
def QJ4 (Z : State) (a0 : Addr) (a1 : Addr) (u_coder_0 : Value) (h0 : Heap) (n0 : Nat) (v : Option Value) (h : Heap) (L : List Loc) : Prop := v = none ∧ Fr n0 L ∧ (Keep h0 h [a0]) ∧ ∃ (vb : Addr) (kb : ClassId), (Exa Z h a0 "java/lang/String") ∧ (Fld Z h a0 "java/lang/String" "coder" "B" (.int (0 : Int32))) ∧ (Fld Z h a0 "java/lang/String" "value" "[B" (.ref vb)) ∧ (Arv Z h vb kb .byte (0 : Int32) [] (.int (0 : Int32)))
set_option maxRecDepth 65536 in
set_option maxHeartbeats 40000000 in
theorem rmJ4 (l : Launch) (Z : State) (aw : Array Value) (hw : ∀ d ∈ tables_1, d.before aw Z = true) (ws : List Jvm.Cond) (a0 : Addr) (a1 : Addr) (u_coder_0 : Value) (h0 : Heap) (n0 : Nat) (Z0 : n0 ≤ h0.size) (Exa_0 : Exa Z h0 a0 "java/lang/String") (Fld_1 : Fld Z h0 a0 "java/lang/String" "value" "[B" .null) (g_a0 : n0 ≤ a0) (Fo_coder_3 : Fld Z h0 a0 "java/lang/String" "coder" "B" u_coder_0) :
    MetFree l (⟨"java/lang/String", "<init>", "([CIILjava/lang/Void;)V"⟩ : MethodName) (head1 (Jvm.Cond.code (⟨"java/lang/String", "<init>", "([CIILjava/lang/Void;)V"⟩ : MethodName) jdk_42_method_149_code 6 none :: ws) ({ frames := 1, cells := 4, slots := 8, locals := 12 } : Room)) (fun a U => a = #[(.ref a0), (.ref a1), (.int (0 : Int32)), (.int (0 : Int32)), .null] ∧ Z.Warmed39 U.vm ∧ U.heap = h0 ∧ CHv Z consts_1 U.vm h0) (fun _ _ _ _ _ => True) (fun _ U o U' => ∃ v L, o = .returned v ∧ QJ4 Z a0 a1 u_coder_0 h0 n0 v U'.heap L ∧ CHr Z consts_1 U.vm U.heap U'.vm U'.heap ∧ ReturnedEndW U o U' L ({ frames := 1, cells := 4, slots := 8, locals := 12 } : Room).cells ({ frames := 1, cells := 4, slots := 8, locals := 12 } : Room).slots) := by
  refine MetFree.of_bodySF (plainFor_of_name pn_1) hisR ?_
  intro p e s m args below meth c s₁ Bd hml0 hP hK
  obtain ⟨rfl, hZ, hh, H0⟩ := hP
  have hx := Bd.exec
  have hby := Bd.bytes
  have hml : c.maxLocals = 6 := hml0
  have hown : s.vm.findClass "java/lang/String" = some m.cls := findClass_of_methodNamed Bd.named
  have hnm := (name_of_methodNamed Bd.named Bd.method).1
  have X0 : Stand p l e ({ frames := 1, cells := 4, slots := 8, locals := 12 } : Room) (s.setVm s.vm) m #[(.ref a0), (.ref a1), (.int (0 : Int32)), (.int (0 : Int32)), .null] below meth c s₁ [] 0 0 := Stand.of_body Bd
  have e0 : s₁.heap = h0 := by rw [← hh, Bd.state]; rfl
  have N0 := Fr.nil n0
  have hEL := own_EW hw
  have wS := own_wS hw
  have hS0 : s.Since s.vm 0 := (State.WarmedH.refl s).since 0
  have pre0 : ∀ t, Steps p.tables e below (s₁.setTop (mkF m 0 #[.val (.ref a0), .val (.ref a1), .val (.int (0 : Int32)), .val (.int (0 : Int32)), .val .null, .unset] [])) t → Steps p.tables e below (s₁.setTop (entryFrame m #[(.ref a0), (.ref a1), (.int (0 : Int32)), (.int (0 : Int32)), .null] 6)) t := fun t k => castTop (ef_J4 m a0 a1 (0 : Int32) (0 : Int32) ) k
  obtain ⟨T1, X1, e1, st1⟩ := initO X0 hx hZ hown (hw _ (List.mem_of_getElem? (i := 15) rfl)) (hw _ (List.mem_of_getElem? (i := 16) rfl)) (hw _ (List.mem_of_getElem? (i := 17) rfl)) e0 (g := (mkF m 1 #[.val (.ref a0), .val (.ref a1), .val (.int (0 : Int32)), .val (.int (0 : Int32)), .val .null, .unset] [(.ref a0)])) rfl (by rw [hml]; rfl) rfl (hb hby d3_1) (by decide) (W := 0) (by show 2 * 0 + _ ≤ _; exact Nat.le_of_eq rfl) (by decide)
  have Sa2 : Safe Z consts_1 s.vm h0 a0 := own_safe (show Z.vm.Alike s.vm from (hZ).alike) Exa_0 Fld_1
  obtain ⟨lt3, T3, h3, kk3, lb3, kb3, X3, e3, E3, hS3, hk3, hZ3, hown3, Ex3, Fc3, Fv3, Av3, lla3, llb3, hCq3, hL3, hne3, st3⟩ := ldcCH X1 hx hZ hown (hw _ (List.mem_of_getElem? (i := 18) rfl)) wS e1 hS0 (Nat.zero_le _) hEL (List.mem_of_getElem? (i := 1) rfl) H0 (vs := []) (z := (0 : Int32)) ⟨by decide, by decide⟩ (by decide) rfl (g := (mkF m 9 #[.val (.ref a0), .val (.ref a1), .val (.int (0 : Int32)), .val (.int (0 : Int32)), .val .null, .unset] [(.ref a0)])) rfl (hb hby d3_9) (n := 0) (by decide) (by decide) (by decide) (by decide)
  have CR3 := CHr.trans (CHr.refl H0) hCq3
  have Sq4 := CHr.safe hCq3 Exa_0.lt Sa2
  have f5 := (Exa_0.ext E3)
  have f6 := (Fld_1.ext E3)
  have K3 : Keep h0 h3 [a0] := Keep.ext (Keep.refl h0 [a0]) E3
  obtain ⟨T7, X7, e7, st7⟩ := getF X3 hx hZ3 hown3 (host := "") (Or.inl (hw _ (List.mem_of_getElem? (i := 24) rfl))) Via.refl e3 Fv3 (g := (mkF m 11 #[.val (.ref a0), .val (.ref a1), .val (.int (0 : Int32)), .val (.int (0 : Int32)), .val .null, .unset] [(.ref lt3), (.ref a0)])) rfl rfl (hb hby d3_11)
  obtain ⟨T8, h8, X8, e8, W8, st8⟩ := putF X7 hx hZ3 hown3 (host := "") (Or.inl (hw _ (List.mem_of_getElem? (i := 24) rfl))) Via.refl e7 f6 f5 (Or.inr ⟨(hw _ (List.mem_of_getElem? (i := 20) rfl)), rfl, hnm⟩) (hw _ (List.mem_of_getElem? (i := 5) rfl)) (ty := (.array .byte)) (by decide) rfl rfl (g := (mkF m 14 #[.val (.ref a0), .val (.ref a1), .val (.int (0 : Int32)), .val (.int (0 : Int32)), .val .null, .unset] [(.ref lb3), (.ref a0)])) rfl rfl (hb hby d3_14)
  have Sa9 : Safe Z consts_1 T3.vm h3 a0 := Sq4
  have Fw8 := f6.same W8
  have f10 := (f5.wr W8)
  have f11 := (Ex3.wr W8)
  have f12 := (Fc3.other W8 (Or.inl (Ne.symm (hne3 _ Sq4).1)))
  have f13 := (Fv3.other W8 (Or.inl (Ne.symm (hne3 _ Sq4).1)))
  have f14 := (Av3.other W8 (Ne.symm (hne3 _ Sq4).2))
  have N8 := Fr.snoc X8 N0 g_a0
  have K8 : Keep h0 h8 [a0] := Keep.wr K3 W8 (Or.inl (List.mem_of_getElem? (i := 0) rfl))
  have CR8 := CHr.trans CR3 (CHr.wr W8 Sa9 hCq3.1)
  have CH8 := CHv.wr W8 Sa9 hCq3.1
  obtain ⟨lt15, T15, h15, kk15, lb15, kb15, X15, e15, E15, hS15, hk15, hZ15, hown15, Ex15, Fc15, Fv15, Av15, lla15, llb15, hCq15, hL15, hne15, st15⟩ := ldcCH X8 hx hZ3 hown3 (hw _ (List.mem_of_getElem? (i := 18) rfl)) wS e8 hS3 (Nat.le_trans hk3 (Keep.of_wr W8).1) hEL (List.mem_of_getElem? (i := 1) rfl) CH8 (vs := []) (z := (0 : Int32)) ⟨by decide, by decide⟩ (by decide) rfl (g := (mkF m 18 #[.val (.ref a0), .val (.ref a1), .val (.int (0 : Int32)), .val (.int (0 : Int32)), .val .null, .unset] [(.ref a0)])) rfl (hb hby d3_18) (n := 0) (by decide) (by decide) (by decide) (by decide)
  have CR15 := CHr.trans CR8 hCq15
  have Sq16 := CHr.safe hCq15 f10.lt (Safe.wr W8 Sa9 hCq3.1 Sa9)
  have f17 := (f10.ext E15)
  have f18 := (f11.ext E15)
  have f19 := (f12.ext E15)
  have f20 := (f13.ext E15)
  have f21 := (f14.ext E15)
  have f22 := (Fw8.ext E15)
  have K15 : Keep h0 h15 [a0] := Keep.ext K8 E15
  obtain ⟨T23, X23, e23, st23⟩ := getF X15 hx hZ15 hown15 (host := "") (Or.inl (hw _ (List.mem_of_getElem? (i := 25) rfl))) Via.refl e15 Fc15 (g := (mkF m 20 #[.val (.ref a0), .val (.ref a1), .val (.int (0 : Int32)), .val (.int (0 : Int32)), .val .null, .unset] [(.ref lt15), (.ref a0)])) rfl rfl (hb hby d3_20)
  obtain ⟨T24, h24, X24, e24, W24, st24⟩ := putFN X23 hx hZ15 hown15 (hw _ (List.mem_of_getElem? (i := 25) rfl)) Via.refl e23 (((Fo_coder_3.ext E3).other W8 (Or.inr (slot_ne (Or.inr (hw _ (List.mem_of_getElem? (i := 21) rfl))) (Or.inr (hw _ (List.mem_of_getElem? (i := 20) rfl))) (by decide) (t := .byte) (t' := (.array .byte)) (by decide) (by decide)))).ext E15) f17 (Or.inr ⟨(hw _ (List.mem_of_getElem? (i := 21) rfl)), rfl, hnm⟩) (hw _ (List.mem_of_getElem? (i := 5) rfl)) (ty := .byte) (v' := (.int (0 : Int32))) (by decide) rfl (by decide) (g := (mkF m 23 #[.val (.ref a0), .val (.ref a1), .val (.int (0 : Int32)), .val (.int (0 : Int32)), .val .null, .unset] [(.int (0 : Int32)), (.ref a0)])) rfl rfl (hb hby d3_23)
  have Sa25 : Safe Z consts_1 T15.vm h15 a0 := Sq16
  have Fw24 := (((Fo_coder_3.ext E3).other W8 (Or.inr (slot_ne (Or.inr (hw _ (List.mem_of_getElem? (i := 21) rfl))) (Or.inr (hw _ (List.mem_of_getElem? (i := 20) rfl))) (by decide) (t := .byte) (t' := (.array .byte)) (by decide) (by decide)))).ext E15).same W24
  have f26 := (f17.wr W24)
  have f27 := (f18.wr W24)
  have f28 := (f19.other W24 (Or.inl (Ne.symm (hne3 _ Sq4).1)))
  have f29 := (f20.other W24 (Or.inl (Ne.symm (hne3 _ Sq4).1)))
  have f30 := (f21.other W24 (Ne.symm (hne3 _ Sq4).2))
  have f31 := (f22.other W24 (Or.inr (slot_ne (Or.inr (hw _ (List.mem_of_getElem? (i := 20) rfl))) (Or.inr (hw _ (List.mem_of_getElem? (i := 21) rfl))) (by decide) (t := (.array .byte)) (t' := .byte) (by decide) (by decide))))
  have f32 := (Ex15.wr W24)
  have f33 := (Fc15.other W24 (Or.inl (Ne.symm (hne15 _ Sq16).1)))
  have f34 := (Fv15.other W24 (Or.inl (Ne.symm (hne15 _ Sq16).1)))
  have f35 := (Av15.other W24 (Ne.symm (hne15 _ Sq16).2))
  have N24 := Fr.snoc X24 N8 g_a0
  have K24 : Keep h0 h24 [a0] := Keep.wr K15 W24 (Or.inl (List.mem_of_getElem? (i := 0) rfl))
  have CR24 := CHr.trans CR15 (CHr.wr W24 Sa25 hCq15.1)
  have CH24 := CHv.wr W24 Sa25 hCq15.1
  have pre36 : ∀ t, Steps p.tables e below (T24.setTop (mkF m 26 #[.val (.ref a0), .val (.ref a1), .val (.int (0 : Int32)), .val (.int (0 : Int32)), .val .null, .unset] [])) t → Steps p.tables e below (s₁.setTop (entryFrame m #[(.ref a0), (.ref a1), (.int (0 : Int32)), (.int (0 : Int32)), .null] 6)) t := fun t kt => pre0 t (by
      show Steps p.tables e below (s₁.setTop (mkF m 0 #[.val (.ref a0), .val (.ref a1), .val (.int (0 : Int32)), .val (.int (0 : Int32)), .val .null, .unset] [])) _
      refine XS.aloadN X0.here hx rfl (hb hby d3_0) rfl rfl ?_
      show Steps p.tables e below (s₁.setTop (mkF m 1 #[.val (.ref a0), .val (.ref a1), .val (.int (0 : Int32)), .val (.int (0 : Int32)), .val .null, .unset] [(.ref a0)])) _
      refine st1 _ ?_
      show Steps p.tables e below (T1.setTop (mkF m 4 #[.val (.ref a0), .val (.ref a1), .val (.int (0 : Int32)), .val (.int (0 : Int32)), .val .null, .unset] [])) _
      refine XS.iloadN X1.here hx rfl (hb hby d3_4) rfl ?_
      show Steps p.tables e below (T1.setTop (mkF m 5 #[.val (.ref a0), .val (.ref a1), .val (.int (0 : Int32)), .val (.int (0 : Int32)), .val .null, .unset] [(.int (0 : Int32))])) _
      refine XS.ifNo X1.here hx rfl (hb hby d3_5) rfl ((if0 _ _).trans (teq (rfl : (0 : Int32) = (0 : Int32))).2) ?_
      show Steps p.tables e below (T1.setTop (mkF m 8 #[.val (.ref a0), .val (.ref a1), .val (.int (0 : Int32)), .val (.int (0 : Int32)), .val .null, .unset] [])) _
      refine XS.aloadN X1.here hx rfl (hb hby d3_8) rfl rfl ?_
      show Steps p.tables e below (T1.setTop (mkF m 9 #[.val (.ref a0), .val (.ref a1), .val (.int (0 : Int32)), .val (.int (0 : Int32)), .val .null, .unset] [(.ref a0)])) _
      refine st3 _ ?_
      show Steps p.tables e below (T3.setTop (mkF m 11 #[.val (.ref a0), .val (.ref a1), .val (.int (0 : Int32)), .val (.int (0 : Int32)), .val .null, .unset] [(.ref lt3), (.ref a0)])) _
      refine st7 _ ?_
      show Steps p.tables e below (T7.setTop (mkF m 14 #[.val (.ref a0), .val (.ref a1), .val (.int (0 : Int32)), .val (.int (0 : Int32)), .val .null, .unset] [(.ref lb3), (.ref a0)])) _
      refine st8 _ ?_
      show Steps p.tables e below (T8.setTop (mkF m 17 #[.val (.ref a0), .val (.ref a1), .val (.int (0 : Int32)), .val (.int (0 : Int32)), .val .null, .unset] [])) _
      refine XS.aloadN X8.here hx rfl (hb hby d3_17) rfl rfl ?_
      show Steps p.tables e below (T8.setTop (mkF m 18 #[.val (.ref a0), .val (.ref a1), .val (.int (0 : Int32)), .val (.int (0 : Int32)), .val .null, .unset] [(.ref a0)])) _
      refine st15 _ ?_
      show Steps p.tables e below (T15.setTop (mkF m 20 #[.val (.ref a0), .val (.ref a1), .val (.int (0 : Int32)), .val (.int (0 : Int32)), .val .null, .unset] [(.ref lt15), (.ref a0)])) _
      refine st23 _ ?_
      show Steps p.tables e below (T23.setTop (mkF m 23 #[.val (.ref a0), .val (.ref a1), .val (.int (0 : Int32)), .val (.int (0 : Int32)), .val .null, .unset] [(.int (0 : Int32)), (.ref a0)])) _
      refine st24 _ ?_
      exact kt)
  obtain ⟨fs, hr, hrun, hended, hRE⟩ := X24.leaveW hS15 (by rw [e24]; exact (Nat.le_trans hk15 (Keep.of_wr W24).1)) (v := none) (fun _ => rfl)
  have hCR : CHr Z consts_1 s.vm s.heap T24.vm T24.heap := by rw [e24, hh]; exact CHr.trans CR24 (CHv.at X24 hZ15 hEL CH24)
  refine ⟨_, _, pre36 _ ?_, hrun, hended, _, _, rfl, ?_, hCR, own_mono hRE (by decide) (by decide)⟩
  · show Steps p.tables e below (T24.setTop (mkF m 26 #[.val (.ref a0), .val (.ref a1), .val (.int (0 : Int32)), .val (.int (0 : Int32)), .val .null, .unset] [])) _
    exact X24.returnOut hx Bd.returns (hb hby d3_26) hr
  · show QJ4 Z _ _ _ h0 n0 _ T24.heap _
    rw [e24]
    exact ⟨rfl, N24, K24, _, _, f26, Fw24, f31, f30⟩
theorem ef_J1 (m : MethodId) (x0 : Addr) (x1 : Addr)  : entryFrame m #[(.ref x0), (.ref x1)] 2 = mkF m 0 #[.val (.ref x0), .val (.ref x1)] [] := by first | (simp [entryFrame, mkF, argsToLocals, Value.category]; done) | rfl
def QJ1 (Z : State) (a0 : Addr) (a1 : Addr) (kc : ClassId) (u_coder_1 : Value) (h0 : Heap) (n0 : Nat) (v : Option Value) (h : Heap) (L : List Loc) : Prop := v = none ∧ Fr n0 L ∧ (Keep h0 h [a0]) ∧ ∃ (vb : Addr) (kb : ClassId), (Exa Z h a0 "java/lang/String") ∧ (Fld Z h a0 "java/lang/String" "coder" "B" (.int (0 : Int32))) ∧ (Fld Z h a0 "java/lang/String" "value" "[B" (.ref vb)) ∧ (Arv Z h vb kb .byte (0 : Int32) [] (.int (0 : Int32)))
set_option maxRecDepth 65536 in
set_option maxHeartbeats 40000000 in
theorem rmJ1 (l : Launch) (Z : State) (aw : Array Value) (hw : ∀ d ∈ tables_1, d.before aw Z = true) (ws : List Jvm.Cond) (a0 : Addr) (a1 : Addr) (kc : ClassId) (u_coder_1 : Value) (h0 : Heap) (n0 : Nat) (Z0 : n0 ≤ h0.size) (Arv_0 : Arv Z h0 a1 kc .char (0 : Int32) [] (.int (0 : Int32))) (Exa_1 : Exa Z h0 a0 "java/lang/String") (Ff_value_2 : Fld Z h0 a0 "java/lang/String" "value" "[B" .null) (g_a0 : n0 ≤ a0) (Fo_coder_4 : Fld Z h0 a0 "java/lang/String" "coder" "B" u_coder_1) :
    MetFree l (⟨"java/lang/String", "<init>", "([C)V"⟩ : MethodName) (head1 (Jvm.Cond.code (⟨"java/lang/String", "<init>", "([C)V"⟩ : MethodName) jdk_42_method_3_code 2 none :: ws) ({ frames := 2, cells := 4, slots := 8, locals := 29 } : Room)) (fun a U => a = #[(.ref a0), (.ref a1)] ∧ Z.Warmed39 U.vm ∧ U.heap = h0 ∧ CHv Z consts_1 U.vm h0) (fun _ _ _ _ _ => True) (fun _ U o U' => ∃ v L, o = .returned v ∧ QJ1 Z a0 a1 kc u_coder_1 h0 n0 v U'.heap L ∧ CHr Z consts_1 U.vm U.heap U'.vm U'.heap ∧ ReturnedEndW U o U' L ({ frames := 2, cells := 4, slots := 8, locals := 29 } : Room).cells ({ frames := 2, cells := 4, slots := 8, locals := 29 } : Room).slots) := by
  refine MetFree.of_bodySF (plainFor_of_name pn_1) hisR ?_
  intro p e s m args below meth c s₁ Bd hml0 hP hK
  obtain ⟨rfl, hZ, hh, H0⟩ := hP
  have hx := Bd.exec
  have hby := Bd.bytes
  have hml : c.maxLocals = 2 := hml0
  have hown : s.vm.findClass "java/lang/String" = some m.cls := findClass_of_methodNamed Bd.named
  have hnm := (name_of_methodNamed Bd.named Bd.method).1
  have X0 : Stand p l e ({ frames := 2, cells := 4, slots := 8, locals := 29 } : Room) (s.setVm s.vm) m #[(.ref a0), (.ref a1)] below meth c s₁ [] 0 0 := Stand.of_body Bd
  have e0 : s₁.heap = h0 := by rw [← hh, Bd.state]; rfl
  have N0 := Fr.nil n0
  have hEL := own_EW hw
  have wS := own_wS hw
  have hS0 : s.Since s.vm 0 := (State.WarmedH.refl s).since 0
  have pre0 : ∀ t, Steps p.tables e below (s₁.setTop (mkF m 0 #[.val (.ref a0), .val (.ref a1)] [])) t → Steps p.tables e below (s₁.setTop (entryFrame m #[(.ref a0), (.ref a1)] 2)) t := fun t k => castTop (ef_J1 m a0 a1 ) k
  obtain ⟨co1, Ao1, qo1, So1, No1, Ho1, Go1⟩ := id Arv_0
  obtain ⟨_, _, ⟨T2, L2, k2, n2⟩, -, X2, hSi2, hgr2, ⟨Lc2, hQ2, l2, y2, z2, hCq2⟩, st2⟩ := X0.specialBackS hx (y := (⟨"java/lang/String", "<init>", "([CIILjava/lang/Void;)V"⟩ : MethodName)) rfl hown (mvT hZ (hw _ (List.mem_of_getElem? (i := 11) rfl))) (mvT hZ (hw _ (List.mem_of_getElem? (i := 12) rfl))) (mvT hZ (hw _ (List.mem_of_getElem? (i := 14) rfl))) (by decide) (backOfSH (W := 0) (rmJ4 l Z aw hw [] a0 a1 u_coder_1 h0 n0 Z0 Exa_1 Ff_value_2 g_a0 Fo_coder_4) hZ (hw _ (List.mem_of_getElem? (i := 14) rfl)) (hw _ (List.mem_of_getElem? (i := 6) rfl)) (by decide) (by decide) hEL H0) (g := (mkF m 6 #[.val (.ref a0), .val (.ref a1)] [.null, (.int (0 : Int32)), (.int (0 : Int32)), (.ref a1), (.ref a0)])) rfl (by rw [hml]; rfl) (Steps.refl _) (a := a0) (argsL := [(.ref a1), (.int (0 : Int32)), (.int (0 : Int32)), .null]) (rest := []) (lenOf pd_6 rfl) rfl (by show 2 * 0 + _ ≤ _; exact Nat.le_of_eq rfl) (hb hby d2_6) (fun _ _ => ⟨rfl, e0, (by decide : 0 + 4 ≤ _), (by decide : 0 + 8 ≤ _)⟩)
  dsimp only [Pt.U, Pt.locs, Pt.cells, Pt.slots] at X2 l2 y2 z2 st2 hQ2 hSi2 hgr2 hCq2
  subst l2 y2 z2
  obtain ⟨Xr2, hS2, hZ2, hown2⟩ := rebS hS0 (by rw [e0]; exact (Nat.zero_le _)) X2 hSi2 hgr2 hZ hown
  have CR2 := CHr.trans (CHr.refl H0) hCq2
  obtain ⟨rfl, Nq2, c2_0, vb3, kb4, c2_1, c2_2, c2_3, c2_4⟩ := hQ2
  have N2 := Fr.app N0 Nq2
  have f5 := (Arv_0.keep c2_0 (ninS (Ne.symm (Exa.neArv Exa_1 Arv_0 (hw _ (List.mem_of_getElem? (i := 5) rfl)))) nin0))
  have f6 := (Exa_1.keep c2_0)
  have K7 : Keep h0 T2.heap [a0] := Keep.trans (Keep.refl h0 [a0]) c2_0 (allS (Or.inl (List.mem_of_getElem? (i := 0) rfl)) all0)
  have pre8 : ∀ t, Steps p.tables e below (T2.setTop (mkF m 9 #[.val (.ref a0), .val (.ref a1)] [])) t → Steps p.tables e below (s₁.setTop (entryFrame m #[(.ref a0), (.ref a1)] 2)) t := fun t kt => pre0 t (by
      show Steps p.tables e below (s₁.setTop (mkF m 0 #[.val (.ref a0), .val (.ref a1)] [])) _
      refine XS.aloadN X0.here hx rfl (hb hby d2_0) rfl rfl ?_
      show Steps p.tables e below (s₁.setTop (mkF m 1 #[.val (.ref a0), .val (.ref a1)] [(.ref a0)])) _
      refine XS.aloadN X0.here hx rfl (hb hby d2_1) rfl rfl ?_
      show Steps p.tables e below (s₁.setTop (mkF m 2 #[.val (.ref a0), .val (.ref a1)] [(.ref a1), (.ref a0)])) _
      refine XS.iconst X0.here hx rfl (hb hby d2_2) ?_
      show Steps p.tables e below (s₁.setTop (mkF m 3 #[.val (.ref a0), .val (.ref a1)] [(.int (0 : Int32)), (.ref a1), (.ref a0)])) _
      refine XS.aloadN X0.here hx rfl (hb hby d2_3) rfl rfl ?_
      show Steps p.tables e below (s₁.setTop (mkF m 4 #[.val (.ref a0), .val (.ref a1)] [(.ref a1), (.int (0 : Int32)), (.ref a1), (.ref a0)])) _
      refine X0.arraylength hx (by rw [e0]; exact Ao1.1) (State.isArrayOf_alike hZ.alike Ao1.2.1) (g := (mkF m 4 #[.val (.ref a0), .val (.ref a1)] [(.ref a1), (.int (0 : Int32)), (.ref a1), (.ref a0)])) rfl rfl (hb hby d2_4) _ ?_
      rw [len_of So1 No1]
      show Steps p.tables e below (s₁.setTop (mkF m 5 #[.val (.ref a0), .val (.ref a1)] [(.int (0 : Int32)), (.int (0 : Int32)), (.ref a1), (.ref a0)])) _
      refine XS.aconstNull X0.here hx rfl (hb hby d2_5) ?_
      show Steps p.tables e below (s₁.setTop (mkF m 6 #[.val (.ref a0), .val (.ref a1)] [.null, (.int (0 : Int32)), (.int (0 : Int32)), (.ref a1), (.ref a0)])) _
      refine st2.trans ?_
      exact kt)
  obtain ⟨fs, hr, hrun, hended, hRE⟩ := Xr2.leaveW hS2 (Nat.le_refl _) (v := none) (fun _ => rfl)
  have hCR : CHr Z consts_1 s.vm s.heap T2.vm T2.heap := by rw [hh]; exact CHr.trans CR2 (CHv.at Xr2 hZ2 hEL hCq2.1)
  refine ⟨_, _, pre8 _ ?_, hrun, hended, _, _, rfl, ?_, hCR, own_mono hRE (by decide) (by decide)⟩
  · show Steps p.tables e below (T2.setTop (mkF m 9 #[.val (.ref a0), .val (.ref a1)] [])) _
    exact Xr2.returnOut hx Bd.returns (hb hby d2_9) hr
  · show QJ1 Z _ _ _ _ h0 n0 _ T2.heap _
    exact ⟨rfl, N2, K7, _, _, c2_1, c2_2, c2_3, c2_4⟩
theorem pd_7 : parseMethodDescriptor "([C)V" = some ⟨[(.array .char)], none⟩ := by decide +kernel
theorem pd_8 : parseMethodDescriptor "(C)Ljava/lang/String;" = some ⟨[.char], some (.object "java/lang/String")⟩ := by decide +kernel
theorem pn_3 : plainName "com/example/gibbon/gibbon/search/OccurrencesEqualsPinLaw" = true := by first | (simp [plainName, overriddenIn]; done) | decide +kernel
theorem d1_0 : decode method_3_code 0 = .ok (.iload_n 0, 1) := by decide +kernel
theorem d1_1 : decode method_3_code 1 = .ok (.ifCond .ne 14, 3) := by decide +kernel
theorem d1_4 : decode method_3_code 4 = .ok (.new 22, 3) := by decide +kernel
theorem d1_7 : decode method_3_code 7 = .ok (.dup, 1) := by decide +kernel
theorem d1_8 : decode method_3_code 8 = .ok (.iconst 0, 1) := by decide +kernel
theorem d1_9 : decode method_3_code 9 = .ok (.newarray .char, 2) := by decide +kernel
theorem d1_11 : decode method_3_code 11 = .ok (.invokespecial 24, 3) := by decide +kernel
theorem d1_14 : decode method_3_code 14 = .ok (.areturn, 1) := by decide +kernel
theorem d1_15 : decode method_3_code 15 = .ok (.iload_n 0, 1) := by decide +kernel
theorem d1_16 : decode method_3_code 16 = .ok (.iconst 1, 1) := by decide +kernel
theorem d1_17 : decode method_3_code 17 = .ok (.if_icmp .ne 8, 3) := by decide +kernel
theorem d1_20 : decode method_3_code 20 = .ok (.iload_n 1, 1) := by decide +kernel
theorem d1_21 : decode method_3_code 21 = .ok (.invokestatic 27, 3) := by decide +kernel
theorem d1_24 : decode method_3_code 24 = .ok (.areturn, 1) := by decide +kernel
theorem d1_25 : decode method_3_code 25 = .ok (.iconst 2, 1) := by decide +kernel
theorem d1_26 : decode method_3_code 26 = .ok (.newarray .char, 2) := by decide +kernel
theorem d1_28 : decode method_3_code 28 = .ok (.astore_n 3, 1) := by decide +kernel
theorem d1_29 : decode method_3_code 29 = .ok (.aload_n 3, 1) := by decide +kernel
theorem d1_30 : decode method_3_code 30 = .ok (.iconst 0, 1) := by decide +kernel
theorem d1_31 : decode method_3_code 31 = .ok (.iload_n 1, 1) := by decide +kernel
theorem d1_32 : decode method_3_code 32 = .ok (.castore, 1) := by decide +kernel
theorem d1_33 : decode method_3_code 33 = .ok (.aload_n 3, 1) := by decide +kernel
theorem d1_34 : decode method_3_code 34 = .ok (.iconst 1, 1) := by decide +kernel
theorem d1_35 : decode method_3_code 35 = .ok (.iload_n 2, 1) := by decide +kernel
theorem d1_36 : decode method_3_code 36 = .ok (.castore, 1) := by decide +kernel
theorem d1_37 : decode method_3_code 37 = .ok (.new 22, 3) := by decide +kernel
theorem d1_40 : decode method_3_code 40 = .ok (.dup, 1) := by decide +kernel
theorem d1_41 : decode method_3_code 41 = .ok (.aload_n 3, 1) := by decide +kernel
theorem d1_42 : decode method_3_code 42 = .ok (.invokespecial 24, 3) := by decide +kernel
theorem d1_45 : decode method_3_code 45 = .ok (.areturn, 1) := by decide +kernel
theorem ef_1 (m : MethodId) (x0 : Int32) (x1 : Int32) (x2 : Int32)  : entryFrame m #[(.int x0), (.int x1), (.int x2)] 4 = mkF m 0 #[.val (.int x0), .val (.int x1), .val (.int x2), .unset] [] := by first | (simp [entryFrame, mkF, argsToLocals, Value.category]; done) | rfl
def Q1 (Z : State) (p0 : Int32) (p1 : Int32) (p2 : Int32) (w_COMPACT_STRINGS_0 : Int32) (h0 : Heap) (n0 : Nat) (v : Option Value) (h : Heap) (L : List Loc) : Prop := (∃ (r : Addr) (vb : Addr) (kb : ClassId), v = some (.ref r) ∧ (h0.size ≤ r) ∧ (Exa Z h r "java/lang/String") ∧ (Fld Z h r "java/lang/String" "coder" "B" (.int (0 : Int32))) ∧ (Fld Z h r "java/lang/String" "value" "[B" (.ref vb)) ∧ (Arv Z h vb kb .byte p0 (own_vs p0 p1 p2) (.int (0 : Int32)))) ∧ Fr n0 L ∧ (Keep h0 h [])
set_option maxRecDepth 65536 in
set_option maxHeartbeats 40000000 in
theorem rm1 (l : Launch) (Z : State) (aw : Array Value) (hw : ∀ d ∈ tables_1, d.before aw Z = true) (ws : List Jvm.Cond) (p0 : Int32) (p1 : Int32) (p2 : Int32) (w_COMPACT_STRINGS_0 : Int32) (h0 : Heap) (n0 : Nat) (Z0 : n0 ≤ h0.size) (hl : (0 : Int32) = p0 ∨ (1 : Int32) = p0 ∨ (2 : Int32) = p0) (hp1 : own_c8 p1) (hp2 : own_c8 p2) (Sf_COMPACT_STRINGS_3 : Sta Z h0 "java/lang/String" "COMPACT_STRINGS" "Z" (.int w_COMPACT_STRINGS_0)) (hp15 : ¬ w_COMPACT_STRINGS_0 = (0 : Int32)) :
    MetFree l (⟨"com/example/gibbon/gibbon/search/OccurrencesEqualsPinLaw", "mk", "(ICC)Ljava/lang/String;"⟩ : MethodName) (head1 (Jvm.Cond.code (⟨"com/example/gibbon/gibbon/search/OccurrencesEqualsPinLaw", "mk", "(ICC)Ljava/lang/String;"⟩ : MethodName) method_3_code 4 (some (.object "java/lang/String")) :: ws) ({ frames := 4, cells := 6, slots := 12, locals := 66 } : Room)) (fun a U => a = #[(.int p0), (.int p1), (.int p2)] ∧ Z.Warmed39 U.vm ∧ U.heap = h0 ∧ CHv Z consts_1 U.vm h0) (fun _ _ _ _ _ => True) (fun _ U o U' => ∃ v L, o = .returned v ∧ Q1 Z p0 p1 p2 w_COMPACT_STRINGS_0 h0 n0 v U'.heap L ∧ CHr Z consts_1 U.vm U.heap U'.vm U'.heap ∧ ReturnedEndW U o U' L ({ frames := 4, cells := 6, slots := 12, locals := 66 } : Room).cells ({ frames := 4, cells := 6, slots := 12, locals := 66 } : Room).slots) := by
  refine MetFree.of_bodySF (plainFor_of_name pn_3) hisR ?_
  intro p e s m args below meth c s₁ Bd hml0 hP hK
  obtain ⟨rfl, hZ, hh, H0⟩ := hP
  have hx := Bd.exec
  have hby := Bd.bytes
  have hml : c.maxLocals = 4 := hml0
  have hown : s.vm.findClass "com/example/gibbon/gibbon/search/OccurrencesEqualsPinLaw" = some m.cls := findClass_of_methodNamed Bd.named
  have hnm := (name_of_methodNamed Bd.named Bd.method).1
  have X0 : Stand p l e ({ frames := 4, cells := 6, slots := 12, locals := 66 } : Room) (s.setVm s.vm) m #[(.int p0), (.int p1), (.int p2)] below meth c s₁ [] 0 0 := Stand.of_body Bd
  have e0 : s₁.heap = h0 := by rw [← hh, Bd.state]; rfl
  have N0 := Fr.nil n0
  have hEL := own_EW hw
  have wS := own_wS hw
  have hS0 : s.Since s.vm 0 := (State.WarmedH.refl s).since 0
  have pre0 : ∀ t, Steps p.tables e below (s₁.setTop (mkF m 0 #[.val (.int p0), .val (.int p1), .val (.int p2), .unset] [])) t → Steps p.tables e below (s₁.setTop (entryFrame m #[(.int p0), (.int p1), (.int p2)] 4)) t := fun t k => castTop (ef_1 m p0 p1 p2 ) k
  rcases hl with rfl | rfl | rfl
  · skip
    obtain ⟨T1, h1, X1, e1, E1, A1, D1, -, st1⟩ := newO X0 hx hZ hown (hw _ (List.mem_of_getElem? (i := 4) rfl)) (hw _ (List.mem_of_getElem? (i := 5) rfl)) (hw _ (List.mem_of_getElem? (i := 6) rfl)) e0 (g := (mkF m 4 #[.val (.int (0 : Int32)), .val (.int p1), .val (.int p2), .unset] [])) rfl (hb hby d1_4) (by decide) (by decide)
    obtain ⟨b1, g1⟩ : ∃ z, z = h0.size := ⟨_, rfl⟩
    rw [← g1] at A1 D1 st1
    have Sn1 : Safe Z consts_1 s.vm h0 b1 := Safe.new (Nat.le_of_eq g1.symm)
    have CR1 := CHr.trans (CHr.refl H0) (CHr.ext E1 H0)
    have CH1 := CHv.ext E1 H0
    have ge_b1 : n0 ≤ b1 := Nat.le_trans Z0 (Nat.le_of_eq g1.symm)
    have sz_b1 : h0.size ≤ b1 := Nat.le_trans (Keep.refl h0 []).1 (Nat.le_of_eq g1.symm)
    have K1 : Keep h0 h1 [] := Keep.ext (Keep.refl h0 []) E1
    have F1_value : Fld Z h1 b1 "java/lang/String" "value" "[B" .null := D1 (Or.inr (hw _ (List.mem_of_getElem? (i := 20) rfl))) (ty := (.array .byte)) (by decide)
    have F1_coder : Fld Z h1 b1 "java/lang/String" "coder" "B" (.int (0 : Int32)) := D1 (Or.inr (hw _ (List.mem_of_getElem? (i := 21) rfl))) (ty := .byte) (by decide)
    obtain ⟨T2, h2, k2, X2, e2, E2, A2, st2⟩ := newP X1 hx hZ (hw _ (List.mem_of_getElem? (i := 7) rfl)) e1 (g := (mkF m 9 #[.val (.int (0 : Int32)), .val (.int p1), .val (.int p2), .unset] [(.int (0 : Int32)), (.ref b1), (.ref b1)])) rfl (hb hby d1_9) rfl (by decide) (cap := 0) (by decide) (by decide) (by decide) (by decide)
    obtain ⟨b2, g2⟩ : ∃ z, z = h1.size := ⟨_, rfl⟩
    rw [← g2] at A2 st2
    have Sn2 : Safe Z consts_1 s.vm h1 b2 := Safe.new (Nat.le_of_eq g2.symm)
    have CR2 := CHr.trans CR1 (CHr.ext E2 CH1)
    have CH2 := CHv.ext E2 CH1
    have f3 := (A1.ext E2)
    have f4 := (F1_value.ext E2)
    have f5 := (F1_coder.ext E2)
    have ne6 : b1 ≠ b2 := Nat.ne_of_lt (Nat.lt_of_lt_of_le A1.lt (Nat.le_of_eq g2.symm))
    have ge_b2 : n0 ≤ b2 := Nat.le_trans (Nat.le_trans Z0 E1.1) (Nat.le_of_eq g2.symm)
    have sz_b2 : h0.size ≤ b2 := Nat.le_trans K1.1 (Nat.le_of_eq g2.symm)
    have K2 : Keep h0 h2 [] := Keep.ext K1 E2
    have V2 : Arv Z h2 b2 k2 .char (0 : Int32) [] (.int (0 : Int32)) := (Arv.new A2 (by decide)).pad (pad_rep [] (.int (0 : Int32)) 0)
    obtain ⟨_, _, ⟨T7, L7, k7, n7⟩, -, X7, hSi7, hgr7, ⟨Lc7, hQ7, l7, y7, z7, hCq7⟩, st7⟩ := X2.specialBackS hx (y := (⟨"java/lang/String", "<init>", "([C)V"⟩ : MethodName)) rfl hown (mvT hZ (hw _ (List.mem_of_getElem? (i := 8) rfl))) (mvT hZ (hw _ (List.mem_of_getElem? (i := 9) rfl))) (mvT hZ (hw _ (List.mem_of_getElem? (i := 10) rfl))) (by decide) (backOfSH (W := 1) (rmJ1 l Z aw hw [] b1 b2 k2 (.int (0 : Int32)) h2 n0 (Nat.le_trans (Nat.le_trans Z0 E1.1) E2.1) V2 f3 f4 ge_b1 f5) hZ (hw _ (List.mem_of_getElem? (i := 10) rfl)) (hw _ (List.mem_of_getElem? (i := 6) rfl)) (by decide) (by decide) hEL CH2) (g := (mkF m 11 #[.val (.int (0 : Int32)), .val (.int p1), .val (.int p2), .unset] [(.ref b2), (.ref b1), (.ref b1)])) rfl (by rw [hml]; rfl) (Steps.refl _) (a := b1) (argsL := [(.ref b2)]) (rest := [(.ref b1)]) (lenOf pd_7 rfl) rfl (by show 2 * 0 + _ ≤ _; exact Nat.le_of_eq rfl) (hb hby d1_11) (fun _ _ => ⟨rfl, e2, (by decide : 2 + 4 ≤ _), (by decide : 4 + 8 ≤ _)⟩)
    dsimp only [Pt.U, Pt.locs, Pt.cells, Pt.slots] at X7 l7 y7 z7 st7 hQ7 hSi7 hgr7 hCq7
    subst l7 y7 z7
    obtain ⟨Xr7, hS7, hZ7, hown7⟩ := rebS hS0 (by rw [e2]; exact (Nat.le_trans (Nat.le_trans (Nat.zero_le _) E1.1) E2.1)) X7 hSi7 hgr7 hZ hown
    have CR7 := CHr.trans CR2 hCq7
    obtain ⟨rfl, Nq7, c7_0, vb8, kb9, c7_1, c7_2, c7_3, c7_4⟩ := hQ7
    have N7 := Fr.app N0 Nq7
    have f10 := (f3.keep c7_0)
    have f11 := (V2.keep c7_0 (ninS (Ne.symm ne6) nin0))
    have K12 : Keep h0 T7.heap [] := Keep.trans K2 c7_0 (allS (Or.inr sz_b1) all0)
    have pre13 : ∀ t, Steps p.tables e below (T7.setTop (mkF m 14 #[.val (.int (0 : Int32)), .val (.int p1), .val (.int p2), .unset] [(.ref b1)])) t → Steps p.tables e below (s₁.setTop (entryFrame m #[(.int (0 : Int32)), (.int p1), (.int p2)] 4)) t := fun t kt => pre0 t (by
        show Steps p.tables e below (s₁.setTop (mkF m 0 #[.val (.int (0 : Int32)), .val (.int p1), .val (.int p2), .unset] [])) _
        refine XS.iloadN X0.here hx rfl (hb hby d1_0) rfl ?_
        show Steps p.tables e below (s₁.setTop (mkF m 1 #[.val (.int (0 : Int32)), .val (.int p1), .val (.int p2), .unset] [(.int (0 : Int32))])) _
        refine XS.ifNo X0.here hx rfl (hb hby d1_1) rfl ((if0 _ _).trans (teq (rfl : (0 : Int32) = (0 : Int32))).2) ?_
        show Steps p.tables e below (s₁.setTop (mkF m 4 #[.val (.int (0 : Int32)), .val (.int p1), .val (.int p2), .unset] [])) _
        refine st1 _ ?_
        show Steps p.tables e below (T1.setTop (mkF m 7 #[.val (.int (0 : Int32)), .val (.int p1), .val (.int p2), .unset] [(.ref b1)])) _
        refine XS.dup X1.here hx rfl (hb hby d1_7) rfl rfl ?_
        show Steps p.tables e below (T1.setTop (mkF m 8 #[.val (.int (0 : Int32)), .val (.int p1), .val (.int p2), .unset] [(.ref b1), (.ref b1)])) _
        refine XS.iconst X1.here hx rfl (hb hby d1_8) ?_
        show Steps p.tables e below (T1.setTop (mkF m 9 #[.val (.int (0 : Int32)), .val (.int p1), .val (.int p2), .unset] [(.int (0 : Int32)), (.ref b1), (.ref b1)])) _
        refine st2 _ ?_
        show Steps p.tables e below (T2.setTop (mkF m 11 #[.val (.int (0 : Int32)), .val (.int p1), .val (.int p2), .unset] [(.ref b2), (.ref b1), (.ref b1)])) _
        refine st7.trans ?_
        exact kt)
    obtain ⟨fs, hr, hrun, hended, hRE⟩ := Xr7.leaveW hS7 (Nat.le_refl _) (v := some (.ref b1)) (fun h => by rw [Bd.returns] at h; cases h)
    have hCR : CHr Z consts_1 s.vm s.heap T7.vm T7.heap := by rw [hh]; exact CHr.trans CR7 (CHv.at Xr7 hZ7 hEL hCq7.1)
    refine ⟨_, _, pre13 _ ?_, hrun, hended, _, _, rfl, ?_, hCR, own_mono hRE (by decide) (by decide)⟩
    · show Steps p.tables e below (T7.setTop (mkF m 14 #[.val (.int (0 : Int32)), .val (.int p1), .val (.int p2), .unset] [(.ref b1)])) _
      jvm_step Xr7.here [Xr7.here.top, hx, (hb hby d1_14), Xr7.method', Bd.returns, Value.isRef, FieldType.isReference]
      first | (intro acts; rw [hr _ acts rfl rfl rfl]) | rw [hr _ _ rfl rfl rfl]
      exact Steps.refl _
    · show Q1 Z _ _ _ _ h0 n0 _ T7.heap _
      exact ⟨⟨_, _, _, rfl, sz_b1, c7_1, c7_2, c7_3, (by rw [own_vs0]; exact c7_4)⟩, N7, K12⟩
  · skip
    obtain ⟨_, _, ⟨T14, L14, k14, n14⟩, -, X14, ⟨Lc14, hQ14, l14, y14, z14⟩, st14⟩ := Jvm.LawKit.callS X0 hx (y := (⟨"java/lang/String", "valueOf", "(C)Ljava/lang/String;"⟩ : MethodName)) hown (mvT hZ (hw _ (List.mem_of_getElem? (i := 61) rfl))) (mvT hZ (hw _ (List.mem_of_getElem? (i := 62) rfl))) (mvT hZ (hw _ (List.mem_of_getElem? (i := 6) rfl))) (mvT hZ (hw _ (List.mem_of_getElem? (i := 63) rfl))) (by decide) (backOf (W := 0) (rm10 l Z aw hw [] p1 w_COMPACT_STRINGS_0 h0 n0 Z0 (own_le8 hp1) Sf_COMPACT_STRINGS_3 hp15) hZ (hw _ (List.mem_of_getElem? (i := 63) rfl)) (hw _ (List.mem_of_getElem? (i := 6) rfl)) (by decide) (by decide)) (g := (mkF m 21 #[.val (.int (1 : Int32)), .val (.int p1), .val (.int p2), .unset] [(.int p1)])) rfl (by rw [hml]; rfl) (argsL := [(.int p1)]) (rest := []) (lenOf pd_8 rfl) rfl (by show 2 * 0 + _ ≤ _; exact Nat.le_of_eq rfl) (hb hby d1_21) (fun _ _ => ⟨rfl, e0, (by decide : 0 + 2 ≤ _), (by decide : 0 + 5 ≤ _)⟩)
    dsimp only [Pt.U, Pt.locs, Pt.cells, Pt.slots] at X14 l14 y14 z14 st14 hQ14
    subst l14 y14 z14
    obtain ⟨⟨r16, vb17, kb18, rfl, m14_0, m14_1, m14_2, m14_3, m14_4⟩, Nq14, c14_0⟩ := hQ14
    have N14 := Fr.app N0 Nq14
    have hs19 : ∀ x ∈ [], Safe Z consts_1 s.vm h0 x := all0
    have CR14 := CHr.trans (CHr.refl H0) (CHr.keep c14_0 hs19 H0)
    have CH14 := CHv.keep c14_0 hs19 H0
    have f20 := (own_sta_keep Sf_COMPACT_STRINGS_3 c14_0 all0)
    have K21 : Keep h0 T14.heap [] := Keep.trans (Keep.refl h0 []) c14_0 all0
    have pre22 : ∀ t, Steps p.tables e below (T14.setTop (mkF m 24 #[.val (.int (1 : Int32)), .val (.int p1), .val (.int p2), .unset] [(.ref r16)])) t → Steps p.tables e below (s₁.setTop (entryFrame m #[(.int (1 : Int32)), (.int p1), (.int p2)] 4)) t := fun t kt => pre0 t (by
        show Steps p.tables e below (s₁.setTop (mkF m 0 #[.val (.int (1 : Int32)), .val (.int p1), .val (.int p2), .unset] [])) _
        refine XS.iloadN X0.here hx rfl (hb hby d1_0) rfl ?_
        show Steps p.tables e below (s₁.setTop (mkF m 1 #[.val (.int (1 : Int32)), .val (.int p1), .val (.int p2), .unset] [(.int (1 : Int32))])) _
        refine XS.ifYes X0.here hx rfl (pc0 := 1) (pc' := 15) rfl (hb hby d1_1) rfl ((if0 _ _).trans (feq (by decide : ¬ ((1 : Int32) = (0 : Int32)))).2) (by decide) (by decide) ?_
        show Steps p.tables e below (s₁.setTop (mkF m 15 #[.val (.int (1 : Int32)), .val (.int p1), .val (.int p2), .unset] [])) _
        refine XS.iloadN X0.here hx rfl (hb hby d1_15) rfl ?_
        show Steps p.tables e below (s₁.setTop (mkF m 16 #[.val (.int (1 : Int32)), .val (.int p1), .val (.int p2), .unset] [(.int (1 : Int32))])) _
        refine XS.iconst X0.here hx rfl (hb hby d1_16) ?_
        show Steps p.tables e below (s₁.setTop (mkF m 17 #[.val (.int (1 : Int32)), .val (.int p1), .val (.int p2), .unset] [(.int (1 : Int32)), (.int (1 : Int32))])) _
        refine XS.icmpNo X0.here hx rfl (hb hby d1_17) rfl (teq (rfl : (1 : Int32) = (1 : Int32))).2 ?_
        show Steps p.tables e below (s₁.setTop (mkF m 20 #[.val (.int (1 : Int32)), .val (.int p1), .val (.int p2), .unset] [])) _
        refine XS.iloadN X0.here hx rfl (hb hby d1_20) rfl ?_
        show Steps p.tables e below (s₁.setTop (mkF m 21 #[.val (.int (1 : Int32)), .val (.int p1), .val (.int p2), .unset] [(.int p1)])) _
        refine st14 _ ?_
        exact kt)
    obtain ⟨fs, hr, hrun, hended, hRE⟩ := X14.leaveW hS0 (Nat.le_trans (Nat.zero_le _) c14_0.1) (v := some (.ref r16)) (fun h => by rw [Bd.returns] at h; cases h)
    have hCR : CHr Z consts_1 s.vm s.heap T14.vm T14.heap := by rw [hh]; exact CHr.trans CR14 (CHv.at X14 hZ hEL CH14)
    refine ⟨_, _, pre22 _ ?_, hrun, hended, _, _, rfl, ?_, hCR, own_mono hRE (by decide) (by decide)⟩
    · show Steps p.tables e below (T14.setTop (mkF m 24 #[.val (.int (1 : Int32)), .val (.int p1), .val (.int p2), .unset] [(.ref r16)])) _
      jvm_step X14.here [X14.here.top, hx, (hb hby d1_24), X14.method', Bd.returns, Value.isRef, FieldType.isReference]
      first | (intro acts; rw [hr _ acts rfl rfl rfl]) | rw [hr _ _ rfl rfl rfl]
      exact Steps.refl _
    · show Q1 Z _ _ _ _ h0 n0 _ T14.heap _
      exact ⟨⟨_, _, _, rfl, (Nat.le_trans (Keep.refl h0 []).1 m14_0), m14_1, m14_2, m14_3, (by rw [own_vs1]; exact m14_4)⟩, N14, K21⟩
  · skip
    obtain ⟨T23, h23, k23, X23, e23, E23, A23, st23⟩ := newP X0 hx hZ (hw _ (List.mem_of_getElem? (i := 7) rfl)) e0 (g := (mkF m 26 #[.val (.int (2 : Int32)), .val (.int p1), .val (.int p2), .unset] [(.int (2 : Int32))])) rfl (hb hby d1_26) rfl (by decide) (cap := 2) (by decide) (by decide) (by decide) (by decide)
    obtain ⟨b23, g23⟩ : ∃ z, z = h0.size := ⟨_, rfl⟩
    rw [← g23] at A23 st23
    have Sn23 : Safe Z consts_1 s.vm h0 b23 := Safe.new (Nat.le_of_eq g23.symm)
    have CR23 := CHr.trans (CHr.refl H0) (CHr.ext E23 H0)
    have CH23 := CHv.ext E23 H0
    have ge_b23 : n0 ≤ b23 := Nat.le_trans Z0 (Nat.le_of_eq g23.symm)
    have sz_b23 : h0.size ≤ b23 := Nat.le_trans (Keep.refl h0 []).1 (Nat.le_of_eq g23.symm)
    have K23 : Keep h0 h23 [] := Keep.ext (Keep.refl h0 []) E23
    have V23 : Arv Z h23 b23 k23 .char (2 : Int32) [(.int (0 : Int32)), (.int (0 : Int32))] (.int (0 : Int32)) := (Arv.new A23 (by decide)).pad (pad_rep [] (.int (0 : Int32)) 2)
    obtain ⟨co24, Ao24, qo24, So24, No24, Ho24, Go24⟩ := id V23
    have hin25 : ¬ ((0 : Int32) < 0 ∨ co24.slots.size ≤ ((0 : Int32)).toNatClampNeg) := inb_of So24 ⟨by decide, by decide⟩
    obtain ⟨T26, h26, X26, e26, W26, st26⟩ := stC X23 hx hZ e23 Ao24 (j := (0 : Int32)) hin25 (g := (mkF m 32 #[.val (.int (2 : Int32)), .val (.int p1), .val (.int p2), .val (.ref b23)] [(.int p1), (.int (0 : Int32)), (.ref b23)])) rfl rfl (hb hby d1_32)
    have V26 : Arv Z h26 b23 k23 .char (2 : Int32) [(.int (nar .char p1)), (.int (0 : Int32))] (.int (0 : Int32)) := Arv.set Ao24 qo24 So24 No24 Ho24 Go24 (fits_nar_char _) W26 0 rfl (Nat.le_of_ble_eq_true rfl)
    have Sa27 : Safe Z consts_1 s.vm h23 b23 := (Safe.ext E23 H0 Sn23)
    have N26 := Fr.snoc X26 N0 ge_b23
    have K26 : Keep h0 h26 [] := Keep.wr K23 W26 (Or.inr sz_b23)
    have CR26 := CHr.trans CR23 (CHr.wr W26 Sa27 CH23)
    have CH26 := CHv.wr W26 Sa27 CH23
    obtain ⟨co28, Ao28, qo28, So28, No28, Ho28, Go28⟩ := id V26
    have hin29 : ¬ ((1 : Int32) < 0 ∨ co28.slots.size ≤ ((1 : Int32)).toNatClampNeg) := inb_of So28 ⟨by decide, by decide⟩
    obtain ⟨T30, h30, X30, e30, W30, st30⟩ := stC X26 hx hZ e26 Ao28 (j := (1 : Int32)) hin29 (g := (mkF m 36 #[.val (.int (2 : Int32)), .val (.int p1), .val (.int p2), .val (.ref b23)] [(.int p2), (.int (1 : Int32)), (.ref b23)])) rfl rfl (hb hby d1_36)
    have V30 : Arv Z h30 b23 k23 .char (2 : Int32) [(.int (nar .char p1)), (.int (nar .char p2))] (.int (0 : Int32)) := Arv.set Ao28 qo28 So28 No28 Ho28 Go28 (fits_nar_char _) W30 1 rfl (Nat.le_of_ble_eq_true rfl)
    have Sa31 : Safe Z consts_1 s.vm h26 b23 := (Safe.wr W26 Sa27 CH23 Sa27)
    have N30 := Fr.snoc X30 N26 ge_b23
    have K30 : Keep h0 h30 [] := Keep.wr K26 W30 (Or.inr sz_b23)
    have CR30 := CHr.trans CR26 (CHr.wr W30 Sa31 CH26)
    have CH30 := CHv.wr W30 Sa31 CH26
    have V32 : Arv Z h30 b23 k23 .char (2 : Int32) [(.int p1), (.int p2)] (.int (0 : Int32)) := by have q := V30; rw [own_nar8 hp1, own_nar8 hp2] at q; exact q
    obtain ⟨T33, h33, X33, e33, E33, A33, D33, -, st33⟩ := newO X30 hx hZ hown (hw _ (List.mem_of_getElem? (i := 4) rfl)) (hw _ (List.mem_of_getElem? (i := 5) rfl)) (hw _ (List.mem_of_getElem? (i := 6) rfl)) e30 (g := (mkF m 37 #[.val (.int (2 : Int32)), .val (.int p1), .val (.int p2), .val (.ref b23)] [])) rfl (hb hby d1_37) (by decide) (by decide)
    obtain ⟨b33, g33⟩ : ∃ z, z = h30.size := ⟨_, rfl⟩
    rw [← g33] at A33 D33 st33
    have Sn33 : Safe Z consts_1 s.vm h30 b33 := Safe.new (Nat.le_of_eq g33.symm)
    have CR33 := CHr.trans CR30 (CHr.ext E33 CH30)
    have CH33 := CHv.ext E33 CH30
    have f34 := (V32.ext E33)
    have ne35 : b23 ≠ b33 := Nat.ne_of_lt (Nat.lt_of_lt_of_le V32.lt (Nat.le_of_eq g33.symm))
    have ge_b33 : n0 ≤ b33 := Nat.le_trans (Nat.le_trans (Nat.le_trans (Nat.le_trans Z0 E23.1) (Keep.of_wr W26).1) (Keep.of_wr W30).1) (Nat.le_of_eq g33.symm)
    have sz_b33 : h0.size ≤ b33 := Nat.le_trans K30.1 (Nat.le_of_eq g33.symm)
    have K33 : Keep h0 h33 [] := Keep.ext K30 E33
    have F33_value : Fld Z h33 b33 "java/lang/String" "value" "[B" .null := D33 (Or.inr (hw _ (List.mem_of_getElem? (i := 20) rfl))) (ty := (.array .byte)) (by decide)
    have F33_coder : Fld Z h33 b33 "java/lang/String" "coder" "B" (.int (0 : Int32)) := D33 (Or.inr (hw _ (List.mem_of_getElem? (i := 21) rfl))) (ty := .byte) (by decide)
    obtain ⟨_, _, ⟨T36, L36, k36, n36⟩, -, X36, ⟨Lc36, hQ36, l36, y36, z36⟩, st36⟩ := X33.specialBack hx (y := (⟨"java/lang/String", "<init>", "([C)V"⟩ : MethodName)) rfl hown (mvT hZ (hw _ (List.mem_of_getElem? (i := 8) rfl))) (mvT hZ (hw _ (List.mem_of_getElem? (i := 9) rfl))) (mvT hZ (hw _ (List.mem_of_getElem? (i := 10) rfl))) (by decide) (backOf (W := 1) (rmI1 l Z aw hw [] b33 b23 p1 p2 k23 w_COMPACT_STRINGS_0 (.int (0 : Int32)) .null h33 n0 (Nat.le_trans (Nat.le_trans (Nat.le_trans (Nat.le_trans Z0 E23.1) (Keep.of_wr W26).1) (Keep.of_wr W30).1) E33.1) (own_le8 hp1) (own_le8 hp2) f34 ((((Sf_COMPACT_STRINGS_3.ext E23).wr W26).wr W30).ext E33) hp15 A33 F33_coder ge_b33 F33_value) hZ (hw _ (List.mem_of_getElem? (i := 10) rfl)) (hw _ (List.mem_of_getElem? (i := 6) rfl)) (by decide) (by decide)) (g := (mkF m 42 #[.val (.int (2 : Int32)), .val (.int p1), .val (.int p2), .val (.ref b23)] [(.ref b23), (.ref b33), (.ref b33)])) rfl (by rw [hml]; rfl) (Steps.refl _) (a := b33) (argsL := [(.ref b23)]) (rest := [(.ref b33)]) (lenOf pd_7 rfl) rfl (by show 2 * 0 + _ ≤ _; exact Nat.le_of_eq rfl) (hb hby d1_42) (fun _ _ => ⟨rfl, e33, (by decide : 2 + 1 ≤ _), (by decide : 6 + 2 ≤ _)⟩)
    dsimp only [Pt.U, Pt.locs, Pt.cells, Pt.slots] at X36 l36 y36 z36 st36 hQ36
    subst l36 y36 z36
    obtain ⟨rfl, Nq36, c36_0, vb37, kb38, c36_1, c36_2, c36_3, c36_4⟩ := hQ36
    have N36 := Fr.app N30 Nq36
    have hs39 : ∀ x ∈ [b33], Safe Z consts_1 s.vm h33 x := (allS (show Safe Z consts_1 s.vm h33 b33 from (Safe.ext E33 CH30 Sn33)) all0)
    have CR36 := CHr.trans CR33 (CHr.keep c36_0 hs39 CH33)
    have CH36 := CHv.keep c36_0 hs39 CH33
    have f40 := (f34.keep c36_0 (ninS ne35 nin0))
    have f41 := (A33.keep c36_0)
    have f42 := (own_sta_keep ((((Sf_COMPACT_STRINGS_3.ext E23).wr W26).wr W30).ext E33) c36_0 (allS (own_exa_ns A33) all0))
    have K43 : Keep h0 T36.heap [] := Keep.trans K33 c36_0 (allS (Or.inr sz_b33) all0)
    have pre44 : ∀ t, Steps p.tables e below (T36.setTop (mkF m 45 #[.val (.int (2 : Int32)), .val (.int p1), .val (.int p2), .val (.ref b23)] [(.ref b33)])) t → Steps p.tables e below (s₁.setTop (entryFrame m #[(.int (2 : Int32)), (.int p1), (.int p2)] 4)) t := fun t kt => pre0 t (by
        show Steps p.tables e below (s₁.setTop (mkF m 0 #[.val (.int (2 : Int32)), .val (.int p1), .val (.int p2), .unset] [])) _
        refine XS.iloadN X0.here hx rfl (hb hby d1_0) rfl ?_
        show Steps p.tables e below (s₁.setTop (mkF m 1 #[.val (.int (2 : Int32)), .val (.int p1), .val (.int p2), .unset] [(.int (2 : Int32))])) _
        refine XS.ifYes X0.here hx rfl (pc0 := 1) (pc' := 15) rfl (hb hby d1_1) rfl ((if0 _ _).trans (feq (by decide : ¬ ((2 : Int32) = (0 : Int32)))).2) (by decide) (by decide) ?_
        show Steps p.tables e below (s₁.setTop (mkF m 15 #[.val (.int (2 : Int32)), .val (.int p1), .val (.int p2), .unset] [])) _
        refine XS.iloadN X0.here hx rfl (hb hby d1_15) rfl ?_
        show Steps p.tables e below (s₁.setTop (mkF m 16 #[.val (.int (2 : Int32)), .val (.int p1), .val (.int p2), .unset] [(.int (2 : Int32))])) _
        refine XS.iconst X0.here hx rfl (hb hby d1_16) ?_
        show Steps p.tables e below (s₁.setTop (mkF m 17 #[.val (.int (2 : Int32)), .val (.int p1), .val (.int p2), .unset] [(.int (1 : Int32)), (.int (2 : Int32))])) _
        refine XS.icmpYes X0.here hx rfl (pc0 := 17) (pc' := 25) rfl (hb hby d1_17) rfl (feq (by decide : ¬ ((2 : Int32) = (1 : Int32)))).2 (by decide) (by decide) ?_
        show Steps p.tables e below (s₁.setTop (mkF m 25 #[.val (.int (2 : Int32)), .val (.int p1), .val (.int p2), .unset] [])) _
        refine XS.iconst X0.here hx rfl (hb hby d1_25) ?_
        show Steps p.tables e below (s₁.setTop (mkF m 26 #[.val (.int (2 : Int32)), .val (.int p1), .val (.int p2), .unset] [(.int (2 : Int32))])) _
        refine st23 _ ?_
        show Steps p.tables e below (T23.setTop (mkF m 28 #[.val (.int (2 : Int32)), .val (.int p1), .val (.int p2), .unset] [(.ref b23)])) _
        refine XS.astoreN X23.here hx rfl (hb hby d1_28) rfl rfl (l' := #[.val (.int (2 : Int32)), .val (.int p1), .val (.int p2), .val (.ref b23)]) rfl ?_
        show Steps p.tables e below (T23.setTop (mkF m 29 #[.val (.int (2 : Int32)), .val (.int p1), .val (.int p2), .val (.ref b23)] [])) _
        refine XS.aloadN X23.here hx rfl (hb hby d1_29) rfl rfl ?_
        show Steps p.tables e below (T23.setTop (mkF m 30 #[.val (.int (2 : Int32)), .val (.int p1), .val (.int p2), .val (.ref b23)] [(.ref b23)])) _
        refine XS.iconst X23.here hx rfl (hb hby d1_30) ?_
        show Steps p.tables e below (T23.setTop (mkF m 31 #[.val (.int (2 : Int32)), .val (.int p1), .val (.int p2), .val (.ref b23)] [(.int (0 : Int32)), (.ref b23)])) _
        refine XS.iloadN X23.here hx rfl (hb hby d1_31) rfl ?_
        show Steps p.tables e below (T23.setTop (mkF m 32 #[.val (.int (2 : Int32)), .val (.int p1), .val (.int p2), .val (.ref b23)] [(.int p1), (.int (0 : Int32)), (.ref b23)])) _
        refine st26 _ ?_
        show Steps p.tables e below (T26.setTop (mkF m 33 #[.val (.int (2 : Int32)), .val (.int p1), .val (.int p2), .val (.ref b23)] [])) _
        refine XS.aloadN X26.here hx rfl (hb hby d1_33) rfl rfl ?_
        show Steps p.tables e below (T26.setTop (mkF m 34 #[.val (.int (2 : Int32)), .val (.int p1), .val (.int p2), .val (.ref b23)] [(.ref b23)])) _
        refine XS.iconst X26.here hx rfl (hb hby d1_34) ?_
        show Steps p.tables e below (T26.setTop (mkF m 35 #[.val (.int (2 : Int32)), .val (.int p1), .val (.int p2), .val (.ref b23)] [(.int (1 : Int32)), (.ref b23)])) _
        refine XS.iloadN X26.here hx rfl (hb hby d1_35) rfl ?_
        show Steps p.tables e below (T26.setTop (mkF m 36 #[.val (.int (2 : Int32)), .val (.int p1), .val (.int p2), .val (.ref b23)] [(.int p2), (.int (1 : Int32)), (.ref b23)])) _
        refine st30 _ ?_
        show Steps p.tables e below (T30.setTop (mkF m 37 #[.val (.int (2 : Int32)), .val (.int p1), .val (.int p2), .val (.ref b23)] [])) _
        refine st33 _ ?_
        show Steps p.tables e below (T33.setTop (mkF m 40 #[.val (.int (2 : Int32)), .val (.int p1), .val (.int p2), .val (.ref b23)] [(.ref b33)])) _
        refine XS.dup X33.here hx rfl (hb hby d1_40) rfl rfl ?_
        show Steps p.tables e below (T33.setTop (mkF m 41 #[.val (.int (2 : Int32)), .val (.int p1), .val (.int p2), .val (.ref b23)] [(.ref b33), (.ref b33)])) _
        refine XS.aloadN X33.here hx rfl (hb hby d1_41) rfl rfl ?_
        show Steps p.tables e below (T33.setTop (mkF m 42 #[.val (.int (2 : Int32)), .val (.int p1), .val (.int p2), .val (.ref b23)] [(.ref b23), (.ref b33), (.ref b33)])) _
        refine st36.trans ?_
        exact kt)
    obtain ⟨fs, hr, hrun, hended, hRE⟩ := X36.leaveW hS0 (Nat.le_trans (Nat.le_trans (Nat.le_trans (Nat.le_trans (Nat.le_trans (Nat.zero_le _) E23.1) (Keep.of_wr W26).1) (Keep.of_wr W30).1) E33.1) c36_0.1) (v := some (.ref b33)) (fun h => by rw [Bd.returns] at h; cases h)
    have hCR : CHr Z consts_1 s.vm s.heap T36.vm T36.heap := by rw [hh]; exact CHr.trans CR36 (CHv.at X36 hZ hEL CH36)
    refine ⟨_, _, pre44 _ ?_, hrun, hended, _, _, rfl, ?_, hCR, own_mono hRE (by decide) (by decide)⟩
    · show Steps p.tables e below (T36.setTop (mkF m 45 #[.val (.int (2 : Int32)), .val (.int p1), .val (.int p2), .val (.ref b23)] [(.ref b33)])) _
      jvm_step X36.here [X36.here.top, hx, (hb hby d1_45), X36.method', Bd.returns, Value.isRef, FieldType.isReference]
      first | (intro acts; rw [hr _ acts rfl rfl rfl]) | rw [hr _ _ rfl rfl rfl]
      exact Steps.refl _
    · show Q1 Z _ _ _ _ h0 n0 _ T36.heap _
      exact ⟨⟨_, _, _, rfl, sz_b33, c36_1, c36_2, c36_3, (by rw [own_vs2]; exact c36_4)⟩, N36, K43⟩
theorem pn_4 : plainName "java/util/Objects" = true := by first | (simp [plainName, overriddenIn]; done) | decide +kernel
theorem d6_0 : decode jdk_31_method_11_code 0 = .ok (.aload_n 0, 1) := by decide +kernel
theorem d6_1 : decode jdk_31_method_11_code 1 = .ok (.ifnonnull 12, 3) := by decide +kernel
theorem d6_13 : decode jdk_31_method_11_code 13 = .ok (.aload_n 0, 1) := by decide +kernel
theorem d6_14 : decode jdk_31_method_11_code 14 = .ok (.areturn, 1) := by decide +kernel
theorem ef_6 (m : MethodId) (x0 : Addr) (x1 : Addr)  : entryFrame m #[(.ref x0), (.ref x1)] 2 = mkF m 0 #[.val (.ref x0), .val (.ref x1)] [] := by first | (simp [entryFrame, mkF, argsToLocals, Value.category]; done) | rfl
def Q6 (Z : State) (a0 : Addr) (a1 : Addr) (h0 : Heap) (n0 : Nat) (v : Option Value) (h : Heap) (L : List Loc) : Prop := v = some (.ref a0) ∧ Fr n0 L ∧ h = h0
set_option maxRecDepth 65536 in
set_option maxHeartbeats 40000000 in
theorem rm6 (l : Launch) (Z : State) (aw : Array Value) (hw : ∀ d ∈ tables_1, d.before aw Z = true) (ws : List Jvm.Cond) (a0 : Addr) (a1 : Addr) (h0 : Heap) (n0 : Nat) (Z0 : n0 ≤ h0.size) :
    MetFree l (⟨"java/util/Objects", "requireNonNull", "(Ljava/lang/Object;Ljava/lang/String;)Ljava/lang/Object;"⟩ : MethodName) (head1 (Jvm.Cond.code (⟨"java/util/Objects", "requireNonNull", "(Ljava/lang/Object;Ljava/lang/String;)Ljava/lang/Object;"⟩ : MethodName) jdk_31_method_11_code 2 (some (.object "java/lang/Object")) :: ws) ({ frames := 0, cells := 0, slots := 0, locals := 0 } : Room)) (fun a U => a = #[(.ref a0), (.ref a1)] ∧ Z.Warmed39 U.vm ∧ U.heap = h0) (fun _ _ _ _ _ => True) (fun _ U o U' => ∃ v L, o = .returned v ∧ Q6 Z a0 a1 h0 n0 v U'.heap L ∧ FrameEnd U o U' L ({ frames := 0, cells := 0, slots := 0, locals := 0 } : Room).cells ({ frames := 0, cells := 0, slots := 0, locals := 0 } : Room).slots) := by
  refine MetFree.of_bodySF (plainFor_of_name pn_4) hisR ?_
  intro p e s m args below meth c s₁ Bd hml0 hP hK
  obtain ⟨rfl, hZ, hh⟩ := hP
  have hx := Bd.exec
  have hby := Bd.bytes
  have hml : c.maxLocals = 2 := hml0
  have hown : s.vm.findClass "java/util/Objects" = some m.cls := findClass_of_methodNamed Bd.named
  have hnm := (name_of_methodNamed Bd.named Bd.method).1
  have X0 : Stand p l e ({ frames := 0, cells := 0, slots := 0, locals := 0 } : Room) s m #[(.ref a0), (.ref a1)] below meth c s₁ [] 0 0 := Stand.of_body Bd
  have e0 : s₁.heap = h0 := by rw [← hh, Bd.state]; rfl
  have N0 := Fr.nil n0
  have pre0 : ∀ t, Steps p.tables e below (s₁.setTop (mkF m 0 #[.val (.ref a0), .val (.ref a1)] [])) t → Steps p.tables e below (s₁.setTop (entryFrame m #[(.ref a0), (.ref a1)] 2)) t := fun t k => castTop (ef_6 m a0 a1 ) k
  have pre1 : ∀ t, Steps p.tables e below (s₁.setTop (mkF m 14 #[.val (.ref a0), .val (.ref a1)] [(.ref a0)])) t → Steps p.tables e below (s₁.setTop (entryFrame m #[(.ref a0), (.ref a1)] 2)) t := fun t kt => pre0 t (by
      show Steps p.tables e below (s₁.setTop (mkF m 0 #[.val (.ref a0), .val (.ref a1)] [])) _
      refine XS.aloadN X0.here hx rfl (hb hby d6_0) rfl rfl ?_
      show Steps p.tables e below (s₁.setTop (mkF m 1 #[.val (.ref a0), .val (.ref a1)] [(.ref a0)])) _
      refine XS.ifnonnullYes X0.here hx rfl (pc0 := 1) (pc' := 13) rfl (hb hby d6_1) rfl (by decide) (by decide) ?_
      show Steps p.tables e below (s₁.setTop (mkF m 13 #[.val (.ref a0), .val (.ref a1)] [])) _
      refine XS.aloadN X0.here hx rfl (hb hby d6_13) rfl rfl ?_
      exact kt)
  obtain ⟨fs, hr, hrun, hended, hW, hsame⟩ := X0.leave (v := some (.ref a0)) (fun h => by rw [Bd.returns] at h; cases h)
  refine ⟨_, _, pre1 _ ?_, hrun, hended, _, _, rfl, ?_, ⟨_, rfl⟩, hW, hsame.mono (by decide) (by decide)⟩
  · show Steps p.tables e below (s₁.setTop (mkF m 14 #[.val (.ref a0), .val (.ref a1)] [(.ref a0)])) _
    jvm_step X0.here [X0.here.top, hx, (hb hby d6_14), X0.method', Bd.returns, Value.isRef, FieldType.isReference]
    first | (intro acts; rw [hr _ acts rfl rfl rfl]) | rw [hr _ _ rfl rfl rfl]
    exact Steps.refl _
  · show Q6 Z _ _ h0 n0 _ s₁.heap _
    rw [e0]
    exact ⟨rfl, N0, rfl⟩
theorem pd_9 : parseMethodDescriptor "(Ljava/lang/Object;Ljava/lang/String;)Ljava/lang/Object;" = some ⟨[(.object "java/lang/Object"), (.object "java/lang/String")], some (.object "java/lang/Object")⟩ := by decide +kernel
theorem pn_5 : plainName "com/example/gibbon/gibbon/search/Occurrences" = true := by first | (simp [plainName, overriddenIn]; done) | decide +kernel
theorem d5_0 : decode prog_42_method_1_code 0 = .ok (.aload_n 0, 1) := by decide +kernel
theorem d5_1 : decode prog_42_method_1_code 1 = .ok (.invokespecial 1, 3) := by decide +kernel
theorem d5_4 : decode prog_42_method_1_code 4 = .ok (.aload_n 0, 1) := by decide +kernel
theorem d5_5 : decode prog_42_method_1_code 5 = .ok (.aload_n 1, 1) := by decide +kernel
theorem d5_6 : decode prog_42_method_1_code 6 = .ok (.ldc 7, 2) := by decide +kernel
theorem d5_8 : decode prog_42_method_1_code 8 = .ok (.invokestatic 9, 3) := by decide +kernel
theorem d5_11 : decode prog_42_method_1_code 11 = .ok (.checkcast 15, 3) := by decide +kernel
theorem d5_14 : decode prog_42_method_1_code 14 = .ok (.putfield 17, 3) := by decide +kernel
theorem d5_17 : decode prog_42_method_1_code 17 = .ok (.aload_n 0, 1) := by decide +kernel
theorem d5_18 : decode prog_42_method_1_code 18 = .ok (.iload_n 2, 1) := by decide +kernel
theorem d5_19 : decode prog_42_method_1_code 19 = .ok (.putfield 22, 3) := by decide +kernel
theorem d5_22 : decode prog_42_method_1_code 22 = .ok (.return_, 1) := by decide +kernel
theorem ef_5 (m : MethodId) (x0 : Addr) (x1 : Addr) (x2 : Int32)  : entryFrame m #[(.ref x0), (.ref x1), (.int x2)] 3 = mkF m 0 #[.val (.ref x0), .val (.ref x1), .val (.int x2)] [] := by first | (simp [entryFrame, mkF, argsToLocals, Value.category]; done) | rfl
def Q5 (Z : State) (a0 : Addr) (a1 : Addr) (p2 : Int32) (u_document_0 : Value) (u_count_1 : Value) (h0 : Heap) (n0 : Nat) (v : Option Value) (h : Heap) (L : List Loc) : Prop := v = none ∧ Fr n0 L ∧ (Keep h0 h [a0]) ∧ (Exa Z h a0 "com/example/gibbon/gibbon/search/Occurrences") ∧ (Fld Z h a0 "com/example/gibbon/gibbon/search/Occurrences" "document" "Ljava/lang/String;" (.ref a1)) ∧ (Fld Z h a0 "com/example/gibbon/gibbon/search/Occurrences" "count" "I" (.int p2))
set_option maxRecDepth 65536 in
set_option maxHeartbeats 40000000 in
theorem rm5 (l : Launch) (Z : State) (aw : Array Value) (hw : ∀ d ∈ tables_1, d.before aw Z = true) (ws : List Jvm.Cond) (a0 : Addr) (a1 : Addr) (p2 : Int32) (u_document_0 : Value) (u_count_1 : Value) (h0 : Heap) (n0 : Nat) (Z0 : n0 ≤ h0.size) (Exa_0 : Exa Z h0 a1 "java/lang/String") (Exa_1 : Exa Z h0 a0 "com/example/gibbon/gibbon/search/Occurrences") (Fo_document_2 : Fld Z h0 a0 "com/example/gibbon/gibbon/search/Occurrences" "document" "Ljava/lang/String;" u_document_0) (g_a0 : n0 ≤ a0) (Fo_count_4 : Fld Z h0 a0 "com/example/gibbon/gibbon/search/Occurrences" "count" "I" u_count_1) :
    MetFree l (⟨"com/example/gibbon/gibbon/search/Occurrences", "<init>", "(Ljava/lang/String;I)V"⟩ : MethodName) (head1 (Jvm.Cond.code (⟨"com/example/gibbon/gibbon/search/Occurrences", "<init>", "(Ljava/lang/String;I)V"⟩ : MethodName) prog_42_method_1_code 3 none :: ws) ({ frames := 1, cells := 2, slots := 36, locals := 14 } : Room)) (fun a U => a = #[(.ref a0), (.ref a1), (.int p2)] ∧ Z.Warmed39 U.vm ∧ U.heap = h0 ∧ CHv Z consts_1 U.vm h0) (fun _ _ _ _ _ => True) (fun _ U o U' => ∃ v L, o = .returned v ∧ Q5 Z a0 a1 p2 u_document_0 u_count_1 h0 n0 v U'.heap L ∧ CHr Z consts_1 U.vm U.heap U'.vm U'.heap ∧ ReturnedEndW U o U' L ({ frames := 1, cells := 2, slots := 36, locals := 14 } : Room).cells ({ frames := 1, cells := 2, slots := 36, locals := 14 } : Room).slots) := by
  refine MetFree.of_bodySF (plainFor_of_name pn_5) hisR ?_
  intro p e s m args below meth c s₁ Bd hml0 hP hK
  obtain ⟨rfl, hZ, hh, H0⟩ := hP
  have hx := Bd.exec
  have hby := Bd.bytes
  have hml : c.maxLocals = 3 := hml0
  have hown : s.vm.findClass "com/example/gibbon/gibbon/search/Occurrences" = some m.cls := findClass_of_methodNamed Bd.named
  have hnm := (name_of_methodNamed Bd.named Bd.method).1
  have X0 : Stand p l e ({ frames := 1, cells := 2, slots := 36, locals := 14 } : Room) (s.setVm s.vm) m #[(.ref a0), (.ref a1), (.int p2)] below meth c s₁ [] 0 0 := Stand.of_body Bd
  have e0 : s₁.heap = h0 := by rw [← hh, Bd.state]; rfl
  have N0 := Fr.nil n0
  have hEL := own_EW hw
  have wS := own_wS hw
  have hS0 : s.Since s.vm 0 := (State.WarmedH.refl s).since 0
  have pre0 : ∀ t, Steps p.tables e below (s₁.setTop (mkF m 0 #[.val (.ref a0), .val (.ref a1), .val (.int p2)] [])) t → Steps p.tables e below (s₁.setTop (entryFrame m #[(.ref a0), (.ref a1), (.int p2)] 3)) t := fun t k => castTop (ef_5 m a0 a1 p2 ) k
  obtain ⟨T1, X1, e1, st1⟩ := initO X0 hx hZ hown (hw _ (List.mem_of_getElem? (i := 32) rfl)) (hw _ (List.mem_of_getElem? (i := 16) rfl)) (hw _ (List.mem_of_getElem? (i := 17) rfl)) e0 (g := (mkF m 1 #[.val (.ref a0), .val (.ref a1), .val (.int p2)] [(.ref a0)])) rfl (by rw [hml]; rfl) rfl (hb hby d5_1) (by decide) (W := 0) (by show 2 * 0 + _ ≤ _; exact Nat.le_of_eq rfl) (by decide)
  obtain ⟨lt2, T2, h2, kk2, X2, e2, E2, hS2, hk2, hZ2, hown2, hCq2, hL2, st2⟩ := ldcOH X1 hx hZ hown (hw _ (List.mem_of_getElem? (i := 33) rfl)) wS e1 hS0 (Nat.zero_le _) hEL H0 (g := (mkF m 6 #[.val (.ref a0), .val (.ref a1), .val (.int p2)] [(.ref a1), (.ref a0)])) rfl (hb hby d5_6) (n := 32) (by decide) (by decide) (by decide) (by decide)
  have CR2 := CHr.trans (CHr.refl H0) hCq2
  have K2 : Keep h0 h2 [a0] := Keep.ext (Keep.refl h0 [a0]) E2
  obtain ⟨_, _, ⟨T3, L3, k3, n3⟩, -, X3, ⟨Lc3, hQ3, l3, y3, z3⟩, st3⟩ := Jvm.LawKit.callS X2 hx (y := (⟨"java/util/Objects", "requireNonNull", "(Ljava/lang/Object;Ljava/lang/String;)Ljava/lang/Object;"⟩ : MethodName)) hown2 (mvT hZ2 (hw _ (List.mem_of_getElem? (i := 34) rfl))) (mvT hZ2 (hw _ (List.mem_of_getElem? (i := 35) rfl))) (mvT hZ2 (hw _ (List.mem_of_getElem? (i := 36) rfl))) (mvT hZ2 (hw _ (List.mem_of_getElem? (i := 37) rfl))) (by decide) (backOf (W := 1) (rm6 l Z aw hw [] a1 lt2 h2 n0 (Nat.le_trans Z0 E2.1) ) hZ2 (hw _ (List.mem_of_getElem? (i := 37) rfl)) (hw _ (List.mem_of_getElem? (i := 36) rfl)) (by decide) (by decide)) (g := (mkF m 8 #[.val (.ref a0), .val (.ref a1), .val (.int p2)] [(.ref lt2), (.ref a1), (.ref a0)])) rfl (by rw [hml]; rfl) (argsL := [(.ref a1), (.ref lt2)]) (rest := [(.ref a0)]) (lenOf pd_9 rfl) rfl (by show 2 * 0 + _ ≤ _; exact Nat.le_of_eq rfl) (hb hby d5_8) (fun _ _ => ⟨rfl, e2, (by decide : 2 + 0 ≤ _), (by decide : 36 + 0 ≤ _)⟩)
  dsimp only [Pt.U, Pt.locs, Pt.cells, Pt.slots] at X3 l3 y3 z3 st3 hQ3
  subst l3 y3 z3
  obtain ⟨rfl, Nq3, e3⟩ := hQ3
  have N3 := Fr.app N0 Nq3
  obtain ⟨T4, X4, e4, st4⟩ := castY X3 hx hZ2 hown2 (hw _ (List.mem_of_getElem? (i := 38) rfl)) e3 (Ins.self (Exa_0.ext E2)) (g := (mkF m 11 #[.val (.ref a0), .val (.ref a1), .val (.int p2)] [(.ref a1), (.ref a0)])) rfl rfl (hb hby d5_11)
  obtain ⟨T5, h5, X5, e5, W5, st5⟩ := putF X4 hx hZ2 hown2 (host := "") (Or.inl (hw _ (List.mem_of_getElem? (i := 39) rfl))) Via.refl e4 (Fo_document_2.ext E2) (Exa_1.ext E2) (Or.inr ⟨(hw _ (List.mem_of_getElem? (i := 40) rfl)), rfl, hnm⟩) (hw _ (List.mem_of_getElem? (i := 27) rfl)) (ty := (.object "java/lang/String")) (by decide) rfl rfl (g := (mkF m 14 #[.val (.ref a0), .val (.ref a1), .val (.int p2)] [(.ref a1), (.ref a0)])) rfl rfl (hb hby d5_14)
  have Sa6 : Safe Z consts_1 T2.vm h2 a0 := Safe.exa (show Z.vm.Alike T2.vm from (hZ2).alike) (Exa_1.ext E2) (by decide) (by decide)
  have Fw5 := (Fo_document_2.ext E2).same W5
  have f7 := ((Exa_0.ext E2).wr W5)
  have f8 := ((Exa_1.ext E2).wr W5)
  have N5 := Fr.snoc X5 N3 g_a0
  have K5 : Keep h0 h5 [a0] := Keep.wr K2 W5 (Or.inl (List.mem_of_getElem? (i := 0) rfl))
  have CR5 := CHr.trans CR2 (CHr.wr W5 Sa6 hCq2.1)
  have CH5 := CHv.wr W5 Sa6 hCq2.1
  obtain ⟨T9, h9, X9, e9, W9, st9⟩ := putF X5 hx hZ2 hown2 (host := "") (Or.inl (hw _ (List.mem_of_getElem? (i := 41) rfl))) Via.refl e5 ((Fo_count_4.ext E2).other W5 (Or.inr (slot_ne (Or.inr (hw _ (List.mem_of_getElem? (i := 42) rfl))) (Or.inr (hw _ (List.mem_of_getElem? (i := 40) rfl))) (by decide) (t := .int) (t' := (.object "java/lang/String")) (by decide) (by decide)))) f8 (Or.inr ⟨(hw _ (List.mem_of_getElem? (i := 42) rfl)), rfl, hnm⟩) (hw _ (List.mem_of_getElem? (i := 27) rfl)) (ty := .int) (by decide) rfl rfl (g := (mkF m 19 #[.val (.ref a0), .val (.ref a1), .val (.int p2)] [(.int p2), (.ref a0)])) rfl rfl (hb hby d5_19)
  have Sa10 : Safe Z consts_1 T2.vm h5 a0 := (Safe.wr W5 Sa6 hCq2.1 Sa6)
  have Fw9 := ((Fo_count_4.ext E2).other W5 (Or.inr (slot_ne (Or.inr (hw _ (List.mem_of_getElem? (i := 42) rfl))) (Or.inr (hw _ (List.mem_of_getElem? (i := 40) rfl))) (by decide) (t := .int) (t' := (.object "java/lang/String")) (by decide) (by decide)))).same W9
  have f11 := (f7.wr W9)
  have f12 := (f8.wr W9)
  have f13 := (Fw5.other W9 (Or.inr (slot_ne (Or.inr (hw _ (List.mem_of_getElem? (i := 40) rfl))) (Or.inr (hw _ (List.mem_of_getElem? (i := 42) rfl))) (by decide) (t := (.object "java/lang/String")) (t' := .int) (by decide) (by decide))))
  have N9 := Fr.snoc X9 N5 g_a0
  have K9 : Keep h0 h9 [a0] := Keep.wr K5 W9 (Or.inl (List.mem_of_getElem? (i := 0) rfl))
  have CR9 := CHr.trans CR5 (CHr.wr W9 Sa10 CH5)
  have CH9 := CHv.wr W9 Sa10 CH5
  have pre14 : ∀ t, Steps p.tables e below (T9.setTop (mkF m 22 #[.val (.ref a0), .val (.ref a1), .val (.int p2)] [])) t → Steps p.tables e below (s₁.setTop (entryFrame m #[(.ref a0), (.ref a1), (.int p2)] 3)) t := fun t kt => pre0 t (by
      show Steps p.tables e below (s₁.setTop (mkF m 0 #[.val (.ref a0), .val (.ref a1), .val (.int p2)] [])) _
      refine XS.aloadN X0.here hx rfl (hb hby d5_0) rfl rfl ?_
      show Steps p.tables e below (s₁.setTop (mkF m 1 #[.val (.ref a0), .val (.ref a1), .val (.int p2)] [(.ref a0)])) _
      refine st1 _ ?_
      show Steps p.tables e below (T1.setTop (mkF m 4 #[.val (.ref a0), .val (.ref a1), .val (.int p2)] [])) _
      refine XS.aloadN X1.here hx rfl (hb hby d5_4) rfl rfl ?_
      show Steps p.tables e below (T1.setTop (mkF m 5 #[.val (.ref a0), .val (.ref a1), .val (.int p2)] [(.ref a0)])) _
      refine XS.aloadN X1.here hx rfl (hb hby d5_5) rfl rfl ?_
      show Steps p.tables e below (T1.setTop (mkF m 6 #[.val (.ref a0), .val (.ref a1), .val (.int p2)] [(.ref a1), (.ref a0)])) _
      refine st2 _ ?_
      show Steps p.tables e below (T2.setTop (mkF m 8 #[.val (.ref a0), .val (.ref a1), .val (.int p2)] [(.ref lt2), (.ref a1), (.ref a0)])) _
      refine st3 _ ?_
      show Steps p.tables e below (T3.setTop (mkF m 11 #[.val (.ref a0), .val (.ref a1), .val (.int p2)] [(.ref a1), (.ref a0)])) _
      refine st4 _ ?_
      show Steps p.tables e below (T4.setTop (mkF m 14 #[.val (.ref a0), .val (.ref a1), .val (.int p2)] [(.ref a1), (.ref a0)])) _
      refine st5 _ ?_
      show Steps p.tables e below (T5.setTop (mkF m 17 #[.val (.ref a0), .val (.ref a1), .val (.int p2)] [])) _
      refine XS.aloadN X5.here hx rfl (hb hby d5_17) rfl rfl ?_
      show Steps p.tables e below (T5.setTop (mkF m 18 #[.val (.ref a0), .val (.ref a1), .val (.int p2)] [(.ref a0)])) _
      refine XS.iloadN X5.here hx rfl (hb hby d5_18) rfl ?_
      show Steps p.tables e below (T5.setTop (mkF m 19 #[.val (.ref a0), .val (.ref a1), .val (.int p2)] [(.int p2), (.ref a0)])) _
      refine st9 _ ?_
      exact kt)
  obtain ⟨fs, hr, hrun, hended, hRE⟩ := X9.leaveW hS2 (by rw [e9]; exact (Nat.le_trans (Nat.le_trans hk2 (Keep.of_wr W5).1) (Keep.of_wr W9).1)) (v := none) (fun _ => rfl)
  have hCR : CHr Z consts_1 s.vm s.heap T9.vm T9.heap := by rw [e9, hh]; exact CHr.trans CR9 (CHv.at X9 hZ2 hEL CH9)
  refine ⟨_, _, pre14 _ ?_, hrun, hended, _, _, rfl, ?_, hCR, own_mono hRE (by decide) (by decide)⟩
  · show Steps p.tables e below (T9.setTop (mkF m 22 #[.val (.ref a0), .val (.ref a1), .val (.int p2)] [])) _
    exact X9.returnOut hx Bd.returns (hb hby d5_22) hr
  · show Q5 Z _ _ _ _ _ h0 n0 _ T9.heap _
    rw [e9]
    exact ⟨rfl, N9, K9, f12, f13, Fw9⟩
theorem d9_0 : decode jdk_43_method_13_code 0 = .ok (.aload_n 0, 1) := by decide +kernel
theorem d9_1 : decode jdk_43_method_13_code 1 = .ok (.arraylength, 1) := by decide +kernel
theorem d9_2 : decode jdk_43_method_13_code 2 = .ok (.aload_n 1, 1) := by decide +kernel
theorem d9_3 : decode jdk_43_method_13_code 3 = .ok (.arraylength, 1) := by decide +kernel
theorem d9_4 : decode jdk_43_method_13_code 4 = .ok (.if_icmp .ne 30, 3) := by decide +kernel
theorem d9_7 : decode jdk_43_method_13_code 7 = .ok (.iconst 0, 1) := by decide +kernel
theorem d9_8 : decode jdk_43_method_13_code 8 = .ok (.istore_n 2, 1) := by decide +kernel
theorem d9_9 : decode jdk_43_method_13_code 9 = .ok (.iload_n 2, 1) := by decide +kernel
theorem d9_10 : decode jdk_43_method_13_code 10 = .ok (.aload_n 0, 1) := by decide +kernel
theorem d9_11 : decode jdk_43_method_13_code 11 = .ok (.arraylength, 1) := by decide +kernel
theorem d9_12 : decode jdk_43_method_13_code 12 = .ok (.if_icmp .ge 20, 3) := by decide +kernel
theorem d9_15 : decode jdk_43_method_13_code 15 = .ok (.aload_n 0, 1) := by decide +kernel
theorem d9_16 : decode jdk_43_method_13_code 16 = .ok (.iload_n 2, 1) := by decide +kernel
theorem d9_17 : decode jdk_43_method_13_code 17 = .ok (.baload, 1) := by decide +kernel
theorem d9_18 : decode jdk_43_method_13_code 18 = .ok (.aload_n 1, 1) := by decide +kernel
theorem d9_19 : decode jdk_43_method_13_code 19 = .ok (.iload_n 2, 1) := by decide +kernel
theorem d9_20 : decode jdk_43_method_13_code 20 = .ok (.baload, 1) := by decide +kernel
theorem d9_21 : decode jdk_43_method_13_code 21 = .ok (.if_icmp .eq 5, 3) := by decide +kernel
theorem d9_24 : decode jdk_43_method_13_code 24 = .ok (.iconst 0, 1) := by decide +kernel
theorem d9_25 : decode jdk_43_method_13_code 25 = .ok (.ireturn, 1) := by decide +kernel
theorem d9_26 : decode jdk_43_method_13_code 26 = .ok (.iinc 2 1, 3) := by decide +kernel
theorem d9_29 : decode jdk_43_method_13_code 29 = .ok (.goto (-20), 3) := by decide +kernel
theorem d9_32 : decode jdk_43_method_13_code 32 = .ok (.iconst 1, 1) := by decide +kernel
theorem d9_33 : decode jdk_43_method_13_code 33 = .ok (.ireturn, 1) := by decide +kernel
theorem d9_34 : decode jdk_43_method_13_code 34 = .ok (.iconst 0, 1) := by decide +kernel
theorem d9_35 : decode jdk_43_method_13_code 35 = .ok (.ireturn, 1) := by decide +kernel
theorem ef_9 (m : MethodId) (x0 : Addr) (x1 : Addr)  : entryFrame m #[(.ref x0), (.ref x1)] 3 = mkF m 0 #[.val (.ref x0), .val (.ref x1), .unset] [] := by first | (simp [entryFrame, mkF, argsToLocals, Value.category]; done) | rfl
def Q9 (Z : State) (a0 : Addr) (a1 : Addr) (k1 : ClassId) (k2 : ClassId) (z1 : Int32) (z2 : Int32) (x0 : Int32) (x1 : Int32) (y0 : Int32) (y1 : Int32) (h0 : Heap) (n0 : Nat) (v : Option Value) (h : Heap) (L : List Loc) : Prop := (∃ (r : Int32), v = some (.int r) ∧ (((z1 = z2 ∧ (z1 < (1 : Int32) ∨ x0 = y0) ∧ (z1 < (2 : Int32) ∨ x1 = y1)) → (1 : Int32) = r) ∧ (¬ (z1 = z2 ∧ (z1 < (1 : Int32) ∨ x0 = y0) ∧ (z1 < (2 : Int32) ∨ x1 = y1)) → (0 : Int32) = r))) ∧ Fr n0 L ∧ h = h0
set_option maxRecDepth 65536 in
set_option maxHeartbeats 40000000 in
theorem rm9 (l : Launch) (Z : State) (aw : Array Value) (hw : ∀ d ∈ tables_1, d.before aw Z = true) (ws : List Jvm.Cond) (a0 : Addr) (a1 : Addr) (k1 : ClassId) (k2 : ClassId) (z1 : Int32) (z2 : Int32) (x0 : Int32) (x1 : Int32) (y0 : Int32) (y1 : Int32) (h0 : Heap) (n0 : Nat) (Z0 : n0 ≤ h0.size) (hz1 : (0 : Int32) = z1 ∨ (1 : Int32) = z1 ∨ (2 : Int32) = z1) (hc_x0 : own_c8 x0) (hc_x1 : own_c8 x1) (hc_y0 : own_c8 y0) (hc_y1 : own_c8 y1) (Arv_5 : Arv Z h0 a0 k1 .byte z1 (own_vs z1 x0 x1) (.int (0 : Int32))) (Arv_6 : Arv Z h0 a1 k2 .byte z2 (own_vs z2 y0 y1) (.int (0 : Int32))) :
    MetFree l (⟨"java/lang/StringLatin1", "equals", "([B[B)Z"⟩ : MethodName) (head1 (Jvm.Cond.code (⟨"java/lang/StringLatin1", "equals", "([B[B)Z"⟩ : MethodName) jdk_43_method_13_code 3 (some .boolean) :: ws) ({ frames := 0, cells := 0, slots := 0, locals := 0 } : Room)) (fun a U => a = #[(.ref a0), (.ref a1)] ∧ Z.Warmed39 U.vm ∧ U.heap = h0) (fun _ _ _ _ _ => True) (fun _ U o U' => ∃ v L, o = .returned v ∧ Q9 Z a0 a1 k1 k2 z1 z2 x0 x1 y0 y1 h0 n0 v U'.heap L ∧ FrameEnd U o U' L ({ frames := 0, cells := 0, slots := 0, locals := 0 } : Room).cells ({ frames := 0, cells := 0, slots := 0, locals := 0 } : Room).slots) := by
  refine MetFree.of_bodySF (plainFor_of_name pn_0) hisR ?_
  intro p e s m args below meth c s₁ Bd hml0 hP hK
  obtain ⟨rfl, hZ, hh⟩ := hP
  have hx := Bd.exec
  have hby := Bd.bytes
  have hml : c.maxLocals = 3 := hml0
  have hown : s.vm.findClass "java/lang/StringLatin1" = some m.cls := findClass_of_methodNamed Bd.named
  have hnm := (name_of_methodNamed Bd.named Bd.method).1
  have X0 : Stand p l e ({ frames := 0, cells := 0, slots := 0, locals := 0 } : Room) s m #[(.ref a0), (.ref a1)] below meth c s₁ [] 0 0 := Stand.of_body Bd
  have e0 : s₁.heap = h0 := by rw [← hh, Bd.state]; rfl
  have N0 := Fr.nil n0
  have pre0 : ∀ t, Steps p.tables e below (s₁.setTop (mkF m 0 #[.val (.ref a0), .val (.ref a1), .unset] [])) t → Steps p.tables e below (s₁.setTop (entryFrame m #[(.ref a0), (.ref a1)] 3)) t := fun t k => castTop (ef_9 m a0 a1 ) k
  obtain ⟨co1, Ao1, qo1, So1, No1, Ho1, Go1⟩ := id Arv_5
  obtain ⟨co2, Ao2, qo2, So2, No2, Ho2, Go2⟩ := id Arv_6
  have pre3 : ∀ t, Steps p.tables e below (s₁.setTop (mkF m 4 #[.val (.ref a0), .val (.ref a1), .unset] [(.int z2), (.int z1)])) t → Steps p.tables e below (s₁.setTop (entryFrame m #[(.ref a0), (.ref a1)] 3)) t := fun t kt => pre0 t (by
      show Steps p.tables e below (s₁.setTop (mkF m 0 #[.val (.ref a0), .val (.ref a1), .unset] [])) _
      refine XS.aloadN X0.here hx rfl (hb hby d9_0) rfl rfl ?_
      show Steps p.tables e below (s₁.setTop (mkF m 1 #[.val (.ref a0), .val (.ref a1), .unset] [(.ref a0)])) _
      refine X0.arraylength hx (by rw [e0]; exact Ao1.1) (State.isArrayOf_alike hZ.alike Ao1.2.1) (g := (mkF m 1 #[.val (.ref a0), .val (.ref a1), .unset] [(.ref a0)])) rfl rfl (hb hby d9_1) _ ?_
      rw [len_of So1 No1]
      show Steps p.tables e below (s₁.setTop (mkF m 2 #[.val (.ref a0), .val (.ref a1), .unset] [(.int z1)])) _
      refine XS.aloadN X0.here hx rfl (hb hby d9_2) rfl rfl ?_
      show Steps p.tables e below (s₁.setTop (mkF m 3 #[.val (.ref a0), .val (.ref a1), .unset] [(.ref a1), (.int z1)])) _
      refine X0.arraylength hx (by rw [e0]; exact Ao2.1) (State.isArrayOf_alike hZ.alike Ao2.2.1) (g := (mkF m 3 #[.val (.ref a0), .val (.ref a1), .unset] [(.ref a1), (.int z1)])) rfl rfl (hb hby d9_3) _ ?_
      rw [len_of So2 No2]
      exact kt)
  by_cases hc4 : z1 = z2
  · skip
    have pre5 : ∀ t, Steps p.tables e below (s₁.setTop (mkF m 7 #[.val (.ref a0), .val (.ref a1), .unset] [])) t → Steps p.tables e below (s₁.setTop (entryFrame m #[(.ref a0), (.ref a1)] 3)) t := fun t kt => pre3 t (by
        show Steps p.tables e below (s₁.setTop (mkF m 4 #[.val (.ref a0), .val (.ref a1), .unset] [(.int z2), (.int z1)])) _
        refine XS.icmpNo X0.here hx rfl (hb hby d9_4) rfl (teq hc4).2 ?_
        exact kt)
    obtain rfl := hc4
    rcases hz1 with rfl | rfl | rfl
    · skip
      have V6 : Arv Z h0 a0 k1 .byte (0 : Int32) [] (.int (0 : Int32)) := own_vs0 x0 x1 ▸ Arv_5
      have V7 : Arv Z h0 a1 k2 .byte (0 : Int32) [] (.int (0 : Int32)) := own_vs0 y0 y1 ▸ Arv_6
      obtain ⟨co8, Ao8, qo8, So8, No8, Ho8, Go8⟩ := id V6
      have pre9 : ∀ t, Steps p.tables e below (s₁.setTop (mkF m 33 #[.val (.ref a0), .val (.ref a1), .val (.int (0 : Int32))] [(.int (1 : Int32))])) t → Steps p.tables e below (s₁.setTop (entryFrame m #[(.ref a0), (.ref a1)] 3)) t := fun t kt => pre5 t (by
          show Steps p.tables e below (s₁.setTop (mkF m 7 #[.val (.ref a0), .val (.ref a1), .unset] [])) _
          refine XS.iconst X0.here hx rfl (hb hby d9_7) ?_
          show Steps p.tables e below (s₁.setTop (mkF m 8 #[.val (.ref a0), .val (.ref a1), .unset] [(.int (0 : Int32))])) _
          refine XS.istoreN X0.here hx rfl (hb hby d9_8) rfl (l' := #[.val (.ref a0), .val (.ref a1), .val (.int (0 : Int32))]) rfl ?_
          show Steps p.tables e below (s₁.setTop (mkF m 9 #[.val (.ref a0), .val (.ref a1), .val (.int (0 : Int32))] [])) _
          refine XS.iloadN X0.here hx rfl (hb hby d9_9) rfl ?_
          show Steps p.tables e below (s₁.setTop (mkF m 10 #[.val (.ref a0), .val (.ref a1), .val (.int (0 : Int32))] [(.int (0 : Int32))])) _
          refine XS.aloadN X0.here hx rfl (hb hby d9_10) rfl rfl ?_
          show Steps p.tables e below (s₁.setTop (mkF m 11 #[.val (.ref a0), .val (.ref a1), .val (.int (0 : Int32))] [(.ref a0), (.int (0 : Int32))])) _
          refine X0.arraylength hx (by rw [e0]; exact Ao8.1) (State.isArrayOf_alike hZ.alike Ao8.2.1) (g := (mkF m 11 #[.val (.ref a0), .val (.ref a1), .val (.int (0 : Int32))] [(.ref a0), (.int (0 : Int32))])) rfl rfl (hb hby d9_11) _ ?_
          rw [len_of So8 No8]
          show Steps p.tables e below (s₁.setTop (mkF m 12 #[.val (.ref a0), .val (.ref a1), .val (.int (0 : Int32))] [(.int (0 : Int32)), (.int (0 : Int32))])) _
          refine XS.icmpYes X0.here hx rfl (pc0 := 12) (pc' := 32) rfl (hb hby d9_12) rfl (flt (fun z => Int32.lt_irrefl z)).2.1 (by decide) (by decide) ?_
          show Steps p.tables e below (s₁.setTop (mkF m 32 #[.val (.ref a0), .val (.ref a1), .val (.int (0 : Int32))] [])) _
          refine XS.iconst X0.here hx rfl (hb hby d9_32) ?_
          exact kt)
      obtain ⟨fs, hr, hrun, hended, hW, hsame⟩ := X0.leave (v := some (.int (1 : Int32))) (fun h => by rw [Bd.returns] at h; cases h)
      refine ⟨_, _, pre9 _ ?_, hrun, hended, _, _, rfl, ?_, ⟨_, rfl⟩, hW, hsame.mono (by decide) (by decide)⟩
      · show Steps p.tables e below (s₁.setTop (mkF m 33 #[.val (.ref a0), .val (.ref a1), .val (.int (0 : Int32))] [(.int (1 : Int32))])) _
        exact retN X0 hx (t := .boolean) Bd.returns (by simp) (hb hby d9_33) hr
      · show Q9 Z _ _ _ _ _ _ _ _ _ _ h0 n0 _ s₁.heap _
        rw [e0]
        exact ⟨⟨_, rfl, ⟨fun _ => rfl, fun n => absurd ⟨rfl, Or.inl (by decide), Or.inl (by decide)⟩ n⟩⟩, N0, rfl⟩
    · skip
      have V10 : Arv Z h0 a0 k1 .byte (1 : Int32) [(.int ((x0.toInt8.toInt32)).toInt8.toInt32)] (.int (0 : Int32)) := own_vs1 x0 x1 ▸ Arv_5
      have V11 : Arv Z h0 a1 k2 .byte (1 : Int32) [(.int ((y0.toInt8.toInt32)).toInt8.toInt32)] (.int (0 : Int32)) := own_vs1 y0 y1 ▸ Arv_6
      obtain ⟨co12, Ao12, qo12, So12, No12, Ho12, Go12⟩ := id V10
      obtain ⟨co13, Ao13, qo13, So13, No13, Ho13, Go13⟩ := id V10
      have hin14 : ¬ ((0 : Int32) < 0 ∨ co13.slots.size ≤ ((0 : Int32)).toNatClampNeg) := inb_of So13 ⟨by decide, by decide⟩
      have hat15 : co13.slots[((0 : Int32)).toNatClampNeg]? = some (.int ((x0.toInt8.toInt32)).toInt8.toInt32) := Has.at Ho13 hin14 rfl
      obtain ⟨co16, Ao16, qo16, So16, No16, Ho16, Go16⟩ := id V11
      have hin17 : ¬ ((0 : Int32) < 0 ∨ co16.slots.size ≤ ((0 : Int32)).toNatClampNeg) := inb_of So16 ⟨by decide, by decide⟩
      have hat18 : co16.slots[((0 : Int32)).toNatClampNeg]? = some (.int ((y0.toInt8.toInt32)).toInt8.toInt32) := Has.at Ho16 hin17 rfl
      have pre19 : ∀ t, Steps p.tables e below (s₁.setTop (mkF m 21 #[.val (.ref a0), .val (.ref a1), .val (.int (0 : Int32))] [(.int ((y0.toInt8.toInt32)).toInt8.toInt32), (.int ((x0.toInt8.toInt32)).toInt8.toInt32)])) t → Steps p.tables e below (s₁.setTop (entryFrame m #[(.ref a0), (.ref a1)] 3)) t := fun t kt => pre5 t (by
          show Steps p.tables e below (s₁.setTop (mkF m 7 #[.val (.ref a0), .val (.ref a1), .unset] [])) _
          refine XS.iconst X0.here hx rfl (hb hby d9_7) ?_
          show Steps p.tables e below (s₁.setTop (mkF m 8 #[.val (.ref a0), .val (.ref a1), .unset] [(.int (0 : Int32))])) _
          refine XS.istoreN X0.here hx rfl (hb hby d9_8) rfl (l' := #[.val (.ref a0), .val (.ref a1), .val (.int (0 : Int32))]) rfl ?_
          show Steps p.tables e below (s₁.setTop (mkF m 9 #[.val (.ref a0), .val (.ref a1), .val (.int (0 : Int32))] [])) _
          refine XS.iloadN X0.here hx rfl (hb hby d9_9) rfl ?_
          show Steps p.tables e below (s₁.setTop (mkF m 10 #[.val (.ref a0), .val (.ref a1), .val (.int (0 : Int32))] [(.int (0 : Int32))])) _
          refine XS.aloadN X0.here hx rfl (hb hby d9_10) rfl rfl ?_
          show Steps p.tables e below (s₁.setTop (mkF m 11 #[.val (.ref a0), .val (.ref a1), .val (.int (0 : Int32))] [(.ref a0), (.int (0 : Int32))])) _
          refine X0.arraylength hx (by rw [e0]; exact Ao12.1) (State.isArrayOf_alike hZ.alike Ao12.2.1) (g := (mkF m 11 #[.val (.ref a0), .val (.ref a1), .val (.int (0 : Int32))] [(.ref a0), (.int (0 : Int32))])) rfl rfl (hb hby d9_11) _ ?_
          rw [len_of So12 No12]
          show Steps p.tables e below (s₁.setTop (mkF m 12 #[.val (.ref a0), .val (.ref a1), .val (.int (0 : Int32))] [(.int (1 : Int32)), (.int (0 : Int32))])) _
          refine XS.icmpNo X0.here hx rfl (hb hby d9_12) rfl (tlt (by decide : (0 : Int32) < (1 : Int32))).2.1 ?_
          show Steps p.tables e below (s₁.setTop (mkF m 15 #[.val (.ref a0), .val (.ref a1), .val (.int (0 : Int32))] [])) _
          refine XS.aloadN X0.here hx rfl (hb hby d9_15) rfl rfl ?_
          show Steps p.tables e below (s₁.setTop (mkF m 16 #[.val (.ref a0), .val (.ref a1), .val (.int (0 : Int32))] [(.ref a0)])) _
          refine XS.iloadN X0.here hx rfl (hb hby d9_16) rfl ?_
          show Steps p.tables e below (s₁.setTop (mkF m 17 #[.val (.ref a0), .val (.ref a1), .val (.int (0 : Int32))] [(.int (0 : Int32)), (.ref a0)])) _
          refine X0.baloadBytes hx (j := (0 : Int32)) (v := (.int ((x0.toInt8.toInt32)).toInt8.toInt32)) (by rw [e0]; exact Ao13.1) (State.isArrayOf_alike hZ.alike Ao13.2.1) Ao13.2.2 hin14 hat15 (g := (mkF m 17 #[.val (.ref a0), .val (.ref a1), .val (.int (0 : Int32))] [(.int (0 : Int32)), (.ref a0)])) rfl rfl (hb hby d9_17) _ ?_
          show Steps p.tables e below (s₁.setTop (mkF m 18 #[.val (.ref a0), .val (.ref a1), .val (.int (0 : Int32))] [(.int ((x0.toInt8.toInt32)).toInt8.toInt32)])) _
          refine XS.aloadN X0.here hx rfl (hb hby d9_18) rfl rfl ?_
          show Steps p.tables e below (s₁.setTop (mkF m 19 #[.val (.ref a0), .val (.ref a1), .val (.int (0 : Int32))] [(.ref a1), (.int ((x0.toInt8.toInt32)).toInt8.toInt32)])) _
          refine XS.iloadN X0.here hx rfl (hb hby d9_19) rfl ?_
          show Steps p.tables e below (s₁.setTop (mkF m 20 #[.val (.ref a0), .val (.ref a1), .val (.int (0 : Int32))] [(.int (0 : Int32)), (.ref a1), (.int ((x0.toInt8.toInt32)).toInt8.toInt32)])) _
          refine X0.baloadBytes hx (j := (0 : Int32)) (v := (.int ((y0.toInt8.toInt32)).toInt8.toInt32)) (by rw [e0]; exact Ao16.1) (State.isArrayOf_alike hZ.alike Ao16.2.1) Ao16.2.2 hin17 hat18 (g := (mkF m 20 #[.val (.ref a0), .val (.ref a1), .val (.int (0 : Int32))] [(.int (0 : Int32)), (.ref a1), (.int ((x0.toInt8.toInt32)).toInt8.toInt32)])) rfl rfl (hb hby d9_20) _ ?_
          exact kt)
      by_cases hc20 : ((x0.toInt8.toInt32)).toInt8.toInt32 = ((y0.toInt8.toInt32)).toInt8.toInt32
      · skip
        obtain ⟨co21, Ao21, qo21, So21, No21, Ho21, Go21⟩ := id V10
        have pre22 : ∀ t, Steps p.tables e below (s₁.setTop (mkF m 33 #[.val (.ref a0), .val (.ref a1), .val (.int (1 : Int32))] [(.int (1 : Int32))])) t → Steps p.tables e below (s₁.setTop (entryFrame m #[(.ref a0), (.ref a1)] 3)) t := fun t kt => pre19 t (by
            show Steps p.tables e below (s₁.setTop (mkF m 21 #[.val (.ref a0), .val (.ref a1), .val (.int (0 : Int32))] [(.int ((y0.toInt8.toInt32)).toInt8.toInt32), (.int ((x0.toInt8.toInt32)).toInt8.toInt32)])) _
            refine XS.icmpYes X0.here hx rfl (pc0 := 21) (pc' := 26) rfl (hb hby d9_21) rfl (teq hc20).1 (by decide) (by decide) ?_
            show Steps p.tables e below (s₁.setTop (mkF m 26 #[.val (.ref a0), .val (.ref a1), .val (.int (0 : Int32))] [])) _
            refine XS.iinc X0.here hx rfl (hb hby d9_26) rfl (l' := #[.val (.ref a0), .val (.ref a1), .val (.int (1 : Int32))]) rfl ?_
            show Steps p.tables e below (s₁.setTop (mkF m 29 #[.val (.ref a0), .val (.ref a1), .val (.int (1 : Int32))] [])) _
            refine XS.goto X0.here hx rfl (pc0 := 29) (pc' := 9) rfl (hb hby d9_29) (by decide) (by decide) ?_
            show Steps p.tables e below (s₁.setTop (mkF m 9 #[.val (.ref a0), .val (.ref a1), .val (.int (1 : Int32))] [])) _
            refine XS.iloadN X0.here hx rfl (hb hby d9_9) rfl ?_
            show Steps p.tables e below (s₁.setTop (mkF m 10 #[.val (.ref a0), .val (.ref a1), .val (.int (1 : Int32))] [(.int (1 : Int32))])) _
            refine XS.aloadN X0.here hx rfl (hb hby d9_10) rfl rfl ?_
            show Steps p.tables e below (s₁.setTop (mkF m 11 #[.val (.ref a0), .val (.ref a1), .val (.int (1 : Int32))] [(.ref a0), (.int (1 : Int32))])) _
            refine X0.arraylength hx (by rw [e0]; exact Ao21.1) (State.isArrayOf_alike hZ.alike Ao21.2.1) (g := (mkF m 11 #[.val (.ref a0), .val (.ref a1), .val (.int (1 : Int32))] [(.ref a0), (.int (1 : Int32))])) rfl rfl (hb hby d9_11) _ ?_
            rw [len_of So21 No21]
            show Steps p.tables e below (s₁.setTop (mkF m 12 #[.val (.ref a0), .val (.ref a1), .val (.int (1 : Int32))] [(.int (1 : Int32)), (.int (1 : Int32))])) _
            refine XS.icmpYes X0.here hx rfl (pc0 := 12) (pc' := 32) rfl (hb hby d9_12) rfl (flt (fun z => Int32.lt_irrefl z)).2.1 (by decide) (by decide) ?_
            show Steps p.tables e below (s₁.setTop (mkF m 32 #[.val (.ref a0), .val (.ref a1), .val (.int (1 : Int32))] [])) _
            refine XS.iconst X0.here hx rfl (hb hby d9_32) ?_
            exact kt)
        obtain ⟨fs, hr, hrun, hended, hW, hsame⟩ := X0.leave (v := some (.int (1 : Int32))) (fun h => by rw [Bd.returns] at h; cases h)
        refine ⟨_, _, pre22 _ ?_, hrun, hended, _, _, rfl, ?_, ⟨_, rfl⟩, hW, hsame.mono (by decide) (by decide)⟩
        · show Steps p.tables e below (s₁.setTop (mkF m 33 #[.val (.ref a0), .val (.ref a1), .val (.int (1 : Int32))] [(.int (1 : Int32))])) _
          exact retN X0 hx (t := .boolean) Bd.returns (by simp) (hb hby d9_33) hr
        · show Q9 Z _ _ _ _ _ _ _ _ _ _ h0 n0 _ s₁.heap _
          rw [e0]
          exact ⟨⟨_, rfl, ⟨fun _ => rfl, fun n => absurd ⟨rfl, Or.inr ((own_b8 hc_x0 hc_y0).mp hc20), Or.inl (by decide)⟩ n⟩⟩, N0, rfl⟩
      · skip
        have pre23 : ∀ t, Steps p.tables e below (s₁.setTop (mkF m 25 #[.val (.ref a0), .val (.ref a1), .val (.int (0 : Int32))] [(.int (0 : Int32))])) t → Steps p.tables e below (s₁.setTop (entryFrame m #[(.ref a0), (.ref a1)] 3)) t := fun t kt => pre19 t (by
            show Steps p.tables e below (s₁.setTop (mkF m 21 #[.val (.ref a0), .val (.ref a1), .val (.int (0 : Int32))] [(.int ((y0.toInt8.toInt32)).toInt8.toInt32), (.int ((x0.toInt8.toInt32)).toInt8.toInt32)])) _
            refine XS.icmpNo X0.here hx rfl (hb hby d9_21) rfl (feq hc20).1 ?_
            show Steps p.tables e below (s₁.setTop (mkF m 24 #[.val (.ref a0), .val (.ref a1), .val (.int (0 : Int32))] [])) _
            refine XS.iconst X0.here hx rfl (hb hby d9_24) ?_
            exact kt)
        obtain ⟨fs, hr, hrun, hended, hW, hsame⟩ := X0.leave (v := some (.int (0 : Int32))) (fun h => by rw [Bd.returns] at h; cases h)
        refine ⟨_, _, pre23 _ ?_, hrun, hended, _, _, rfl, ?_, ⟨_, rfl⟩, hW, hsame.mono (by decide) (by decide)⟩
        · show Steps p.tables e below (s₁.setTop (mkF m 25 #[.val (.ref a0), .val (.ref a1), .val (.int (0 : Int32))] [(.int (0 : Int32))])) _
          exact retN X0 hx (t := .boolean) Bd.returns (by simp) (hb hby d9_25) hr
        · show Q9 Z _ _ _ _ _ _ _ _ _ _ h0 n0 _ s₁.heap _
          rw [e0]
          exact ⟨⟨_, rfl, ⟨fun c => absurd (c.2.1.resolve_left (by decide)) (fun q => hc20 ((own_b8 hc_x0 hc_y0).mpr q)), fun _ => rfl⟩⟩, N0, rfl⟩
    · skip
      have V24 : Arv Z h0 a0 k1 .byte (2 : Int32) [(.int ((x0.toInt8.toInt32)).toInt8.toInt32), (.int ((x1.toInt8.toInt32)).toInt8.toInt32)] (.int (0 : Int32)) := own_vs2 x0 x1 ▸ Arv_5
      have V25 : Arv Z h0 a1 k2 .byte (2 : Int32) [(.int ((y0.toInt8.toInt32)).toInt8.toInt32), (.int ((y1.toInt8.toInt32)).toInt8.toInt32)] (.int (0 : Int32)) := own_vs2 y0 y1 ▸ Arv_6
      obtain ⟨co26, Ao26, qo26, So26, No26, Ho26, Go26⟩ := id V24
      obtain ⟨co27, Ao27, qo27, So27, No27, Ho27, Go27⟩ := id V24
      have hin28 : ¬ ((0 : Int32) < 0 ∨ co27.slots.size ≤ ((0 : Int32)).toNatClampNeg) := inb_of So27 ⟨by decide, by decide⟩
      have hat29 : co27.slots[((0 : Int32)).toNatClampNeg]? = some (.int ((x0.toInt8.toInt32)).toInt8.toInt32) := Has.at Ho27 hin28 rfl
      obtain ⟨co30, Ao30, qo30, So30, No30, Ho30, Go30⟩ := id V25
      have hin31 : ¬ ((0 : Int32) < 0 ∨ co30.slots.size ≤ ((0 : Int32)).toNatClampNeg) := inb_of So30 ⟨by decide, by decide⟩
      have hat32 : co30.slots[((0 : Int32)).toNatClampNeg]? = some (.int ((y0.toInt8.toInt32)).toInt8.toInt32) := Has.at Ho30 hin31 rfl
      have pre33 : ∀ t, Steps p.tables e below (s₁.setTop (mkF m 21 #[.val (.ref a0), .val (.ref a1), .val (.int (0 : Int32))] [(.int ((y0.toInt8.toInt32)).toInt8.toInt32), (.int ((x0.toInt8.toInt32)).toInt8.toInt32)])) t → Steps p.tables e below (s₁.setTop (entryFrame m #[(.ref a0), (.ref a1)] 3)) t := fun t kt => pre5 t (by
          show Steps p.tables e below (s₁.setTop (mkF m 7 #[.val (.ref a0), .val (.ref a1), .unset] [])) _
          refine XS.iconst X0.here hx rfl (hb hby d9_7) ?_
          show Steps p.tables e below (s₁.setTop (mkF m 8 #[.val (.ref a0), .val (.ref a1), .unset] [(.int (0 : Int32))])) _
          refine XS.istoreN X0.here hx rfl (hb hby d9_8) rfl (l' := #[.val (.ref a0), .val (.ref a1), .val (.int (0 : Int32))]) rfl ?_
          show Steps p.tables e below (s₁.setTop (mkF m 9 #[.val (.ref a0), .val (.ref a1), .val (.int (0 : Int32))] [])) _
          refine XS.iloadN X0.here hx rfl (hb hby d9_9) rfl ?_
          show Steps p.tables e below (s₁.setTop (mkF m 10 #[.val (.ref a0), .val (.ref a1), .val (.int (0 : Int32))] [(.int (0 : Int32))])) _
          refine XS.aloadN X0.here hx rfl (hb hby d9_10) rfl rfl ?_
          show Steps p.tables e below (s₁.setTop (mkF m 11 #[.val (.ref a0), .val (.ref a1), .val (.int (0 : Int32))] [(.ref a0), (.int (0 : Int32))])) _
          refine X0.arraylength hx (by rw [e0]; exact Ao26.1) (State.isArrayOf_alike hZ.alike Ao26.2.1) (g := (mkF m 11 #[.val (.ref a0), .val (.ref a1), .val (.int (0 : Int32))] [(.ref a0), (.int (0 : Int32))])) rfl rfl (hb hby d9_11) _ ?_
          rw [len_of So26 No26]
          show Steps p.tables e below (s₁.setTop (mkF m 12 #[.val (.ref a0), .val (.ref a1), .val (.int (0 : Int32))] [(.int (2 : Int32)), (.int (0 : Int32))])) _
          refine XS.icmpNo X0.here hx rfl (hb hby d9_12) rfl (tlt (by decide : (0 : Int32) < (2 : Int32))).2.1 ?_
          show Steps p.tables e below (s₁.setTop (mkF m 15 #[.val (.ref a0), .val (.ref a1), .val (.int (0 : Int32))] [])) _
          refine XS.aloadN X0.here hx rfl (hb hby d9_15) rfl rfl ?_
          show Steps p.tables e below (s₁.setTop (mkF m 16 #[.val (.ref a0), .val (.ref a1), .val (.int (0 : Int32))] [(.ref a0)])) _
          refine XS.iloadN X0.here hx rfl (hb hby d9_16) rfl ?_
          show Steps p.tables e below (s₁.setTop (mkF m 17 #[.val (.ref a0), .val (.ref a1), .val (.int (0 : Int32))] [(.int (0 : Int32)), (.ref a0)])) _
          refine X0.baloadBytes hx (j := (0 : Int32)) (v := (.int ((x0.toInt8.toInt32)).toInt8.toInt32)) (by rw [e0]; exact Ao27.1) (State.isArrayOf_alike hZ.alike Ao27.2.1) Ao27.2.2 hin28 hat29 (g := (mkF m 17 #[.val (.ref a0), .val (.ref a1), .val (.int (0 : Int32))] [(.int (0 : Int32)), (.ref a0)])) rfl rfl (hb hby d9_17) _ ?_
          show Steps p.tables e below (s₁.setTop (mkF m 18 #[.val (.ref a0), .val (.ref a1), .val (.int (0 : Int32))] [(.int ((x0.toInt8.toInt32)).toInt8.toInt32)])) _
          refine XS.aloadN X0.here hx rfl (hb hby d9_18) rfl rfl ?_
          show Steps p.tables e below (s₁.setTop (mkF m 19 #[.val (.ref a0), .val (.ref a1), .val (.int (0 : Int32))] [(.ref a1), (.int ((x0.toInt8.toInt32)).toInt8.toInt32)])) _
          refine XS.iloadN X0.here hx rfl (hb hby d9_19) rfl ?_
          show Steps p.tables e below (s₁.setTop (mkF m 20 #[.val (.ref a0), .val (.ref a1), .val (.int (0 : Int32))] [(.int (0 : Int32)), (.ref a1), (.int ((x0.toInt8.toInt32)).toInt8.toInt32)])) _
          refine X0.baloadBytes hx (j := (0 : Int32)) (v := (.int ((y0.toInt8.toInt32)).toInt8.toInt32)) (by rw [e0]; exact Ao30.1) (State.isArrayOf_alike hZ.alike Ao30.2.1) Ao30.2.2 hin31 hat32 (g := (mkF m 20 #[.val (.ref a0), .val (.ref a1), .val (.int (0 : Int32))] [(.int (0 : Int32)), (.ref a1), (.int ((x0.toInt8.toInt32)).toInt8.toInt32)])) rfl rfl (hb hby d9_20) _ ?_
          exact kt)
      by_cases hc34 : ((x0.toInt8.toInt32)).toInt8.toInt32 = ((y0.toInt8.toInt32)).toInt8.toInt32
      · skip
        obtain ⟨co35, Ao35, qo35, So35, No35, Ho35, Go35⟩ := id V24
        obtain ⟨co36, Ao36, qo36, So36, No36, Ho36, Go36⟩ := id V24
        have hin37 : ¬ ((1 : Int32) < 0 ∨ co36.slots.size ≤ ((1 : Int32)).toNatClampNeg) := inb_of So36 ⟨by decide, by decide⟩
        have hat38 : co36.slots[((1 : Int32)).toNatClampNeg]? = some (.int ((x1.toInt8.toInt32)).toInt8.toInt32) := Has.at Ho36 hin37 rfl
        obtain ⟨co39, Ao39, qo39, So39, No39, Ho39, Go39⟩ := id V25
        have hin40 : ¬ ((1 : Int32) < 0 ∨ co39.slots.size ≤ ((1 : Int32)).toNatClampNeg) := inb_of So39 ⟨by decide, by decide⟩
        have hat41 : co39.slots[((1 : Int32)).toNatClampNeg]? = some (.int ((y1.toInt8.toInt32)).toInt8.toInt32) := Has.at Ho39 hin40 rfl
        have pre42 : ∀ t, Steps p.tables e below (s₁.setTop (mkF m 21 #[.val (.ref a0), .val (.ref a1), .val (.int (1 : Int32))] [(.int ((y1.toInt8.toInt32)).toInt8.toInt32), (.int ((x1.toInt8.toInt32)).toInt8.toInt32)])) t → Steps p.tables e below (s₁.setTop (entryFrame m #[(.ref a0), (.ref a1)] 3)) t := fun t kt => pre33 t (by
            show Steps p.tables e below (s₁.setTop (mkF m 21 #[.val (.ref a0), .val (.ref a1), .val (.int (0 : Int32))] [(.int ((y0.toInt8.toInt32)).toInt8.toInt32), (.int ((x0.toInt8.toInt32)).toInt8.toInt32)])) _
            refine XS.icmpYes X0.here hx rfl (pc0 := 21) (pc' := 26) rfl (hb hby d9_21) rfl (teq hc34).1 (by decide) (by decide) ?_
            show Steps p.tables e below (s₁.setTop (mkF m 26 #[.val (.ref a0), .val (.ref a1), .val (.int (0 : Int32))] [])) _
            refine XS.iinc X0.here hx rfl (hb hby d9_26) rfl (l' := #[.val (.ref a0), .val (.ref a1), .val (.int (1 : Int32))]) rfl ?_
            show Steps p.tables e below (s₁.setTop (mkF m 29 #[.val (.ref a0), .val (.ref a1), .val (.int (1 : Int32))] [])) _
            refine XS.goto X0.here hx rfl (pc0 := 29) (pc' := 9) rfl (hb hby d9_29) (by decide) (by decide) ?_
            show Steps p.tables e below (s₁.setTop (mkF m 9 #[.val (.ref a0), .val (.ref a1), .val (.int (1 : Int32))] [])) _
            refine XS.iloadN X0.here hx rfl (hb hby d9_9) rfl ?_
            show Steps p.tables e below (s₁.setTop (mkF m 10 #[.val (.ref a0), .val (.ref a1), .val (.int (1 : Int32))] [(.int (1 : Int32))])) _
            refine XS.aloadN X0.here hx rfl (hb hby d9_10) rfl rfl ?_
            show Steps p.tables e below (s₁.setTop (mkF m 11 #[.val (.ref a0), .val (.ref a1), .val (.int (1 : Int32))] [(.ref a0), (.int (1 : Int32))])) _
            refine X0.arraylength hx (by rw [e0]; exact Ao35.1) (State.isArrayOf_alike hZ.alike Ao35.2.1) (g := (mkF m 11 #[.val (.ref a0), .val (.ref a1), .val (.int (1 : Int32))] [(.ref a0), (.int (1 : Int32))])) rfl rfl (hb hby d9_11) _ ?_
            rw [len_of So35 No35]
            show Steps p.tables e below (s₁.setTop (mkF m 12 #[.val (.ref a0), .val (.ref a1), .val (.int (1 : Int32))] [(.int (2 : Int32)), (.int (1 : Int32))])) _
            refine XS.icmpNo X0.here hx rfl (hb hby d9_12) rfl (tlt (by decide : (1 : Int32) < (2 : Int32))).2.1 ?_
            show Steps p.tables e below (s₁.setTop (mkF m 15 #[.val (.ref a0), .val (.ref a1), .val (.int (1 : Int32))] [])) _
            refine XS.aloadN X0.here hx rfl (hb hby d9_15) rfl rfl ?_
            show Steps p.tables e below (s₁.setTop (mkF m 16 #[.val (.ref a0), .val (.ref a1), .val (.int (1 : Int32))] [(.ref a0)])) _
            refine XS.iloadN X0.here hx rfl (hb hby d9_16) rfl ?_
            show Steps p.tables e below (s₁.setTop (mkF m 17 #[.val (.ref a0), .val (.ref a1), .val (.int (1 : Int32))] [(.int (1 : Int32)), (.ref a0)])) _
            refine X0.baloadBytes hx (j := (1 : Int32)) (v := (.int ((x1.toInt8.toInt32)).toInt8.toInt32)) (by rw [e0]; exact Ao36.1) (State.isArrayOf_alike hZ.alike Ao36.2.1) Ao36.2.2 hin37 hat38 (g := (mkF m 17 #[.val (.ref a0), .val (.ref a1), .val (.int (1 : Int32))] [(.int (1 : Int32)), (.ref a0)])) rfl rfl (hb hby d9_17) _ ?_
            show Steps p.tables e below (s₁.setTop (mkF m 18 #[.val (.ref a0), .val (.ref a1), .val (.int (1 : Int32))] [(.int ((x1.toInt8.toInt32)).toInt8.toInt32)])) _
            refine XS.aloadN X0.here hx rfl (hb hby d9_18) rfl rfl ?_
            show Steps p.tables e below (s₁.setTop (mkF m 19 #[.val (.ref a0), .val (.ref a1), .val (.int (1 : Int32))] [(.ref a1), (.int ((x1.toInt8.toInt32)).toInt8.toInt32)])) _
            refine XS.iloadN X0.here hx rfl (hb hby d9_19) rfl ?_
            show Steps p.tables e below (s₁.setTop (mkF m 20 #[.val (.ref a0), .val (.ref a1), .val (.int (1 : Int32))] [(.int (1 : Int32)), (.ref a1), (.int ((x1.toInt8.toInt32)).toInt8.toInt32)])) _
            refine X0.baloadBytes hx (j := (1 : Int32)) (v := (.int ((y1.toInt8.toInt32)).toInt8.toInt32)) (by rw [e0]; exact Ao39.1) (State.isArrayOf_alike hZ.alike Ao39.2.1) Ao39.2.2 hin40 hat41 (g := (mkF m 20 #[.val (.ref a0), .val (.ref a1), .val (.int (1 : Int32))] [(.int (1 : Int32)), (.ref a1), (.int ((x1.toInt8.toInt32)).toInt8.toInt32)])) rfl rfl (hb hby d9_20) _ ?_
            exact kt)
        by_cases hc43 : ((x1.toInt8.toInt32)).toInt8.toInt32 = ((y1.toInt8.toInt32)).toInt8.toInt32
        · skip
          obtain ⟨co44, Ao44, qo44, So44, No44, Ho44, Go44⟩ := id V24
          have pre45 : ∀ t, Steps p.tables e below (s₁.setTop (mkF m 33 #[.val (.ref a0), .val (.ref a1), .val (.int (2 : Int32))] [(.int (1 : Int32))])) t → Steps p.tables e below (s₁.setTop (entryFrame m #[(.ref a0), (.ref a1)] 3)) t := fun t kt => pre42 t (by
              show Steps p.tables e below (s₁.setTop (mkF m 21 #[.val (.ref a0), .val (.ref a1), .val (.int (1 : Int32))] [(.int ((y1.toInt8.toInt32)).toInt8.toInt32), (.int ((x1.toInt8.toInt32)).toInt8.toInt32)])) _
              refine XS.icmpYes X0.here hx rfl (pc0 := 21) (pc' := 26) rfl (hb hby d9_21) rfl (teq hc43).1 (by decide) (by decide) ?_
              show Steps p.tables e below (s₁.setTop (mkF m 26 #[.val (.ref a0), .val (.ref a1), .val (.int (1 : Int32))] [])) _
              refine XS.iinc X0.here hx rfl (hb hby d9_26) rfl (l' := #[.val (.ref a0), .val (.ref a1), .val (.int (2 : Int32))]) rfl ?_
              show Steps p.tables e below (s₁.setTop (mkF m 29 #[.val (.ref a0), .val (.ref a1), .val (.int (2 : Int32))] [])) _
              refine XS.goto X0.here hx rfl (pc0 := 29) (pc' := 9) rfl (hb hby d9_29) (by decide) (by decide) ?_
              show Steps p.tables e below (s₁.setTop (mkF m 9 #[.val (.ref a0), .val (.ref a1), .val (.int (2 : Int32))] [])) _
              refine XS.iloadN X0.here hx rfl (hb hby d9_9) rfl ?_
              show Steps p.tables e below (s₁.setTop (mkF m 10 #[.val (.ref a0), .val (.ref a1), .val (.int (2 : Int32))] [(.int (2 : Int32))])) _
              refine XS.aloadN X0.here hx rfl (hb hby d9_10) rfl rfl ?_
              show Steps p.tables e below (s₁.setTop (mkF m 11 #[.val (.ref a0), .val (.ref a1), .val (.int (2 : Int32))] [(.ref a0), (.int (2 : Int32))])) _
              refine X0.arraylength hx (by rw [e0]; exact Ao44.1) (State.isArrayOf_alike hZ.alike Ao44.2.1) (g := (mkF m 11 #[.val (.ref a0), .val (.ref a1), .val (.int (2 : Int32))] [(.ref a0), (.int (2 : Int32))])) rfl rfl (hb hby d9_11) _ ?_
              rw [len_of So44 No44]
              show Steps p.tables e below (s₁.setTop (mkF m 12 #[.val (.ref a0), .val (.ref a1), .val (.int (2 : Int32))] [(.int (2 : Int32)), (.int (2 : Int32))])) _
              refine XS.icmpYes X0.here hx rfl (pc0 := 12) (pc' := 32) rfl (hb hby d9_12) rfl (flt (fun z => Int32.lt_irrefl z)).2.1 (by decide) (by decide) ?_
              show Steps p.tables e below (s₁.setTop (mkF m 32 #[.val (.ref a0), .val (.ref a1), .val (.int (2 : Int32))] [])) _
              refine XS.iconst X0.here hx rfl (hb hby d9_32) ?_
              exact kt)
          obtain ⟨fs, hr, hrun, hended, hW, hsame⟩ := X0.leave (v := some (.int (1 : Int32))) (fun h => by rw [Bd.returns] at h; cases h)
          refine ⟨_, _, pre45 _ ?_, hrun, hended, _, _, rfl, ?_, ⟨_, rfl⟩, hW, hsame.mono (by decide) (by decide)⟩
          · show Steps p.tables e below (s₁.setTop (mkF m 33 #[.val (.ref a0), .val (.ref a1), .val (.int (2 : Int32))] [(.int (1 : Int32))])) _
            exact retN X0 hx (t := .boolean) Bd.returns (by simp) (hb hby d9_33) hr
          · show Q9 Z _ _ _ _ _ _ _ _ _ _ h0 n0 _ s₁.heap _
            rw [e0]
            exact ⟨⟨_, rfl, ⟨fun _ => rfl, fun n => absurd ⟨rfl, Or.inr ((own_b8 hc_x0 hc_y0).mp hc34), Or.inr ((own_b8 hc_x1 hc_y1).mp hc43)⟩ n⟩⟩, N0, rfl⟩
        · skip
          have pre46 : ∀ t, Steps p.tables e below (s₁.setTop (mkF m 25 #[.val (.ref a0), .val (.ref a1), .val (.int (1 : Int32))] [(.int (0 : Int32))])) t → Steps p.tables e below (s₁.setTop (entryFrame m #[(.ref a0), (.ref a1)] 3)) t := fun t kt => pre42 t (by
              show Steps p.tables e below (s₁.setTop (mkF m 21 #[.val (.ref a0), .val (.ref a1), .val (.int (1 : Int32))] [(.int ((y1.toInt8.toInt32)).toInt8.toInt32), (.int ((x1.toInt8.toInt32)).toInt8.toInt32)])) _
              refine XS.icmpNo X0.here hx rfl (hb hby d9_21) rfl (feq hc43).1 ?_
              show Steps p.tables e below (s₁.setTop (mkF m 24 #[.val (.ref a0), .val (.ref a1), .val (.int (1 : Int32))] [])) _
              refine XS.iconst X0.here hx rfl (hb hby d9_24) ?_
              exact kt)
          obtain ⟨fs, hr, hrun, hended, hW, hsame⟩ := X0.leave (v := some (.int (0 : Int32))) (fun h => by rw [Bd.returns] at h; cases h)
          refine ⟨_, _, pre46 _ ?_, hrun, hended, _, _, rfl, ?_, ⟨_, rfl⟩, hW, hsame.mono (by decide) (by decide)⟩
          · show Steps p.tables e below (s₁.setTop (mkF m 25 #[.val (.ref a0), .val (.ref a1), .val (.int (1 : Int32))] [(.int (0 : Int32))])) _
            exact retN X0 hx (t := .boolean) Bd.returns (by simp) (hb hby d9_25) hr
          · show Q9 Z _ _ _ _ _ _ _ _ _ _ h0 n0 _ s₁.heap _
            rw [e0]
            exact ⟨⟨_, rfl, ⟨fun c => absurd (c.2.2.resolve_left (by decide)) (fun q => hc43 ((own_b8 hc_x1 hc_y1).mpr q)), fun _ => rfl⟩⟩, N0, rfl⟩
      · skip
        have pre47 : ∀ t, Steps p.tables e below (s₁.setTop (mkF m 25 #[.val (.ref a0), .val (.ref a1), .val (.int (0 : Int32))] [(.int (0 : Int32))])) t → Steps p.tables e below (s₁.setTop (entryFrame m #[(.ref a0), (.ref a1)] 3)) t := fun t kt => pre33 t (by
            show Steps p.tables e below (s₁.setTop (mkF m 21 #[.val (.ref a0), .val (.ref a1), .val (.int (0 : Int32))] [(.int ((y0.toInt8.toInt32)).toInt8.toInt32), (.int ((x0.toInt8.toInt32)).toInt8.toInt32)])) _
            refine XS.icmpNo X0.here hx rfl (hb hby d9_21) rfl (feq hc34).1 ?_
            show Steps p.tables e below (s₁.setTop (mkF m 24 #[.val (.ref a0), .val (.ref a1), .val (.int (0 : Int32))] [])) _
            refine XS.iconst X0.here hx rfl (hb hby d9_24) ?_
            exact kt)
        obtain ⟨fs, hr, hrun, hended, hW, hsame⟩ := X0.leave (v := some (.int (0 : Int32))) (fun h => by rw [Bd.returns] at h; cases h)
        refine ⟨_, _, pre47 _ ?_, hrun, hended, _, _, rfl, ?_, ⟨_, rfl⟩, hW, hsame.mono (by decide) (by decide)⟩
        · show Steps p.tables e below (s₁.setTop (mkF m 25 #[.val (.ref a0), .val (.ref a1), .val (.int (0 : Int32))] [(.int (0 : Int32))])) _
          exact retN X0 hx (t := .boolean) Bd.returns (by simp) (hb hby d9_25) hr
        · show Q9 Z _ _ _ _ _ _ _ _ _ _ h0 n0 _ s₁.heap _
          rw [e0]
          exact ⟨⟨_, rfl, ⟨fun c => absurd (c.2.1.resolve_left (by decide)) (fun q => hc34 ((own_b8 hc_x0 hc_y0).mpr q)), fun _ => rfl⟩⟩, N0, rfl⟩
  · skip
    have pre48 : ∀ t, Steps p.tables e below (s₁.setTop (mkF m 35 #[.val (.ref a0), .val (.ref a1), .unset] [(.int (0 : Int32))])) t → Steps p.tables e below (s₁.setTop (entryFrame m #[(.ref a0), (.ref a1)] 3)) t := fun t kt => pre3 t (by
        show Steps p.tables e below (s₁.setTop (mkF m 4 #[.val (.ref a0), .val (.ref a1), .unset] [(.int z2), (.int z1)])) _
        refine XS.icmpYes X0.here hx rfl (pc0 := 4) (pc' := 34) rfl (hb hby d9_4) rfl (feq hc4).2 (by decide) (by decide) ?_
        show Steps p.tables e below (s₁.setTop (mkF m 34 #[.val (.ref a0), .val (.ref a1), .unset] [])) _
        refine XS.iconst X0.here hx rfl (hb hby d9_34) ?_
        exact kt)
    obtain ⟨fs, hr, hrun, hended, hW, hsame⟩ := X0.leave (v := some (.int (0 : Int32))) (fun h => by rw [Bd.returns] at h; cases h)
    refine ⟨_, _, pre48 _ ?_, hrun, hended, _, _, rfl, ?_, ⟨_, rfl⟩, hW, hsame.mono (by decide) (by decide)⟩
    · show Steps p.tables e below (s₁.setTop (mkF m 35 #[.val (.ref a0), .val (.ref a1), .unset] [(.int (0 : Int32))])) _
      exact retN X0 hx (t := .boolean) Bd.returns (by simp) (hb hby d9_35) hr
    · show Q9 Z _ _ _ _ _ _ _ _ _ _ h0 n0 _ s₁.heap _
      rw [e0]
      exact ⟨⟨_, rfl, ⟨fun c => absurd c.1 hc4, fun _ => rfl⟩⟩, N0, rfl⟩
theorem pd_10 : parseMethodDescriptor "([B[B)Z" = some ⟨[(.array .byte), (.array .byte)], some .boolean⟩ := by decide +kernel
theorem d8_0 : decode jdk_42_method_66_code 0 = .ok (.aload_n 0, 1) := by decide +kernel
theorem d8_1 : decode jdk_42_method_66_code 1 = .ok (.aload_n 1, 1) := by decide +kernel
theorem d8_2 : decode jdk_42_method_66_code 2 = .ok (.if_acmp .ne 5, 3) := by decide +kernel
theorem d8_7 : decode jdk_42_method_66_code 7 = .ok (.aload_n 1, 1) := by decide +kernel
theorem d8_8 : decode jdk_42_method_66_code 8 = .ok (.instanceof 10, 3) := by decide +kernel
theorem d8_11 : decode jdk_42_method_66_code 11 = .ok (.ifCond .eq 43, 3) := by decide +kernel
theorem d8_14 : decode jdk_42_method_66_code 14 = .ok (.aload_n 1, 1) := by decide +kernel
theorem d8_15 : decode jdk_42_method_66_code 15 = .ok (.checkcast 10, 3) := by decide +kernel
theorem d8_18 : decode jdk_42_method_66_code 18 = .ok (.astore_n 2, 1) := by decide +kernel
theorem d8_19 : decode jdk_42_method_66_code 19 = .ok (.getstatic 38, 3) := by decide +kernel
theorem d8_22 : decode jdk_42_method_66_code 22 = .ok (.ifCond .eq 14, 3) := by decide +kernel
theorem d8_25 : decode jdk_42_method_66_code 25 = .ok (.aload_n 0, 1) := by decide +kernel
theorem d8_26 : decode jdk_42_method_66_code 26 = .ok (.getfield 15, 3) := by decide +kernel
theorem d8_29 : decode jdk_42_method_66_code 29 = .ok (.aload_n 2, 1) := by decide +kernel
theorem d8_30 : decode jdk_42_method_66_code 30 = .ok (.getfield 15, 3) := by decide +kernel
theorem d8_33 : decode jdk_42_method_66_code 33 = .ok (.if_icmp .ne 21, 3) := by decide +kernel
theorem d8_36 : decode jdk_42_method_66_code 36 = .ok (.aload_n 0, 1) := by decide +kernel
theorem d8_37 : decode jdk_42_method_66_code 37 = .ok (.getfield 9, 3) := by decide +kernel
theorem d8_40 : decode jdk_42_method_66_code 40 = .ok (.aload_n 2, 1) := by decide +kernel
theorem d8_41 : decode jdk_42_method_66_code 41 = .ok (.getfield 9, 3) := by decide +kernel
theorem d8_44 : decode jdk_42_method_66_code 44 = .ok (.invokestatic 541, 3) := by decide +kernel
theorem d8_47 : decode jdk_42_method_66_code 47 = .ok (.ifCond .eq 7, 3) := by decide +kernel
theorem d8_50 : decode jdk_42_method_66_code 50 = .ok (.iconst 1, 1) := by decide +kernel
theorem d8_51 : decode jdk_42_method_66_code 51 = .ok (.goto 4, 3) := by decide +kernel
theorem d8_54 : decode jdk_42_method_66_code 54 = .ok (.iconst 0, 1) := by decide +kernel
theorem d8_55 : decode jdk_42_method_66_code 55 = .ok (.ireturn, 1) := by decide +kernel
theorem ef_S2 (m : MethodId) (x0 : Addr) (x1 : Addr)  : entryFrame m #[(.ref x0), (.ref x1)] 3 = mkF m 0 #[.val (.ref x0), .val (.ref x1), .unset] [] := by first | (simp [entryFrame, mkF, argsToLocals, Value.category]; done) | rfl
def QS2 (Z : State) (a0 : Addr) (a1 : Addr) (v1 : Addr) (v2 : Addr) (k1 : ClassId) (k2 : ClassId) (z1 : Int32) (z2 : Int32) (x0 : Int32) (x1 : Int32) (y0 : Int32) (y1 : Int32) (w_COMPACT_STRINGS_10 : Int32) (h0 : Heap) (n0 : Nat) (v : Option Value) (h : Heap) (L : List Loc) : Prop := (∃ (r : Int32), v = some (.int r) ∧ (((z1 = z2 ∧ (z1 < (1 : Int32) ∨ x0 = y0) ∧ (z1 < (2 : Int32) ∨ x1 = y1)) → (1 : Int32) = r) ∧ (¬ (z1 = z2 ∧ (z1 < (1 : Int32) ∨ x0 = y0) ∧ (z1 < (2 : Int32) ∨ x1 = y1)) → (0 : Int32) = r))) ∧ Fr n0 L ∧ h = h0
set_option maxRecDepth 65536 in
set_option maxHeartbeats 40000000 in
theorem rmS2 (l : Launch) (Z : State) (aw : Array Value) (hw : ∀ d ∈ tables_1, d.before aw Z = true) (ws : List Jvm.Cond) (a0 : Addr) (a1 : Addr) (v1 : Addr) (v2 : Addr) (k1 : ClassId) (k2 : ClassId) (z1 : Int32) (z2 : Int32) (x0 : Int32) (x1 : Int32) (y0 : Int32) (y1 : Int32) (w_COMPACT_STRINGS_10 : Int32) (h0 : Heap) (n0 : Nat) (Z0 : n0 ≤ h0.size) (hz1 : (0 : Int32) = z1 ∨ (1 : Int32) = z1 ∨ (2 : Int32) = z1) (hc_x0 : own_c8 x0) (hc_x1 : own_c8 x1) (hc_y0 : own_c8 y0) (hc_y1 : own_c8 y1) (hne : a0 ≠ a1) (Exa_6 : Exa Z h0 a1 "java/lang/String") (Fld_7 : Fld Z h0 a0 "java/lang/String" "value" "[B" (.ref v1)) (Fld_8 : Fld Z h0 a1 "java/lang/String" "value" "[B" (.ref v2)) (Fld_9 : Fld Z h0 a0 "java/lang/String" "coder" "B" (.int (0 : Int32))) (Fld_10 : Fld Z h0 a1 "java/lang/String" "coder" "B" (.int (0 : Int32))) (Arv_11 : Arv Z h0 v1 k1 .byte z1 (own_vs z1 x0 x1) (.int (0 : Int32))) (Arv_12 : Arv Z h0 v2 k2 .byte z2 (own_vs z2 y0 y1) (.int (0 : Int32))) (Sf_COMPACT_STRINGS_13 : Sta Z h0 "java/lang/String" "COMPACT_STRINGS" "Z" (.int w_COMPACT_STRINGS_10)) (hp4 : ¬ w_COMPACT_STRINGS_10 = (0 : Int32)) :
    MetFree l (⟨"java/lang/String", "equals", "(Ljava/lang/Object;)Z"⟩ : MethodName) (head1 (Jvm.Cond.code (⟨"java/lang/String", "equals", "(Ljava/lang/Object;)Z"⟩ : MethodName) jdk_42_method_66_code 3 (some .boolean) :: ws) ({ frames := 1, cells := 0, slots := 0, locals := 14 } : Room)) (fun a U => a = #[(.ref a0), (.ref a1)] ∧ Z.Warmed39 U.vm ∧ U.heap = h0) (fun _ _ _ _ _ => True) (fun _ U o U' => ∃ v L, o = .returned v ∧ QS2 Z a0 a1 v1 v2 k1 k2 z1 z2 x0 x1 y0 y1 w_COMPACT_STRINGS_10 h0 n0 v U'.heap L ∧ FrameEnd U o U' L ({ frames := 1, cells := 0, slots := 0, locals := 14 } : Room).cells ({ frames := 1, cells := 0, slots := 0, locals := 14 } : Room).slots) := by
  refine MetFree.of_bodySF (plainFor_of_name pn_1) hisR ?_
  intro p e s m args below meth c s₁ Bd hml0 hP hK
  obtain ⟨rfl, hZ, hh⟩ := hP
  have hx := Bd.exec
  have hby := Bd.bytes
  have hml : c.maxLocals = 3 := hml0
  have hown : s.vm.findClass "java/lang/String" = some m.cls := findClass_of_methodNamed Bd.named
  have hnm := (name_of_methodNamed Bd.named Bd.method).1
  have X0 : Stand p l e ({ frames := 1, cells := 0, slots := 0, locals := 14 } : Room) s m #[(.ref a0), (.ref a1)] below meth c s₁ [] 0 0 := Stand.of_body Bd
  have e0 : s₁.heap = h0 := by rw [← hh, Bd.state]; rfl
  have N0 := Fr.nil n0
  have pre0 : ∀ t, Steps p.tables e below (s₁.setTop (mkF m 0 #[.val (.ref a0), .val (.ref a1), .unset] [])) t → Steps p.tables e below (s₁.setTop (entryFrame m #[(.ref a0), (.ref a1)] 3)) t := fun t k => castTop (ef_S2 m a0 a1 ) k
  obtain ⟨T1, X1, e1, st1⟩ := instY X0 hx hZ hown (hw _ (List.mem_of_getElem? (i := 55) rfl)) e0 (Ins.self Exa_6) (g := (mkF m 8 #[.val (.ref a0), .val (.ref a1), .unset] [(.ref a1)])) rfl rfl (hb hby d8_8)
  obtain ⟨T2, X2, e2, st2⟩ := castY X1 hx hZ hown (hw _ (List.mem_of_getElem? (i := 55) rfl)) e1 (Ins.self Exa_6) (g := (mkF m 15 #[.val (.ref a0), .val (.ref a1), .unset] [(.ref a1)])) rfl rfl (hb hby d8_15)
  obtain ⟨T3, X3, e3, st3⟩ := getS2 X2 hx hZ hown (host := "") (Or.inl (hw _ (List.mem_of_getElem? (i := 56) rfl))) Via.refl e2 Sf_COMPACT_STRINGS_13 (g := (mkF m 19 #[.val (.ref a0), .val (.ref a1), .val (.ref a1)] [])) rfl (hb hby d8_19)
  obtain ⟨T5, X5, e5, st5⟩ := getF X3 hx hZ hown (host := "") (Or.inl (hw _ (List.mem_of_getElem? (i := 25) rfl))) Via.refl e3 Fld_9 (g := (mkF m 26 #[.val (.ref a0), .val (.ref a1), .val (.ref a1)] [(.ref a0)])) rfl rfl (hb hby d8_26)
  obtain ⟨T6, X6, e6, st6⟩ := getF X5 hx hZ hown (host := "") (Or.inl (hw _ (List.mem_of_getElem? (i := 25) rfl))) Via.refl e5 Fld_10 (g := (mkF m 30 #[.val (.ref a0), .val (.ref a1), .val (.ref a1)] [(.ref a1), (.int (0 : Int32))])) rfl rfl (hb hby d8_30)
  obtain ⟨T7, X7, e7, st7⟩ := getF X6 hx hZ hown (host := "") (Or.inl (hw _ (List.mem_of_getElem? (i := 24) rfl))) Via.refl e6 Fld_7 (g := (mkF m 37 #[.val (.ref a0), .val (.ref a1), .val (.ref a1)] [(.ref a0)])) rfl rfl (hb hby d8_37)
  obtain ⟨T8, X8, e8, st8⟩ := getF X7 hx hZ hown (host := "") (Or.inl (hw _ (List.mem_of_getElem? (i := 24) rfl))) Via.refl e7 Fld_8 (g := (mkF m 41 #[.val (.ref a0), .val (.ref a1), .val (.ref a1)] [(.ref a1), (.ref v1)])) rfl rfl (hb hby d8_41)
  obtain ⟨_, _, ⟨T9, L9, k9, n9⟩, -, X9, ⟨Lc9, hQ9, l9, y9, z9⟩, st9⟩ := Jvm.LawKit.callS X8 hx (y := (⟨"java/lang/StringLatin1", "equals", "([B[B)Z"⟩ : MethodName)) hown (mvT hZ (hw _ (List.mem_of_getElem? (i := 57) rfl))) (mvT hZ (hw _ (List.mem_of_getElem? (i := 58) rfl))) (mvT hZ (hw _ (List.mem_of_getElem? (i := 59) rfl))) (mvT hZ (hw _ (List.mem_of_getElem? (i := 60) rfl))) (by decide) (backOf (W := 0) (rm9 l Z aw hw [] v1 v2 k1 k2 z1 z2 x0 x1 y0 y1 h0 n0 Z0 hz1 hc_x0 hc_x1 hc_y0 hc_y1 Arv_11 Arv_12) hZ (hw _ (List.mem_of_getElem? (i := 60) rfl)) (hw _ (List.mem_of_getElem? (i := 59) rfl)) (by decide) (by decide)) (g := (mkF m 44 #[.val (.ref a0), .val (.ref a1), .val (.ref a1)] [(.ref v2), (.ref v1)])) rfl (by rw [hml]; rfl) (argsL := [(.ref v1), (.ref v2)]) (rest := []) (lenOf pd_10 rfl) rfl (by show 2 * 0 + _ ≤ _; exact Nat.le_of_eq rfl) (hb hby d8_44) (fun _ _ => ⟨rfl, e8, (by decide : 0 + 0 ≤ _), (by decide : 0 + 0 ≤ _)⟩)
  dsimp only [Pt.U, Pt.locs, Pt.cells, Pt.slots] at X9 l9 y9 z9 st9 hQ9
  subst l9 y9 z9
  obtain ⟨⟨r10, rfl, Pr10⟩, Nq9, e9⟩ := hQ9
  have N9 := Fr.app N0 Nq9
  have pre11 : ∀ t, Steps p.tables e below (T9.setTop (mkF m 47 #[.val (.ref a0), .val (.ref a1), .val (.ref a1)] [(.int r10)])) t → Steps p.tables e below (s₁.setTop (entryFrame m #[(.ref a0), (.ref a1)] 3)) t := fun t kt => pre0 t (by
      show Steps p.tables e below (s₁.setTop (mkF m 0 #[.val (.ref a0), .val (.ref a1), .unset] [])) _
      refine XS.aloadN X0.here hx rfl (hb hby d8_0) rfl rfl ?_
      show Steps p.tables e below (s₁.setTop (mkF m 1 #[.val (.ref a0), .val (.ref a1), .unset] [(.ref a0)])) _
      refine XS.aloadN X0.here hx rfl (hb hby d8_1) rfl rfl ?_
      show Steps p.tables e below (s₁.setTop (mkF m 2 #[.val (.ref a0), .val (.ref a1), .unset] [(.ref a1), (.ref a0)])) _
      refine Jvm.RoadKit.acmp (g := (mkF m 2 #[.val (.ref a0), .val (.ref a1), .unset] [(.ref a1), (.ref a0)])) X0 hx rfl rfl rfl (pc0 := 2) (pc' := 7) (same := false) rfl (hb hby d8_2) rfl (decide_eq_false fun q => hne (Value.ref.inj q)) (by decide) (by decide) ?_
      show Steps p.tables e below (s₁.setTop (mkF m 7 #[.val (.ref a0), .val (.ref a1), .unset] [])) _
      refine XS.aloadN X0.here hx rfl (hb hby d8_7) rfl rfl ?_
      show Steps p.tables e below (s₁.setTop (mkF m 8 #[.val (.ref a0), .val (.ref a1), .unset] [(.ref a1)])) _
      refine st1 _ ?_
      show Steps p.tables e below (T1.setTop (mkF m 11 #[.val (.ref a0), .val (.ref a1), .unset] [(.int (1 : Int32))])) _
      refine XS.ifNo X1.here hx rfl (hb hby d8_11) rfl ((if0 _ _).trans (feq (by decide : ¬ ((1 : Int32) = (0 : Int32)))).1) ?_
      show Steps p.tables e below (T1.setTop (mkF m 14 #[.val (.ref a0), .val (.ref a1), .unset] [])) _
      refine XS.aloadN X1.here hx rfl (hb hby d8_14) rfl rfl ?_
      show Steps p.tables e below (T1.setTop (mkF m 15 #[.val (.ref a0), .val (.ref a1), .unset] [(.ref a1)])) _
      refine st2 _ ?_
      show Steps p.tables e below (T2.setTop (mkF m 18 #[.val (.ref a0), .val (.ref a1), .unset] [(.ref a1)])) _
      refine XS.astoreN X2.here hx rfl (hb hby d8_18) rfl rfl (l' := #[.val (.ref a0), .val (.ref a1), .val (.ref a1)]) rfl ?_
      show Steps p.tables e below (T2.setTop (mkF m 19 #[.val (.ref a0), .val (.ref a1), .val (.ref a1)] [])) _
      refine st3 _ ?_
      show Steps p.tables e below (T3.setTop (mkF m 22 #[.val (.ref a0), .val (.ref a1), .val (.ref a1)] [(.int w_COMPACT_STRINGS_10)])) _
      refine XS.ifNo X3.here hx rfl (hb hby d8_22) rfl ((if0 _ _).trans (feq hp4).1) ?_
      show Steps p.tables e below (T3.setTop (mkF m 25 #[.val (.ref a0), .val (.ref a1), .val (.ref a1)] [])) _
      refine XS.aloadN X3.here hx rfl (hb hby d8_25) rfl rfl ?_
      show Steps p.tables e below (T3.setTop (mkF m 26 #[.val (.ref a0), .val (.ref a1), .val (.ref a1)] [(.ref a0)])) _
      refine st5 _ ?_
      show Steps p.tables e below (T5.setTop (mkF m 29 #[.val (.ref a0), .val (.ref a1), .val (.ref a1)] [(.int (0 : Int32))])) _
      refine XS.aloadN X5.here hx rfl (hb hby d8_29) rfl rfl ?_
      show Steps p.tables e below (T5.setTop (mkF m 30 #[.val (.ref a0), .val (.ref a1), .val (.ref a1)] [(.ref a1), (.int (0 : Int32))])) _
      refine st6 _ ?_
      show Steps p.tables e below (T6.setTop (mkF m 33 #[.val (.ref a0), .val (.ref a1), .val (.ref a1)] [(.int (0 : Int32)), (.int (0 : Int32))])) _
      refine XS.icmpNo X6.here hx rfl (hb hby d8_33) rfl (teq (rfl : (0 : Int32) = (0 : Int32))).2 ?_
      show Steps p.tables e below (T6.setTop (mkF m 36 #[.val (.ref a0), .val (.ref a1), .val (.ref a1)] [])) _
      refine XS.aloadN X6.here hx rfl (hb hby d8_36) rfl rfl ?_
      show Steps p.tables e below (T6.setTop (mkF m 37 #[.val (.ref a0), .val (.ref a1), .val (.ref a1)] [(.ref a0)])) _
      refine st7 _ ?_
      show Steps p.tables e below (T7.setTop (mkF m 40 #[.val (.ref a0), .val (.ref a1), .val (.ref a1)] [(.ref v1)])) _
      refine XS.aloadN X7.here hx rfl (hb hby d8_40) rfl rfl ?_
      show Steps p.tables e below (T7.setTop (mkF m 41 #[.val (.ref a0), .val (.ref a1), .val (.ref a1)] [(.ref a1), (.ref v1)])) _
      refine st8 _ ?_
      show Steps p.tables e below (T8.setTop (mkF m 44 #[.val (.ref a0), .val (.ref a1), .val (.ref a1)] [(.ref v2), (.ref v1)])) _
      refine st9 _ ?_
      exact kt)
  by_cases hC12 : (z1 = z2 ∧ (z1 < (1 : Int32) ∨ x0 = y0) ∧ (z1 < (2 : Int32) ∨ x1 = y1))
  · skip
    obtain rfl : (1 : Int32) = r10 := Pr10.1 hC12
    have pre13 : ∀ t, Steps p.tables e below (T9.setTop (mkF m 55 #[.val (.ref a0), .val (.ref a1), .val (.ref a1)] [(.int (1 : Int32))])) t → Steps p.tables e below (s₁.setTop (entryFrame m #[(.ref a0), (.ref a1)] 3)) t := fun t kt => pre11 t (by
        show Steps p.tables e below (T9.setTop (mkF m 47 #[.val (.ref a0), .val (.ref a1), .val (.ref a1)] [(.int (1 : Int32))])) _
        refine XS.ifNo X9.here hx rfl (hb hby d8_47) rfl ((if0 _ _).trans (feq (by decide : ¬ ((1 : Int32) = (0 : Int32)))).1) ?_
        show Steps p.tables e below (T9.setTop (mkF m 50 #[.val (.ref a0), .val (.ref a1), .val (.ref a1)] [])) _
        refine XS.iconst X9.here hx rfl (hb hby d8_50) ?_
        show Steps p.tables e below (T9.setTop (mkF m 51 #[.val (.ref a0), .val (.ref a1), .val (.ref a1)] [(.int (1 : Int32))])) _
        refine XS.goto X9.here hx rfl (pc0 := 51) (pc' := 55) rfl (hb hby d8_51) (by decide) (by decide) ?_
        exact kt)
    obtain ⟨fs, hr, hrun, hended, hW, hsame⟩ := X9.leave (v := some (.int (1 : Int32))) (fun h => by rw [Bd.returns] at h; cases h)
    refine ⟨_, _, pre13 _ ?_, hrun, hended, _, _, rfl, ?_, ⟨_, rfl⟩, hW, hsame.mono (by decide) (by decide)⟩
    · show Steps p.tables e below (T9.setTop (mkF m 55 #[.val (.ref a0), .val (.ref a1), .val (.ref a1)] [(.int (1 : Int32))])) _
      exact retN X9 hx (t := .boolean) Bd.returns (by simp) (hb hby d8_55) hr
    · show QS2 Z _ _ _ _ _ _ _ _ _ _ _ _ _ h0 n0 _ T9.heap _
      rw [e9]
      exact ⟨⟨_, rfl, ⟨fun _ => rfl, fun n => absurd hC12 n⟩⟩, N9, rfl⟩
  · skip
    obtain rfl : (0 : Int32) = r10 := Pr10.2 hC12
    have pre14 : ∀ t, Steps p.tables e below (T9.setTop (mkF m 55 #[.val (.ref a0), .val (.ref a1), .val (.ref a1)] [(.int (0 : Int32))])) t → Steps p.tables e below (s₁.setTop (entryFrame m #[(.ref a0), (.ref a1)] 3)) t := fun t kt => pre11 t (by
        show Steps p.tables e below (T9.setTop (mkF m 47 #[.val (.ref a0), .val (.ref a1), .val (.ref a1)] [(.int (0 : Int32))])) _
        refine XS.ifYes X9.here hx rfl (pc0 := 47) (pc' := 54) rfl (hb hby d8_47) rfl ((if0 _ _).trans (teq (rfl : (0 : Int32) = (0 : Int32))).1) (by decide) (by decide) ?_
        show Steps p.tables e below (T9.setTop (mkF m 54 #[.val (.ref a0), .val (.ref a1), .val (.ref a1)] [])) _
        refine XS.iconst X9.here hx rfl (hb hby d8_54) ?_
        exact kt)
    obtain ⟨fs, hr, hrun, hended, hW, hsame⟩ := X9.leave (v := some (.int (0 : Int32))) (fun h => by rw [Bd.returns] at h; cases h)
    refine ⟨_, _, pre14 _ ?_, hrun, hended, _, _, rfl, ?_, ⟨_, rfl⟩, hW, hsame.mono (by decide) (by decide)⟩
    · show Steps p.tables e below (T9.setTop (mkF m 55 #[.val (.ref a0), .val (.ref a1), .val (.ref a1)] [(.int (0 : Int32))])) _
      exact retN X9 hx (t := .boolean) Bd.returns (by simp) (hb hby d8_55) hr
    · show QS2 Z _ _ _ _ _ _ _ _ _ _ _ _ _ h0 n0 _ T9.heap _
      rw [e9]
      exact ⟨⟨_, rfl, ⟨fun c => absurd c hC12, fun _ => rfl⟩⟩, N9, rfl⟩
theorem d8_5 : decode jdk_42_method_66_code 5 = .ok (.iconst 1, 1) := by decide +kernel
theorem d8_6 : decode jdk_42_method_66_code 6 = .ok (.ireturn, 1) := by decide +kernel
theorem ef_SS (m : MethodId) (x0 : Addr) (x1 : Addr)  : entryFrame m #[(.ref x0), (.ref x1)] 3 = mkF m 0 #[.val (.ref x0), .val (.ref x1), .unset] [] := by first | (simp [entryFrame, mkF, argsToLocals, Value.category]; done) | rfl
def QSS (Z : State) (a0 : Addr) (h0 : Heap) (n0 : Nat) (v : Option Value) (h : Heap) (L : List Loc) : Prop := v = some (.int (1 : Int32)) ∧ Fr n0 L ∧ h = h0
set_option maxRecDepth 65536 in
set_option maxHeartbeats 40000000 in
theorem rmSS (l : Launch) (Z : State) (aw : Array Value) (hw : ∀ d ∈ tables_1, d.before aw Z = true) (ws : List Jvm.Cond) (a0 : Addr) (h0 : Heap) (n0 : Nat) (Z0 : n0 ≤ h0.size) :
    MetFree l (⟨"java/lang/String", "equals", "(Ljava/lang/Object;)Z"⟩ : MethodName) (head1 (Jvm.Cond.code (⟨"java/lang/String", "equals", "(Ljava/lang/Object;)Z"⟩ : MethodName) jdk_42_method_66_code 3 (some .boolean) :: ws) ({ frames := 0, cells := 0, slots := 0, locals := 0 } : Room)) (fun a U => a = #[(.ref a0), (.ref a0)] ∧ Z.Warmed39 U.vm ∧ U.heap = h0) (fun _ _ _ _ _ => True) (fun _ U o U' => ∃ v L, o = .returned v ∧ QSS Z a0 h0 n0 v U'.heap L ∧ FrameEnd U o U' L ({ frames := 0, cells := 0, slots := 0, locals := 0 } : Room).cells ({ frames := 0, cells := 0, slots := 0, locals := 0 } : Room).slots) := by
  refine MetFree.of_bodySF (plainFor_of_name pn_1) hisR ?_
  intro p e s m args below meth c s₁ Bd hml0 hP hK
  obtain ⟨rfl, hZ, hh⟩ := hP
  have hx := Bd.exec
  have hby := Bd.bytes
  have hml : c.maxLocals = 3 := hml0
  have hown : s.vm.findClass "java/lang/String" = some m.cls := findClass_of_methodNamed Bd.named
  have hnm := (name_of_methodNamed Bd.named Bd.method).1
  have X0 : Stand p l e ({ frames := 0, cells := 0, slots := 0, locals := 0 } : Room) s m #[(.ref a0), (.ref a0)] below meth c s₁ [] 0 0 := Stand.of_body Bd
  have e0 : s₁.heap = h0 := by rw [← hh, Bd.state]; rfl
  have N0 := Fr.nil n0
  have pre0 : ∀ t, Steps p.tables e below (s₁.setTop (mkF m 0 #[.val (.ref a0), .val (.ref a0), .unset] [])) t → Steps p.tables e below (s₁.setTop (entryFrame m #[(.ref a0), (.ref a0)] 3)) t := fun t k => castTop (ef_SS m a0 a0 ) k
  have pre1 : ∀ t, Steps p.tables e below (s₁.setTop (mkF m 6 #[.val (.ref a0), .val (.ref a0), .unset] [(.int (1 : Int32))])) t → Steps p.tables e below (s₁.setTop (entryFrame m #[(.ref a0), (.ref a0)] 3)) t := fun t kt => pre0 t (by
      show Steps p.tables e below (s₁.setTop (mkF m 0 #[.val (.ref a0), .val (.ref a0), .unset] [])) _
      refine XS.aloadN X0.here hx rfl (hb hby d8_0) rfl rfl ?_
      show Steps p.tables e below (s₁.setTop (mkF m 1 #[.val (.ref a0), .val (.ref a0), .unset] [(.ref a0)])) _
      refine XS.aloadN X0.here hx rfl (hb hby d8_1) rfl rfl ?_
      show Steps p.tables e below (s₁.setTop (mkF m 2 #[.val (.ref a0), .val (.ref a0), .unset] [(.ref a0), (.ref a0)])) _
      refine Jvm.RoadKit.acmp (g := (mkF m 2 #[.val (.ref a0), .val (.ref a0), .unset] [(.ref a0), (.ref a0)])) X0 hx rfl rfl rfl (pc0 := 2) (pc' := 5) (same := true) rfl (hb hby d8_2) rfl (decide_eq_true rfl) (by decide) (by decide) ?_
      show Steps p.tables e below (s₁.setTop (mkF m 5 #[.val (.ref a0), .val (.ref a0), .unset] [])) _
      refine XS.iconst X0.here hx rfl (hb hby d8_5) ?_
      exact kt)
  obtain ⟨fs, hr, hrun, hended, hW, hsame⟩ := X0.leave (v := some (.int (1 : Int32))) (fun h => by rw [Bd.returns] at h; cases h)
  refine ⟨_, _, pre1 _ ?_, hrun, hended, _, _, rfl, ?_, ⟨_, rfl⟩, hW, hsame.mono (by decide) (by decide)⟩
  · show Steps p.tables e below (s₁.setTop (mkF m 6 #[.val (.ref a0), .val (.ref a0), .unset] [(.int (1 : Int32))])) _
    exact retN X0 hx (t := .boolean) Bd.returns (by simp) (hb hby d8_6) hr
  · show QSS Z _ h0 n0 _ s₁.heap _
    rw [e0]
    exact ⟨rfl, N0, rfl⟩
theorem d7_0 : decode prog_42_method_4_code 0 = .ok (.aload_n 1, 1) := by decide +kernel
theorem d7_1 : decode prog_42_method_4_code 1 = .ok (.instanceof 18, 3) := by decide +kernel
theorem d7_4 : decode prog_42_method_4_code 4 = .ok (.ifCond .ne 5, 3) := by decide +kernel
theorem d7_7 : decode prog_42_method_4_code 7 = .ok (.iconst 0, 1) := by decide +kernel
theorem d7_8 : decode prog_42_method_4_code 8 = .ok (.ireturn, 1) := by decide +kernel
theorem ef_EN (m : MethodId) (x0 : Addr)  : entryFrame m #[(.ref x0), .null] 3 = mkF m 0 #[.val (.ref x0), .val .null, .unset] [] := by first | (simp [entryFrame, mkF, argsToLocals, Value.category]; done) | rfl
def QEN (Z : State) (a0 : Addr) (h0 : Heap) (n0 : Nat) (v : Option Value) (h : Heap) (L : List Loc) : Prop := v = some (.int (0 : Int32)) ∧ Fr n0 L ∧ h = h0
set_option maxRecDepth 65536 in
set_option maxHeartbeats 40000000 in
theorem rmEN (l : Launch) (Z : State) (aw : Array Value) (hw : ∀ d ∈ tables_1, d.before aw Z = true) (ws : List Jvm.Cond) (a0 : Addr) (h0 : Heap) (n0 : Nat) (Z0 : n0 ≤ h0.size) :
    MetFree l (⟨"com/example/gibbon/gibbon/search/Occurrences", "equals", "(Ljava/lang/Object;)Z"⟩ : MethodName) (head1 (Jvm.Cond.code (⟨"com/example/gibbon/gibbon/search/Occurrences", "equals", "(Ljava/lang/Object;)Z"⟩ : MethodName) prog_42_method_4_code 3 (some .boolean) :: ws) ({ frames := 0, cells := 0, slots := 0, locals := 0 } : Room)) (fun a U => a = #[(.ref a0), .null] ∧ Z.Warmed39 U.vm ∧ U.heap = h0) (fun _ _ _ _ _ => True) (fun _ U o U' => ∃ v L, o = .returned v ∧ QEN Z a0 h0 n0 v U'.heap L ∧ FrameEnd U o U' L ({ frames := 0, cells := 0, slots := 0, locals := 0 } : Room).cells ({ frames := 0, cells := 0, slots := 0, locals := 0 } : Room).slots) := by
  refine MetFree.of_bodySF (plainFor_of_name pn_5) hisR ?_
  intro p e s m args below meth c s₁ Bd hml0 hP hK
  obtain ⟨rfl, hZ, hh⟩ := hP
  have hx := Bd.exec
  have hby := Bd.bytes
  have hml : c.maxLocals = 3 := hml0
  have hown : s.vm.findClass "com/example/gibbon/gibbon/search/Occurrences" = some m.cls := findClass_of_methodNamed Bd.named
  have hnm := (name_of_methodNamed Bd.named Bd.method).1
  have X0 : Stand p l e ({ frames := 0, cells := 0, slots := 0, locals := 0 } : Room) s m #[(.ref a0), .null] below meth c s₁ [] 0 0 := Stand.of_body Bd
  have e0 : s₁.heap = h0 := by rw [← hh, Bd.state]; rfl
  have N0 := Fr.nil n0
  have pre0 : ∀ t, Steps p.tables e below (s₁.setTop (mkF m 0 #[.val (.ref a0), .val .null, .unset] [])) t → Steps p.tables e below (s₁.setTop (entryFrame m #[(.ref a0), .null] 3)) t := fun t k => castTop (ef_EN m a0 ) k
  have pre1 : ∀ t, Steps p.tables e below (s₁.setTop (mkF m 8 #[.val (.ref a0), .val .null, .unset] [(.int (0 : Int32))])) t → Steps p.tables e below (s₁.setTop (entryFrame m #[(.ref a0), .null] 3)) t := fun t kt => pre0 t (by
      show Steps p.tables e below (s₁.setTop (mkF m 0 #[.val (.ref a0), .val .null, .unset] [])) _
      refine XS.aloadN X0.here hx rfl (hb hby d7_0) rfl rfl ?_
      show Steps p.tables e below (s₁.setTop (mkF m 1 #[.val (.ref a0), .val .null, .unset] [.null])) _
      refine X0.instanceofNull hx (g := (mkF m 1 #[.val (.ref a0), .val .null, .unset] [.null])) rfl rfl (hb hby d7_1) _ ?_
      show Steps p.tables e below (s₁.setTop (mkF m 4 #[.val (.ref a0), .val .null, .unset] [(.int (0 : Int32))])) _
      refine XS.ifNo X0.here hx rfl (hb hby d7_4) rfl ((if0 _ _).trans (teq (rfl : (0 : Int32) = (0 : Int32))).2) ?_
      show Steps p.tables e below (s₁.setTop (mkF m 7 #[.val (.ref a0), .val .null, .unset] [])) _
      refine XS.iconst X0.here hx rfl (hb hby d7_7) ?_
      exact kt)
  obtain ⟨fs, hr, hrun, hended, hW, hsame⟩ := X0.leave (v := some (.int (0 : Int32))) (fun h => by rw [Bd.returns] at h; cases h)
  refine ⟨_, _, pre1 _ ?_, hrun, hended, _, _, rfl, ?_, ⟨_, rfl⟩, hW, hsame.mono (by decide) (by decide)⟩
  · show Steps p.tables e below (s₁.setTop (mkF m 8 #[.val (.ref a0), .val .null, .unset] [(.int (0 : Int32))])) _
    exact retN X0 hx (t := .boolean) Bd.returns (by simp) (hb hby d7_8) hr
  · show QEN Z _ h0 n0 _ s₁.heap _
    rw [e0]
    exact ⟨rfl, N0, rfl⟩
theorem ef_ES (m : MethodId) (x0 : Addr) (x1 : Addr)  : entryFrame m #[(.ref x0), (.ref x1)] 3 = mkF m 0 #[.val (.ref x0), .val (.ref x1), .unset] [] := by first | (simp [entryFrame, mkF, argsToLocals, Value.category]; done) | rfl
def QES (Z : State) (a0 : Addr) (a1 : Addr) (h0 : Heap) (n0 : Nat) (v : Option Value) (h : Heap) (L : List Loc) : Prop := v = some (.int (0 : Int32)) ∧ Fr n0 L ∧ h = h0
set_option maxRecDepth 65536 in
set_option maxHeartbeats 40000000 in
theorem rmES (l : Launch) (Z : State) (aw : Array Value) (hw : ∀ d ∈ tables_1, d.before aw Z = true) (ws : List Jvm.Cond) (a0 : Addr) (a1 : Addr) (h0 : Heap) (n0 : Nat) (Z0 : n0 ≤ h0.size) (Exa_0 : Exa Z h0 a1 "java/lang/String") :
    MetFree l (⟨"com/example/gibbon/gibbon/search/Occurrences", "equals", "(Ljava/lang/Object;)Z"⟩ : MethodName) (head1 (Jvm.Cond.code (⟨"com/example/gibbon/gibbon/search/Occurrences", "equals", "(Ljava/lang/Object;)Z"⟩ : MethodName) prog_42_method_4_code 3 (some .boolean) :: ws) ({ frames := 0, cells := 0, slots := 0, locals := 0 } : Room)) (fun a U => a = #[(.ref a0), (.ref a1)] ∧ Z.Warmed39 U.vm ∧ U.heap = h0) (fun _ _ _ _ _ => True) (fun _ U o U' => ∃ v L, o = .returned v ∧ QES Z a0 a1 h0 n0 v U'.heap L ∧ FrameEnd U o U' L ({ frames := 0, cells := 0, slots := 0, locals := 0 } : Room).cells ({ frames := 0, cells := 0, slots := 0, locals := 0 } : Room).slots) := by
  refine MetFree.of_bodySF (plainFor_of_name pn_5) hisR ?_
  intro p e s m args below meth c s₁ Bd hml0 hP hK
  obtain ⟨rfl, hZ, hh⟩ := hP
  have hx := Bd.exec
  have hby := Bd.bytes
  have hml : c.maxLocals = 3 := hml0
  have hown : s.vm.findClass "com/example/gibbon/gibbon/search/Occurrences" = some m.cls := findClass_of_methodNamed Bd.named
  have hnm := (name_of_methodNamed Bd.named Bd.method).1
  have X0 : Stand p l e ({ frames := 0, cells := 0, slots := 0, locals := 0 } : Room) s m #[(.ref a0), (.ref a1)] below meth c s₁ [] 0 0 := Stand.of_body Bd
  have e0 : s₁.heap = h0 := by rw [← hh, Bd.state]; rfl
  have N0 := Fr.nil n0
  have pre0 : ∀ t, Steps p.tables e below (s₁.setTop (mkF m 0 #[.val (.ref a0), .val (.ref a1), .unset] [])) t → Steps p.tables e below (s₁.setTop (entryFrame m #[(.ref a0), (.ref a1)] 3)) t := fun t k => castTop (ef_ES m a0 a1 ) k
  obtain ⟨T1, X1, e1, st1⟩ := instNo X0 hx hZ hown (hw _ (List.mem_of_getElem? (i := 48) rfl)) e0 Exa_0 (own_notsub (hw _ (List.mem_of_getElem? (i := 73) rfl)) (hw _ (List.mem_of_getElem? (i := 74) rfl)) (hw _ (List.mem_of_getElem? (i := 27) rfl)) (by decide) (by decide)) (g := (mkF m 1 #[.val (.ref a0), .val (.ref a1), .unset] [(.ref a1)])) rfl rfl (hb hby d7_1)
  have pre2 : ∀ t, Steps p.tables e below (T1.setTop (mkF m 8 #[.val (.ref a0), .val (.ref a1), .unset] [(.int (0 : Int32))])) t → Steps p.tables e below (s₁.setTop (entryFrame m #[(.ref a0), (.ref a1)] 3)) t := fun t kt => pre0 t (by
      show Steps p.tables e below (s₁.setTop (mkF m 0 #[.val (.ref a0), .val (.ref a1), .unset] [])) _
      refine XS.aloadN X0.here hx rfl (hb hby d7_0) rfl rfl ?_
      show Steps p.tables e below (s₁.setTop (mkF m 1 #[.val (.ref a0), .val (.ref a1), .unset] [(.ref a1)])) _
      refine st1 _ ?_
      show Steps p.tables e below (T1.setTop (mkF m 4 #[.val (.ref a0), .val (.ref a1), .unset] [(.int (0 : Int32))])) _
      refine XS.ifNo X1.here hx rfl (hb hby d7_4) rfl ((if0 _ _).trans (teq (rfl : (0 : Int32) = (0 : Int32))).2) ?_
      show Steps p.tables e below (T1.setTop (mkF m 7 #[.val (.ref a0), .val (.ref a1), .unset] [])) _
      refine XS.iconst X1.here hx rfl (hb hby d7_7) ?_
      exact kt)
  obtain ⟨fs, hr, hrun, hended, hW, hsame⟩ := X1.leave (v := some (.int (0 : Int32))) (fun h => by rw [Bd.returns] at h; cases h)
  refine ⟨_, _, pre2 _ ?_, hrun, hended, _, _, rfl, ?_, ⟨_, rfl⟩, hW, hsame.mono (by decide) (by decide)⟩
  · show Steps p.tables e below (T1.setTop (mkF m 8 #[.val (.ref a0), .val (.ref a1), .unset] [(.int (0 : Int32))])) _
    exact retN X1 hx (t := .boolean) Bd.returns (by simp) (hb hby d7_8) hr
  · show QES Z _ _ h0 n0 _ T1.heap _
    rw [e1]
    exact ⟨rfl, N0, rfl⟩
theorem pd_11 : parseMethodDescriptor "(Ljava/lang/Object;)Z" = some ⟨[(.object "java/lang/Object")], some .boolean⟩ := by decide +kernel
theorem d7_9 : decode prog_42_method_4_code 9 = .ok (.aload_n 1, 1) := by decide +kernel
theorem d7_10 : decode prog_42_method_4_code 10 = .ok (.checkcast 18, 3) := by decide +kernel
theorem d7_13 : decode prog_42_method_4_code 13 = .ok (.astore_n 2, 1) := by decide +kernel
theorem d7_14 : decode prog_42_method_4_code 14 = .ok (.aload_n 0, 1) := by decide +kernel
theorem d7_15 : decode prog_42_method_4_code 15 = .ok (.getfield 17, 3) := by decide +kernel
theorem d7_18 : decode prog_42_method_4_code 18 = .ok (.aload_n 2, 1) := by decide +kernel
theorem d7_19 : decode prog_42_method_4_code 19 = .ok (.getfield 17, 3) := by decide +kernel
theorem d7_22 : decode prog_42_method_4_code 22 = .ok (.invokevirtual 26, 3) := by decide +kernel
theorem d7_25 : decode prog_42_method_4_code 25 = .ok (.ifCond .eq 18, 3) := by decide +kernel
theorem d7_28 : decode prog_42_method_4_code 28 = .ok (.aload_n 0, 1) := by decide +kernel
theorem d7_29 : decode prog_42_method_4_code 29 = .ok (.getfield 22, 3) := by decide +kernel
theorem d7_32 : decode prog_42_method_4_code 32 = .ok (.aload_n 2, 1) := by decide +kernel
theorem d7_33 : decode prog_42_method_4_code 33 = .ok (.getfield 22, 3) := by decide +kernel
theorem d7_36 : decode prog_42_method_4_code 36 = .ok (.if_icmp .ne 7, 3) := by decide +kernel
theorem d7_39 : decode prog_42_method_4_code 39 = .ok (.iconst 1, 1) := by decide +kernel
theorem d7_40 : decode prog_42_method_4_code 40 = .ok (.goto 4, 3) := by decide +kernel
theorem d7_44 : decode prog_42_method_4_code 44 = .ok (.ireturn, 1) := by decide +kernel
theorem ef_EE (m : MethodId) (x0 : Addr) (x1 : Addr)  : entryFrame m #[(.ref x0), (.ref x1)] 3 = mkF m 0 #[.val (.ref x0), .val (.ref x1), .unset] [] := by first | (simp [entryFrame, mkF, argsToLocals, Value.category]; done) | rfl
def QEE (Z : State) (a0 : Addr) (dd : Addr) (w_count_1 : Int32) (h0 : Heap) (n0 : Nat) (v : Option Value) (h : Heap) (L : List Loc) : Prop := v = some (.int (1 : Int32)) ∧ Fr n0 L ∧ h = h0
set_option maxRecDepth 65536 in
set_option maxHeartbeats 40000000 in
theorem rmEE (l : Launch) (Z : State) (aw : Array Value) (hw : ∀ d ∈ tables_1, d.before aw Z = true) (ws : List Jvm.Cond) (a0 : Addr) (dd : Addr) (w_count_1 : Int32) (h0 : Heap) (n0 : Nat) (Z0 : n0 ≤ h0.size) (Exa_0 : Exa Z h0 a0 "com/example/gibbon/gibbon/search/Occurrences") (Exa_1 : Exa Z h0 dd "java/lang/String") (Ff_document_2 : Fld Z h0 a0 "com/example/gibbon/gibbon/search/Occurrences" "document" "Ljava/lang/String;" (.ref dd)) (Ff_count_3 : Fld Z h0 a0 "com/example/gibbon/gibbon/search/Occurrences" "count" "I" (.int w_count_1)) :
    MetFree l (⟨"com/example/gibbon/gibbon/search/Occurrences", "equals", "(Ljava/lang/Object;)Z"⟩ : MethodName) (head1 (Jvm.Cond.code (⟨"com/example/gibbon/gibbon/search/Occurrences", "equals", "(Ljava/lang/Object;)Z"⟩ : MethodName) prog_42_method_4_code 3 (some .boolean) :: ws) ({ frames := 1, cells := 0, slots := 0, locals := 14 } : Room)) (fun a U => a = #[(.ref a0), (.ref a0)] ∧ Z.Warmed39 U.vm ∧ U.heap = h0) (fun _ _ _ _ _ => True) (fun _ U o U' => ∃ v L, o = .returned v ∧ QEE Z a0 dd w_count_1 h0 n0 v U'.heap L ∧ FrameEnd U o U' L ({ frames := 1, cells := 0, slots := 0, locals := 14 } : Room).cells ({ frames := 1, cells := 0, slots := 0, locals := 14 } : Room).slots) := by
  refine MetFree.of_bodySF (plainFor_of_name pn_5) hisR ?_
  intro p e s m args below meth c s₁ Bd hml0 hP hK
  obtain ⟨rfl, hZ, hh⟩ := hP
  have hx := Bd.exec
  have hby := Bd.bytes
  have hml : c.maxLocals = 3 := hml0
  have hown : s.vm.findClass "com/example/gibbon/gibbon/search/Occurrences" = some m.cls := findClass_of_methodNamed Bd.named
  have hnm := (name_of_methodNamed Bd.named Bd.method).1
  have X0 : Stand p l e ({ frames := 1, cells := 0, slots := 0, locals := 14 } : Room) s m #[(.ref a0), (.ref a0)] below meth c s₁ [] 0 0 := Stand.of_body Bd
  have e0 : s₁.heap = h0 := by rw [← hh, Bd.state]; rfl
  have N0 := Fr.nil n0
  have pre0 : ∀ t, Steps p.tables e below (s₁.setTop (mkF m 0 #[.val (.ref a0), .val (.ref a0), .unset] [])) t → Steps p.tables e below (s₁.setTop (entryFrame m #[(.ref a0), (.ref a0)] 3)) t := fun t k => castTop (ef_EE m a0 a0 ) k
  obtain ⟨T1, X1, e1, st1⟩ := instY X0 hx hZ hown (hw _ (List.mem_of_getElem? (i := 48) rfl)) e0 (Ins.self Exa_0) (g := (mkF m 1 #[.val (.ref a0), .val (.ref a0), .unset] [(.ref a0)])) rfl rfl (hb hby d7_1)
  obtain ⟨T2, X2, e2, st2⟩ := castY X1 hx hZ hown (hw _ (List.mem_of_getElem? (i := 48) rfl)) e1 (Ins.self Exa_0) (g := (mkF m 10 #[.val (.ref a0), .val (.ref a0), .unset] [(.ref a0)])) rfl rfl (hb hby d7_10)
  obtain ⟨T3, X3, e3, st3⟩ := getF X2 hx hZ hown (host := "") (Or.inl (hw _ (List.mem_of_getElem? (i := 39) rfl))) Via.refl e2 Ff_document_2 (g := (mkF m 15 #[.val (.ref a0), .val (.ref a0), .val (.ref a0)] [(.ref a0)])) rfl rfl (hb hby d7_15)
  obtain ⟨T4, X4, e4, st4⟩ := getF X3 hx hZ hown (host := "") (Or.inl (hw _ (List.mem_of_getElem? (i := 39) rfl))) Via.refl e3 Ff_document_2 (g := (mkF m 19 #[.val (.ref a0), .val (.ref a0), .val (.ref a0)] [(.ref a0), (.ref dd)])) rfl rfl (hb hby d7_19)
  obtain ⟨cq5, kq5, q5a, q5b, q5c⟩ := isOf hZ e4 Exa_1
  obtain ⟨_, _, ⟨T5, L5, k5, n5⟩, -, X5, ⟨Lc5, hQ5, l5, y5, z5⟩, st5⟩ := X4.virtualBack hx (y := (⟨"java/lang/String", "equals", "(Ljava/lang/Object;)Z"⟩ : MethodName)) (z := (⟨"java/lang/String", "equals", "(Ljava/lang/Object;)Z"⟩ : MethodName)) hown (mvT hZ (hw _ (List.mem_of_getElem? (i := 50) rfl))) (mvT hZ (hw _ (List.mem_of_getElem? (i := 51) rfl))) (notFace_of_selects (args := #[]) (mvT hZ (hw _ (List.mem_of_getElem? (i := 53) rfl)))) (mvT hZ (hw _ (List.mem_of_getElem? (i := 53) rfl))) (mvT hZ (hw _ (List.mem_of_getElem? (i := 52) rfl))) (by decide) (backOf (W := 0) (rmSS l Z aw hw [] dd h0 n0 Z0 ) hZ (hw _ (List.mem_of_getElem? (i := 54) rfl)) (hw _ (List.mem_of_getElem? (i := 6) rfl)) (by decide) (by decide)) q5a q5c (g := (mkF m 22 #[.val (.ref a0), .val (.ref a0), .val (.ref a0)] [(.ref dd), (.ref dd)])) rfl (by rw [hml]; rfl) (Steps.refl _) (argsL := [(.ref dd)]) (rest := []) (lenOf pd_11 rfl) rfl (by show 2 * 0 + _ ≤ _; exact Nat.le_of_eq rfl) (hb hby d7_22) (fun _ _ => ⟨rfl, e4, (by decide : 0 + 0 ≤ _), (by decide : 0 + 0 ≤ _)⟩)
  dsimp only [Pt.U, Pt.locs, Pt.cells, Pt.slots] at X5 l5 y5 z5 st5 hQ5
  subst l5 y5 z5
  obtain ⟨rfl, Nq5, e5⟩ := hQ5
  have N5 := Fr.app N0 Nq5
  obtain ⟨T6, X6, e6, st6⟩ := getF X5 hx hZ hown (host := "") (Or.inl (hw _ (List.mem_of_getElem? (i := 41) rfl))) Via.refl e5 Ff_count_3 (g := (mkF m 29 #[.val (.ref a0), .val (.ref a0), .val (.ref a0)] [(.ref a0)])) rfl rfl (hb hby d7_29)
  obtain ⟨T7, X7, e7, st7⟩ := getF X6 hx hZ hown (host := "") (Or.inl (hw _ (List.mem_of_getElem? (i := 41) rfl))) Via.refl e6 Ff_count_3 (g := (mkF m 33 #[.val (.ref a0), .val (.ref a0), .val (.ref a0)] [(.ref a0), (.int w_count_1)])) rfl rfl (hb hby d7_33)
  have pre8 : ∀ t, Steps p.tables e below (T7.setTop (mkF m 44 #[.val (.ref a0), .val (.ref a0), .val (.ref a0)] [(.int (1 : Int32))])) t → Steps p.tables e below (s₁.setTop (entryFrame m #[(.ref a0), (.ref a0)] 3)) t := fun t kt => pre0 t (by
      show Steps p.tables e below (s₁.setTop (mkF m 0 #[.val (.ref a0), .val (.ref a0), .unset] [])) _
      refine XS.aloadN X0.here hx rfl (hb hby d7_0) rfl rfl ?_
      show Steps p.tables e below (s₁.setTop (mkF m 1 #[.val (.ref a0), .val (.ref a0), .unset] [(.ref a0)])) _
      refine st1 _ ?_
      show Steps p.tables e below (T1.setTop (mkF m 4 #[.val (.ref a0), .val (.ref a0), .unset] [(.int (1 : Int32))])) _
      refine XS.ifYes X1.here hx rfl (pc0 := 4) (pc' := 9) rfl (hb hby d7_4) rfl ((if0 _ _).trans (feq (by decide : ¬ ((1 : Int32) = (0 : Int32)))).2) (by decide) (by decide) ?_
      show Steps p.tables e below (T1.setTop (mkF m 9 #[.val (.ref a0), .val (.ref a0), .unset] [])) _
      refine XS.aloadN X1.here hx rfl (hb hby d7_9) rfl rfl ?_
      show Steps p.tables e below (T1.setTop (mkF m 10 #[.val (.ref a0), .val (.ref a0), .unset] [(.ref a0)])) _
      refine st2 _ ?_
      show Steps p.tables e below (T2.setTop (mkF m 13 #[.val (.ref a0), .val (.ref a0), .unset] [(.ref a0)])) _
      refine XS.astoreN X2.here hx rfl (hb hby d7_13) rfl rfl (l' := #[.val (.ref a0), .val (.ref a0), .val (.ref a0)]) rfl ?_
      show Steps p.tables e below (T2.setTop (mkF m 14 #[.val (.ref a0), .val (.ref a0), .val (.ref a0)] [])) _
      refine XS.aloadN X2.here hx rfl (hb hby d7_14) rfl rfl ?_
      show Steps p.tables e below (T2.setTop (mkF m 15 #[.val (.ref a0), .val (.ref a0), .val (.ref a0)] [(.ref a0)])) _
      refine st3 _ ?_
      show Steps p.tables e below (T3.setTop (mkF m 18 #[.val (.ref a0), .val (.ref a0), .val (.ref a0)] [(.ref dd)])) _
      refine XS.aloadN X3.here hx rfl (hb hby d7_18) rfl rfl ?_
      show Steps p.tables e below (T3.setTop (mkF m 19 #[.val (.ref a0), .val (.ref a0), .val (.ref a0)] [(.ref a0), (.ref dd)])) _
      refine st4 _ ?_
      show Steps p.tables e below (T4.setTop (mkF m 22 #[.val (.ref a0), .val (.ref a0), .val (.ref a0)] [(.ref dd), (.ref dd)])) _
      refine st5.trans ?_
      show Steps p.tables e below (T5.setTop (mkF m 25 #[.val (.ref a0), .val (.ref a0), .val (.ref a0)] [(.int (1 : Int32))])) _
      refine XS.ifNo X5.here hx rfl (hb hby d7_25) rfl ((if0 _ _).trans (feq (by decide : ¬ ((1 : Int32) = (0 : Int32)))).1) ?_
      show Steps p.tables e below (T5.setTop (mkF m 28 #[.val (.ref a0), .val (.ref a0), .val (.ref a0)] [])) _
      refine XS.aloadN X5.here hx rfl (hb hby d7_28) rfl rfl ?_
      show Steps p.tables e below (T5.setTop (mkF m 29 #[.val (.ref a0), .val (.ref a0), .val (.ref a0)] [(.ref a0)])) _
      refine st6 _ ?_
      show Steps p.tables e below (T6.setTop (mkF m 32 #[.val (.ref a0), .val (.ref a0), .val (.ref a0)] [(.int w_count_1)])) _
      refine XS.aloadN X6.here hx rfl (hb hby d7_32) rfl rfl ?_
      show Steps p.tables e below (T6.setTop (mkF m 33 #[.val (.ref a0), .val (.ref a0), .val (.ref a0)] [(.ref a0), (.int w_count_1)])) _
      refine st7 _ ?_
      show Steps p.tables e below (T7.setTop (mkF m 36 #[.val (.ref a0), .val (.ref a0), .val (.ref a0)] [(.int w_count_1), (.int w_count_1)])) _
      refine XS.icmpNo X7.here hx rfl (hb hby d7_36) rfl (teq (rfl : w_count_1 = w_count_1)).2 ?_
      show Steps p.tables e below (T7.setTop (mkF m 39 #[.val (.ref a0), .val (.ref a0), .val (.ref a0)] [])) _
      refine XS.iconst X7.here hx rfl (hb hby d7_39) ?_
      show Steps p.tables e below (T7.setTop (mkF m 40 #[.val (.ref a0), .val (.ref a0), .val (.ref a0)] [(.int (1 : Int32))])) _
      refine XS.goto X7.here hx rfl (pc0 := 40) (pc' := 44) rfl (hb hby d7_40) (by decide) (by decide) ?_
      exact kt)
  obtain ⟨fs, hr, hrun, hended, hW, hsame⟩ := X7.leave (v := some (.int (1 : Int32))) (fun h => by rw [Bd.returns] at h; cases h)
  refine ⟨_, _, pre8 _ ?_, hrun, hended, _, _, rfl, ?_, ⟨_, rfl⟩, hW, hsame.mono (by decide) (by decide)⟩
  · show Steps p.tables e below (T7.setTop (mkF m 44 #[.val (.ref a0), .val (.ref a0), .val (.ref a0)] [(.int (1 : Int32))])) _
    exact retN X7 hx (t := .boolean) Bd.returns (by simp) (hb hby d7_44) hr
  · show QEE Z _ _ _ h0 n0 _ T7.heap _
    rw [e7]
    exact ⟨rfl, N5, rfl⟩
theorem d7_43 : decode prog_42_method_4_code 43 = .ok (.iconst 0, 1) := by decide +kernel
theorem ef_EQ (m : MethodId) (x0 : Addr) (x1 : Addr)  : entryFrame m #[(.ref x0), (.ref x1)] 3 = mkF m 0 #[.val (.ref x0), .val (.ref x1), .unset] [] := by first | (simp [entryFrame, mkF, argsToLocals, Value.category]; done) | rfl
def QEQ (Z : State) (a0 : Addr) (a1 : Addr) (d1 : Addr) (d2 : Addr) (n1 : Int32) (n2 : Int32) (v1 : Addr) (v2 : Addr) (k1 : ClassId) (k2 : ClassId) (z1 : Int32) (z2 : Int32) (x0 : Int32) (x1 : Int32) (y0 : Int32) (y1 : Int32) (w_COMPACT_STRINGS_14 : Int32) (h0 : Heap) (n0 : Nat) (v : Option Value) (h : Heap) (L : List Loc) : Prop := (∃ (r : Int32), v = some (.int r) ∧ ((((z1 = z2 ∧ (z1 < (1 : Int32) ∨ x0 = y0) ∧ (z1 < (2 : Int32) ∨ x1 = y1)) ∧ n1 = n2) → (1 : Int32) = r) ∧ (¬ ((z1 = z2 ∧ (z1 < (1 : Int32) ∨ x0 = y0) ∧ (z1 < (2 : Int32) ∨ x1 = y1)) ∧ n1 = n2) → (0 : Int32) = r))) ∧ Fr n0 L ∧ h = h0
set_option maxRecDepth 65536 in
set_option maxHeartbeats 40000000 in
theorem rmEQ (l : Launch) (Z : State) (aw : Array Value) (hw : ∀ d ∈ tables_1, d.before aw Z = true) (ws : List Jvm.Cond) (a0 : Addr) (a1 : Addr) (d1 : Addr) (d2 : Addr) (n1 : Int32) (n2 : Int32) (v1 : Addr) (v2 : Addr) (k1 : ClassId) (k2 : ClassId) (z1 : Int32) (z2 : Int32) (x0 : Int32) (x1 : Int32) (y0 : Int32) (y1 : Int32) (w_COMPACT_STRINGS_14 : Int32) (h0 : Heap) (n0 : Nat) (Z0 : n0 ≤ h0.size) (hz1 : (0 : Int32) = z1 ∨ (1 : Int32) = z1 ∨ (2 : Int32) = z1) (hc_x0 : own_c8 x0) (hc_x1 : own_c8 x1) (hc_y0 : own_c8 y0) (hc_y1 : own_c8 y1) (hne : d1 ≠ d2) (Exa_6 : Exa Z h0 a1 "com/example/gibbon/gibbon/search/Occurrences") (Fld_7 : Fld Z h0 a0 "com/example/gibbon/gibbon/search/Occurrences" "document" "Ljava/lang/String;" (.ref d1)) (Fld_8 : Fld Z h0 a1 "com/example/gibbon/gibbon/search/Occurrences" "document" "Ljava/lang/String;" (.ref d2)) (Fld_9 : Fld Z h0 a0 "com/example/gibbon/gibbon/search/Occurrences" "count" "I" (.int n1)) (Fld_10 : Fld Z h0 a1 "com/example/gibbon/gibbon/search/Occurrences" "count" "I" (.int n2)) (Exa_11 : Exa Z h0 d1 "java/lang/String") (Exa_12 : Exa Z h0 d2 "java/lang/String") (Fld_13 : Fld Z h0 d1 "java/lang/String" "value" "[B" (.ref v1)) (Fld_14 : Fld Z h0 d2 "java/lang/String" "value" "[B" (.ref v2)) (Fld_15 : Fld Z h0 d1 "java/lang/String" "coder" "B" (.int (0 : Int32))) (Fld_16 : Fld Z h0 d2 "java/lang/String" "coder" "B" (.int (0 : Int32))) (Arv_17 : Arv Z h0 v1 k1 .byte z1 (own_vs z1 x0 x1) (.int (0 : Int32))) (Arv_18 : Arv Z h0 v2 k2 .byte z2 (own_vs z2 y0 y1) (.int (0 : Int32))) (Sf_COMPACT_STRINGS_19 : Sta Z h0 "java/lang/String" "COMPACT_STRINGS" "Z" (.int w_COMPACT_STRINGS_14)) (hp6 : ¬ w_COMPACT_STRINGS_14 = (0 : Int32)) :
    MetFree l (⟨"com/example/gibbon/gibbon/search/Occurrences", "equals", "(Ljava/lang/Object;)Z"⟩ : MethodName) (head1 (Jvm.Cond.code (⟨"com/example/gibbon/gibbon/search/Occurrences", "equals", "(Ljava/lang/Object;)Z"⟩ : MethodName) prog_42_method_4_code 3 (some .boolean) :: ws) ({ frames := 2, cells := 0, slots := 0, locals := 28 } : Room)) (fun a U => a = #[(.ref a0), (.ref a1)] ∧ Z.Warmed39 U.vm ∧ U.heap = h0) (fun _ _ _ _ _ => True) (fun _ U o U' => ∃ v L, o = .returned v ∧ QEQ Z a0 a1 d1 d2 n1 n2 v1 v2 k1 k2 z1 z2 x0 x1 y0 y1 w_COMPACT_STRINGS_14 h0 n0 v U'.heap L ∧ FrameEnd U o U' L ({ frames := 2, cells := 0, slots := 0, locals := 28 } : Room).cells ({ frames := 2, cells := 0, slots := 0, locals := 28 } : Room).slots) := by
  refine MetFree.of_bodySF (plainFor_of_name pn_5) hisR ?_
  intro p e s m args below meth c s₁ Bd hml0 hP hK
  obtain ⟨rfl, hZ, hh⟩ := hP
  have hx := Bd.exec
  have hby := Bd.bytes
  have hml : c.maxLocals = 3 := hml0
  have hown : s.vm.findClass "com/example/gibbon/gibbon/search/Occurrences" = some m.cls := findClass_of_methodNamed Bd.named
  have hnm := (name_of_methodNamed Bd.named Bd.method).1
  have X0 : Stand p l e ({ frames := 2, cells := 0, slots := 0, locals := 28 } : Room) s m #[(.ref a0), (.ref a1)] below meth c s₁ [] 0 0 := Stand.of_body Bd
  have e0 : s₁.heap = h0 := by rw [← hh, Bd.state]; rfl
  have N0 := Fr.nil n0
  have pre0 : ∀ t, Steps p.tables e below (s₁.setTop (mkF m 0 #[.val (.ref a0), .val (.ref a1), .unset] [])) t → Steps p.tables e below (s₁.setTop (entryFrame m #[(.ref a0), (.ref a1)] 3)) t := fun t k => castTop (ef_EQ m a0 a1 ) k
  obtain ⟨T1, X1, e1, st1⟩ := instY X0 hx hZ hown (hw _ (List.mem_of_getElem? (i := 48) rfl)) e0 (Ins.self Exa_6) (g := (mkF m 1 #[.val (.ref a0), .val (.ref a1), .unset] [(.ref a1)])) rfl rfl (hb hby d7_1)
  obtain ⟨T2, X2, e2, st2⟩ := castY X1 hx hZ hown (hw _ (List.mem_of_getElem? (i := 48) rfl)) e1 (Ins.self Exa_6) (g := (mkF m 10 #[.val (.ref a0), .val (.ref a1), .unset] [(.ref a1)])) rfl rfl (hb hby d7_10)
  obtain ⟨T3, X3, e3, st3⟩ := getF X2 hx hZ hown (host := "") (Or.inl (hw _ (List.mem_of_getElem? (i := 39) rfl))) Via.refl e2 Fld_7 (g := (mkF m 15 #[.val (.ref a0), .val (.ref a1), .val (.ref a1)] [(.ref a0)])) rfl rfl (hb hby d7_15)
  obtain ⟨T4, X4, e4, st4⟩ := getF X3 hx hZ hown (host := "") (Or.inl (hw _ (List.mem_of_getElem? (i := 39) rfl))) Via.refl e3 Fld_8 (g := (mkF m 19 #[.val (.ref a0), .val (.ref a1), .val (.ref a1)] [(.ref a1), (.ref d1)])) rfl rfl (hb hby d7_19)
  obtain ⟨cq5, kq5, q5a, q5b, q5c⟩ := isOf hZ e4 Exa_11
  obtain ⟨_, _, ⟨T5, L5, k5, n5⟩, -, X5, ⟨Lc5, hQ5, l5, y5, z5⟩, st5⟩ := X4.virtualBack hx (y := (⟨"java/lang/String", "equals", "(Ljava/lang/Object;)Z"⟩ : MethodName)) (z := (⟨"java/lang/String", "equals", "(Ljava/lang/Object;)Z"⟩ : MethodName)) hown (mvT hZ (hw _ (List.mem_of_getElem? (i := 50) rfl))) (mvT hZ (hw _ (List.mem_of_getElem? (i := 51) rfl))) (notFace_of_selects (args := #[]) (mvT hZ (hw _ (List.mem_of_getElem? (i := 53) rfl)))) (mvT hZ (hw _ (List.mem_of_getElem? (i := 53) rfl))) (mvT hZ (hw _ (List.mem_of_getElem? (i := 52) rfl))) (by decide) (backOf (W := 0) (rmS2 l Z aw hw [] d1 d2 v1 v2 k1 k2 z1 z2 x0 x1 y0 y1 w_COMPACT_STRINGS_14 h0 n0 Z0 hz1 hc_x0 hc_x1 hc_y0 hc_y1 hne Exa_12 Fld_13 Fld_14 Fld_15 Fld_16 Arv_17 Arv_18 Sf_COMPACT_STRINGS_19 hp6) hZ (hw _ (List.mem_of_getElem? (i := 54) rfl)) (hw _ (List.mem_of_getElem? (i := 6) rfl)) (by decide) (by decide)) q5a q5c (g := (mkF m 22 #[.val (.ref a0), .val (.ref a1), .val (.ref a1)] [(.ref d2), (.ref d1)])) rfl (by rw [hml]; rfl) (Steps.refl _) (argsL := [(.ref d2)]) (rest := []) (lenOf pd_11 rfl) rfl (by show 2 * 0 + _ ≤ _; exact Nat.le_of_eq rfl) (hb hby d7_22) (fun _ _ => ⟨rfl, e4, (by decide : 0 + 0 ≤ _), (by decide : 0 + 0 ≤ _)⟩)
  dsimp only [Pt.U, Pt.locs, Pt.cells, Pt.slots] at X5 l5 y5 z5 st5 hQ5
  subst l5 y5 z5
  obtain ⟨⟨r7, rfl, Pr7⟩, Nq5, e5⟩ := hQ5
  have N5 := Fr.app N0 Nq5
  have pre8 : ∀ t, Steps p.tables e below (T5.setTop (mkF m 25 #[.val (.ref a0), .val (.ref a1), .val (.ref a1)] [(.int r7)])) t → Steps p.tables e below (s₁.setTop (entryFrame m #[(.ref a0), (.ref a1)] 3)) t := fun t kt => pre0 t (by
      show Steps p.tables e below (s₁.setTop (mkF m 0 #[.val (.ref a0), .val (.ref a1), .unset] [])) _
      refine XS.aloadN X0.here hx rfl (hb hby d7_0) rfl rfl ?_
      show Steps p.tables e below (s₁.setTop (mkF m 1 #[.val (.ref a0), .val (.ref a1), .unset] [(.ref a1)])) _
      refine st1 _ ?_
      show Steps p.tables e below (T1.setTop (mkF m 4 #[.val (.ref a0), .val (.ref a1), .unset] [(.int (1 : Int32))])) _
      refine XS.ifYes X1.here hx rfl (pc0 := 4) (pc' := 9) rfl (hb hby d7_4) rfl ((if0 _ _).trans (feq (by decide : ¬ ((1 : Int32) = (0 : Int32)))).2) (by decide) (by decide) ?_
      show Steps p.tables e below (T1.setTop (mkF m 9 #[.val (.ref a0), .val (.ref a1), .unset] [])) _
      refine XS.aloadN X1.here hx rfl (hb hby d7_9) rfl rfl ?_
      show Steps p.tables e below (T1.setTop (mkF m 10 #[.val (.ref a0), .val (.ref a1), .unset] [(.ref a1)])) _
      refine st2 _ ?_
      show Steps p.tables e below (T2.setTop (mkF m 13 #[.val (.ref a0), .val (.ref a1), .unset] [(.ref a1)])) _
      refine XS.astoreN X2.here hx rfl (hb hby d7_13) rfl rfl (l' := #[.val (.ref a0), .val (.ref a1), .val (.ref a1)]) rfl ?_
      show Steps p.tables e below (T2.setTop (mkF m 14 #[.val (.ref a0), .val (.ref a1), .val (.ref a1)] [])) _
      refine XS.aloadN X2.here hx rfl (hb hby d7_14) rfl rfl ?_
      show Steps p.tables e below (T2.setTop (mkF m 15 #[.val (.ref a0), .val (.ref a1), .val (.ref a1)] [(.ref a0)])) _
      refine st3 _ ?_
      show Steps p.tables e below (T3.setTop (mkF m 18 #[.val (.ref a0), .val (.ref a1), .val (.ref a1)] [(.ref d1)])) _
      refine XS.aloadN X3.here hx rfl (hb hby d7_18) rfl rfl ?_
      show Steps p.tables e below (T3.setTop (mkF m 19 #[.val (.ref a0), .val (.ref a1), .val (.ref a1)] [(.ref a1), (.ref d1)])) _
      refine st4 _ ?_
      show Steps p.tables e below (T4.setTop (mkF m 22 #[.val (.ref a0), .val (.ref a1), .val (.ref a1)] [(.ref d2), (.ref d1)])) _
      refine st5.trans ?_
      exact kt)
  by_cases hC9 : (z1 = z2 ∧ (z1 < (1 : Int32) ∨ x0 = y0) ∧ (z1 < (2 : Int32) ∨ x1 = y1))
  · skip
    obtain rfl : (1 : Int32) = r7 := Pr7.1 hC9
    obtain ⟨T10, X10, e10, st10⟩ := getF X5 hx hZ hown (host := "") (Or.inl (hw _ (List.mem_of_getElem? (i := 41) rfl))) Via.refl e5 Fld_9 (g := (mkF m 29 #[.val (.ref a0), .val (.ref a1), .val (.ref a1)] [(.ref a0)])) rfl rfl (hb hby d7_29)
    obtain ⟨T11, X11, e11, st11⟩ := getF X10 hx hZ hown (host := "") (Or.inl (hw _ (List.mem_of_getElem? (i := 41) rfl))) Via.refl e10 Fld_10 (g := (mkF m 33 #[.val (.ref a0), .val (.ref a1), .val (.ref a1)] [(.ref a1), (.int n1)])) rfl rfl (hb hby d7_33)
    have pre12 : ∀ t, Steps p.tables e below (T11.setTop (mkF m 36 #[.val (.ref a0), .val (.ref a1), .val (.ref a1)] [(.int n2), (.int n1)])) t → Steps p.tables e below (s₁.setTop (entryFrame m #[(.ref a0), (.ref a1)] 3)) t := fun t kt => pre8 t (by
        show Steps p.tables e below (T5.setTop (mkF m 25 #[.val (.ref a0), .val (.ref a1), .val (.ref a1)] [(.int (1 : Int32))])) _
        refine XS.ifNo X5.here hx rfl (hb hby d7_25) rfl ((if0 _ _).trans (feq (by decide : ¬ ((1 : Int32) = (0 : Int32)))).1) ?_
        show Steps p.tables e below (T5.setTop (mkF m 28 #[.val (.ref a0), .val (.ref a1), .val (.ref a1)] [])) _
        refine XS.aloadN X5.here hx rfl (hb hby d7_28) rfl rfl ?_
        show Steps p.tables e below (T5.setTop (mkF m 29 #[.val (.ref a0), .val (.ref a1), .val (.ref a1)] [(.ref a0)])) _
        refine st10 _ ?_
        show Steps p.tables e below (T10.setTop (mkF m 32 #[.val (.ref a0), .val (.ref a1), .val (.ref a1)] [(.int n1)])) _
        refine XS.aloadN X10.here hx rfl (hb hby d7_32) rfl rfl ?_
        show Steps p.tables e below (T10.setTop (mkF m 33 #[.val (.ref a0), .val (.ref a1), .val (.ref a1)] [(.ref a1), (.int n1)])) _
        refine st11 _ ?_
        exact kt)
    by_cases hc13 : n1 = n2
    · skip
      have pre14 : ∀ t, Steps p.tables e below (T11.setTop (mkF m 44 #[.val (.ref a0), .val (.ref a1), .val (.ref a1)] [(.int (1 : Int32))])) t → Steps p.tables e below (s₁.setTop (entryFrame m #[(.ref a0), (.ref a1)] 3)) t := fun t kt => pre12 t (by
          show Steps p.tables e below (T11.setTop (mkF m 36 #[.val (.ref a0), .val (.ref a1), .val (.ref a1)] [(.int n2), (.int n1)])) _
          refine XS.icmpNo X11.here hx rfl (hb hby d7_36) rfl (teq hc13).2 ?_
          show Steps p.tables e below (T11.setTop (mkF m 39 #[.val (.ref a0), .val (.ref a1), .val (.ref a1)] [])) _
          refine XS.iconst X11.here hx rfl (hb hby d7_39) ?_
          show Steps p.tables e below (T11.setTop (mkF m 40 #[.val (.ref a0), .val (.ref a1), .val (.ref a1)] [(.int (1 : Int32))])) _
          refine XS.goto X11.here hx rfl (pc0 := 40) (pc' := 44) rfl (hb hby d7_40) (by decide) (by decide) ?_
          exact kt)
      obtain ⟨fs, hr, hrun, hended, hW, hsame⟩ := X11.leave (v := some (.int (1 : Int32))) (fun h => by rw [Bd.returns] at h; cases h)
      refine ⟨_, _, pre14 _ ?_, hrun, hended, _, _, rfl, ?_, ⟨_, rfl⟩, hW, hsame.mono (by decide) (by decide)⟩
      · show Steps p.tables e below (T11.setTop (mkF m 44 #[.val (.ref a0), .val (.ref a1), .val (.ref a1)] [(.int (1 : Int32))])) _
        exact retN X11 hx (t := .boolean) Bd.returns (by simp) (hb hby d7_44) hr
      · show QEQ Z _ _ _ _ _ _ _ _ _ _ _ _ _ _ _ _ _ h0 n0 _ T11.heap _
        rw [e11]
        exact ⟨⟨_, rfl, ⟨fun _ => rfl, fun n => absurd ⟨hC9, hc13⟩ n⟩⟩, N5, rfl⟩
    · skip
      have pre15 : ∀ t, Steps p.tables e below (T11.setTop (mkF m 44 #[.val (.ref a0), .val (.ref a1), .val (.ref a1)] [(.int (0 : Int32))])) t → Steps p.tables e below (s₁.setTop (entryFrame m #[(.ref a0), (.ref a1)] 3)) t := fun t kt => pre12 t (by
          show Steps p.tables e below (T11.setTop (mkF m 36 #[.val (.ref a0), .val (.ref a1), .val (.ref a1)] [(.int n2), (.int n1)])) _
          refine XS.icmpYes X11.here hx rfl (pc0 := 36) (pc' := 43) rfl (hb hby d7_36) rfl (feq hc13).2 (by decide) (by decide) ?_
          show Steps p.tables e below (T11.setTop (mkF m 43 #[.val (.ref a0), .val (.ref a1), .val (.ref a1)] [])) _
          refine XS.iconst X11.here hx rfl (hb hby d7_43) ?_
          exact kt)
      obtain ⟨fs, hr, hrun, hended, hW, hsame⟩ := X11.leave (v := some (.int (0 : Int32))) (fun h => by rw [Bd.returns] at h; cases h)
      refine ⟨_, _, pre15 _ ?_, hrun, hended, _, _, rfl, ?_, ⟨_, rfl⟩, hW, hsame.mono (by decide) (by decide)⟩
      · show Steps p.tables e below (T11.setTop (mkF m 44 #[.val (.ref a0), .val (.ref a1), .val (.ref a1)] [(.int (0 : Int32))])) _
        exact retN X11 hx (t := .boolean) Bd.returns (by simp) (hb hby d7_44) hr
      · show QEQ Z _ _ _ _ _ _ _ _ _ _ _ _ _ _ _ _ _ h0 n0 _ T11.heap _
        rw [e11]
        exact ⟨⟨_, rfl, ⟨fun c => absurd c.2 hc13, fun _ => rfl⟩⟩, N5, rfl⟩
  · skip
    obtain rfl : (0 : Int32) = r7 := Pr7.2 hC9
    have pre16 : ∀ t, Steps p.tables e below (T5.setTop (mkF m 44 #[.val (.ref a0), .val (.ref a1), .val (.ref a1)] [(.int (0 : Int32))])) t → Steps p.tables e below (s₁.setTop (entryFrame m #[(.ref a0), (.ref a1)] 3)) t := fun t kt => pre8 t (by
        show Steps p.tables e below (T5.setTop (mkF m 25 #[.val (.ref a0), .val (.ref a1), .val (.ref a1)] [(.int (0 : Int32))])) _
        refine XS.ifYes X5.here hx rfl (pc0 := 25) (pc' := 43) rfl (hb hby d7_25) rfl ((if0 _ _).trans (teq (rfl : (0 : Int32) = (0 : Int32))).1) (by decide) (by decide) ?_
        show Steps p.tables e below (T5.setTop (mkF m 43 #[.val (.ref a0), .val (.ref a1), .val (.ref a1)] [])) _
        refine XS.iconst X5.here hx rfl (hb hby d7_43) ?_
        exact kt)
    obtain ⟨fs, hr, hrun, hended, hW, hsame⟩ := X5.leave (v := some (.int (0 : Int32))) (fun h => by rw [Bd.returns] at h; cases h)
    refine ⟨_, _, pre16 _ ?_, hrun, hended, _, _, rfl, ?_, ⟨_, rfl⟩, hW, hsame.mono (by decide) (by decide)⟩
    · show Steps p.tables e below (T5.setTop (mkF m 44 #[.val (.ref a0), .val (.ref a1), .val (.ref a1)] [(.int (0 : Int32))])) _
      exact retN X5 hx (t := .boolean) Bd.returns (by simp) (hb hby d7_44) hr
    · show QEQ Z _ _ _ _ _ _ _ _ _ _ _ _ _ _ _ _ _ h0 n0 _ T5.heap _
      rw [e5]
      exact ⟨⟨_, rfl, ⟨fun c => absurd c.1 hC9, fun _ => rfl⟩⟩, N5, rfl⟩
theorem pd_12 : parseMethodDescriptor "(ICC)Ljava/lang/String;" = some ⟨[.int, .char, .char], some (.object "java/lang/String")⟩ := by decide +kernel
theorem pd_13 : parseMethodDescriptor "(Ljava/lang/String;I)V" = some ⟨[(.object "java/lang/String"), .int], none⟩ := by decide +kernel
theorem ef_0 (m : MethodId) (x0 : Int32) (x1 : Int32) (x2 : Int32) (x3 : Int32) (x4 : Int32)  : entryFrame m #[(.int x0), (.int x1), (.int x2), (.int x3), (.int x4)] maxLocals = mkF m 0 #[.val (.int x0), .val (.int x1), .val (.int x2), .val (.int x3), .val (.int x4), .unset, .unset, .unset, .unset, .unset, .unset, .unset, .unset, .unset, .unset, .unset, .unset, .unset, .unset, .unset, .unset] [] := by first | (simp [entryFrame, mkF, argsToLocals, Value.category, maxLocals]; done) | rfl
def Q0 (Z : State) (p0 : Int32) (p1 : Int32) (p2 : Int32) (p3 : Int32) (p4 : Int32) (w_COMPACT_STRINGS_1 : Int32) (h0 : Heap) (n0 : Nat) (v : Option Value) (h : Heap) (L : List Loc) : Prop := v = some (.int (1 : Int32)) ∧ Fr n0 L ∧ (True)
set_option maxRecDepth 65536 in
set_option maxHeartbeats 40000000 in
theorem rm0 (l : Launch) (Z : State) (aw : Array Value) (hw : ∀ d ∈ tables_1, d.before aw Z = true) (ws : List Jvm.Cond) (p0 : Int32) (p1 : Int32) (p2 : Int32) (p3 : Int32) (p4 : Int32) (w_COMPACT_STRINGS_1 : Int32) (h0 : Heap) (n0 : Nat) (Z0 : n0 ≤ h0.size) (S_COMPACT_STRINGS_0 : Sta Z h0 "java/lang/String" "COMPACT_STRINGS" "Z" (.int w_COMPACT_STRINGS_1)) (hne_1 : ¬ w_COMPACT_STRINGS_1 = (0 : Int32)) :
    MetFree l x (head1 (Jvm.Cond.code x code maxLocals ret :: ws) room_1) (fun a U => a = #[(.int p0), (.int p1), (.int p2), (.int p3), (.int p4)] ∧ Z.Warmed39 U.vm ∧ U.heap = h0 ∧ CHv Z consts_1 U.vm h0) (fun _ _ _ _ _ => True) (fun _ U o U' => ∃ v L, o = .returned v ∧ Q0 Z p0 p1 p2 p3 p4 w_COMPACT_STRINGS_1 h0 n0 v U'.heap L ∧ CHr Z consts_1 U.vm U.heap U'.vm U'.heap ∧ ReturnedEndW U o U' L room_1.cells room_1.slots) := by
  refine MetFree.of_bodySF (plainFor_of_name pn_3) hisR ?_
  intro p e s m args below meth c s₁ Bd hml0 hP hK
  obtain ⟨rfl, hZ, hh, H0⟩ := hP
  have hx := Bd.exec
  have hby := Bd.bytes
  have hml : c.maxLocals = 21 := hml0
  have hown : s.vm.findClass "com/example/gibbon/gibbon/search/OccurrencesEqualsPinLaw" = some m.cls := findClass_of_methodNamed Bd.named
  have hnm := (name_of_methodNamed Bd.named Bd.method).1
  have X0 : Stand p l e room_1 (s.setVm s.vm) m #[(.int p0), (.int p1), (.int p2), (.int p3), (.int p4)] below meth c s₁ [] 0 0 := Stand.of_body Bd
  have e0 : s₁.heap = h0 := by rw [← hh, Bd.state]; rfl
  have N0 := Fr.nil n0
  have hEL := own_EW hw
  have wS := own_wS hw
  have hS0 : s.Since s.vm 0 := (State.WarmedH.refl s).since 0
  have pre0 : ∀ t, Steps p.tables e below (s₁.setTop (mkF m 0 #[.val (.int p0), .val (.int p1), .val (.int p2), .val (.int p3), .val (.int p4), .unset, .unset, .unset, .unset, .unset, .unset, .unset, .unset, .unset, .unset, .unset, .unset, .unset, .unset, .unset, .unset] [])) t → Steps p.tables e below (s₁.setTop (entryFrame m #[(.int p0), (.int p1), (.int p2), (.int p3), (.int p4)] maxLocals)) t := fun t k => castTop (ef_0 m p0 p1 p2 p3 p4 ) k
  refine cps (A := ∃ (l1 : Int32) (sd : Int32) (sc : Int32) (md : Int32) (l2 : Int32) (bb : Int32) (xa : Int32) (xb : Int32) (ya : Int32) (yb : Int32), (((0 : Int32) = l1 ∨ (1 : Int32) = l1 ∨ (2 : Int32) = l1) ∧ ((0 : Int32) = l2 ∨ (1 : Int32) = l2 ∨ (2 : Int32) = l2) ∧ own_c8 xa ∧ own_c8 xb ∧ own_c8 ya ∧ own_c8 yb) ∧ ∀ t, Steps p.tables e below (s₁.setTop (mkF m 118 #[.val (.int p0), .val (.int p1), .val (.int p2), .val (.int p3), .val (.int p4), .val (.int l1), .val (.int sd), .val (.int sc), .val (.int md), .val (.int l2), .val (.int bb), .val (.int xa), .val (.int xb), .val (.int ya), .val (.int yb), .unset, .unset, .unset, .unset, .unset, .unset] [])) t → Steps p.tables e below (s₁.setTop (entryFrame m #[(.int p0), (.int p1), (.int p2), (.int p3), (.int p4)] maxLocals)) t) (fun kk1 => ?_) (fun hA => ?_)
  · skip
    have pre2 : ∀ t, Steps p.tables e below (s₁.setTop (mkF m 12 #[.val (.int p0), .val (.int p1), .val (.int p2), .val (.int p3), .val (.int p4), .val (.int ((p4 &&& (3 : Int32)) % (3 : Int32))), .unset, .unset, .unset, .unset, .unset, .unset, .unset, .unset, .unset, .unset, .unset, .unset, .unset, .unset, .unset] [(.int (p4 &&& (4 : Int32)))])) t → Steps p.tables e below (s₁.setTop (entryFrame m #[(.int p0), (.int p1), (.int p2), (.int p3), (.int p4)] maxLocals)) t := fun t kt => pre0 t (by
        show Steps p.tables e below (s₁.setTop (mkF m 0 #[.val (.int p0), .val (.int p1), .val (.int p2), .val (.int p3), .val (.int p4), .unset, .unset, .unset, .unset, .unset, .unset, .unset, .unset, .unset, .unset, .unset, .unset, .unset, .unset, .unset, .unset] [])) _
        refine XS.iload X0.here hx rfl (hb hby at_0) rfl ?_
        show Steps p.tables e below (s₁.setTop (mkF m 2 #[.val (.int p0), .val (.int p1), .val (.int p2), .val (.int p3), .val (.int p4), .unset, .unset, .unset, .unset, .unset, .unset, .unset, .unset, .unset, .unset, .unset, .unset, .unset, .unset, .unset, .unset] [(.int p4)])) _
        refine XS.iconst X0.here hx rfl (hb hby at_2) ?_
        show Steps p.tables e below (s₁.setTop (mkF m 3 #[.val (.int p0), .val (.int p1), .val (.int p2), .val (.int p3), .val (.int p4), .unset, .unset, .unset, .unset, .unset, .unset, .unset, .unset, .unset, .unset, .unset, .unset, .unset, .unset, .unset, .unset] [(.int (3 : Int32)), (.int p4)])) _
        refine XS.iand X0.here hx rfl (hb hby at_3) rfl ?_
        show Steps p.tables e below (s₁.setTop (mkF m 4 #[.val (.int p0), .val (.int p1), .val (.int p2), .val (.int p3), .val (.int p4), .unset, .unset, .unset, .unset, .unset, .unset, .unset, .unset, .unset, .unset, .unset, .unset, .unset, .unset, .unset, .unset] [(.int (p4 &&& (3 : Int32)))])) _
        refine XS.iconst X0.here hx rfl (hb hby at_4) ?_
        show Steps p.tables e below (s₁.setTop (mkF m 5 #[.val (.int p0), .val (.int p1), .val (.int p2), .val (.int p3), .val (.int p4), .unset, .unset, .unset, .unset, .unset, .unset, .unset, .unset, .unset, .unset, .unset, .unset, .unset, .unset, .unset, .unset] [(.int (3 : Int32)), (.int (p4 &&& (3 : Int32)))])) _
        refine iremM X0 hx rfl (hb hby at_5) rfl (by decide) ?_
        show Steps p.tables e below (s₁.setTop (mkF m 6 #[.val (.int p0), .val (.int p1), .val (.int p2), .val (.int p3), .val (.int p4), .unset, .unset, .unset, .unset, .unset, .unset, .unset, .unset, .unset, .unset, .unset, .unset, .unset, .unset, .unset, .unset] [(.int ((p4 &&& (3 : Int32)) % (3 : Int32)))])) _
        refine XS.istore X0.here hx rfl (hb hby at_6) rfl (l' := #[.val (.int p0), .val (.int p1), .val (.int p2), .val (.int p3), .val (.int p4), .val (.int ((p4 &&& (3 : Int32)) % (3 : Int32))), .unset, .unset, .unset, .unset, .unset, .unset, .unset, .unset, .unset, .unset, .unset, .unset, .unset, .unset, .unset]) rfl ?_
        show Steps p.tables e below (s₁.setTop (mkF m 8 #[.val (.int p0), .val (.int p1), .val (.int p2), .val (.int p3), .val (.int p4), .val (.int ((p4 &&& (3 : Int32)) % (3 : Int32))), .unset, .unset, .unset, .unset, .unset, .unset, .unset, .unset, .unset, .unset, .unset, .unset, .unset, .unset, .unset] [])) _
        refine XS.iload X0.here hx rfl (hb hby at_8) rfl ?_
        show Steps p.tables e below (s₁.setTop (mkF m 10 #[.val (.int p0), .val (.int p1), .val (.int p2), .val (.int p3), .val (.int p4), .val (.int ((p4 &&& (3 : Int32)) % (3 : Int32))), .unset, .unset, .unset, .unset, .unset, .unset, .unset, .unset, .unset, .unset, .unset, .unset, .unset, .unset, .unset] [(.int p4)])) _
        refine XS.iconst X0.here hx rfl (hb hby at_10) ?_
        show Steps p.tables e below (s₁.setTop (mkF m 11 #[.val (.int p0), .val (.int p1), .val (.int p2), .val (.int p3), .val (.int p4), .val (.int ((p4 &&& (3 : Int32)) % (3 : Int32))), .unset, .unset, .unset, .unset, .unset, .unset, .unset, .unset, .unset, .unset, .unset, .unset, .unset, .unset, .unset] [(.int (4 : Int32)), (.int p4)])) _
        refine XS.iand X0.here hx rfl (hb hby at_11) rfl ?_
        exact kt)
    by_cases hc3 : (p4 &&& (4 : Int32)) = (0 : Int32)
    · skip
      have pre4 : ∀ t, Steps p.tables e below (s₁.setTop (mkF m 27 #[.val (.int p0), .val (.int p1), .val (.int p2), .val (.int p3), .val (.int p4), .val (.int ((p4 &&& (3 : Int32)) % (3 : Int32))), .val (.int (0 : Int32)), .unset, .unset, .unset, .unset, .unset, .unset, .unset, .unset, .unset, .unset, .unset, .unset, .unset, .unset] [(.int (p4 &&& (8 : Int32)))])) t → Steps p.tables e below (s₁.setTop (entryFrame m #[(.int p0), (.int p1), (.int p2), (.int p3), (.int p4)] maxLocals)) t := fun t kt => pre2 t (by
          show Steps p.tables e below (s₁.setTop (mkF m 12 #[.val (.int p0), .val (.int p1), .val (.int p2), .val (.int p3), .val (.int p4), .val (.int ((p4 &&& (3 : Int32)) % (3 : Int32))), .unset, .unset, .unset, .unset, .unset, .unset, .unset, .unset, .unset, .unset, .unset, .unset, .unset, .unset, .unset] [(.int (p4 &&& (4 : Int32)))])) _
          refine XS.ifYes X0.here hx rfl (pc0 := 12) (pc' := 19) rfl (hb hby at_12) rfl ((if0 _ _).trans (teq hc3).1) (by decide) (by decide) ?_
          show Steps p.tables e below (s₁.setTop (mkF m 19 #[.val (.int p0), .val (.int p1), .val (.int p2), .val (.int p3), .val (.int p4), .val (.int ((p4 &&& (3 : Int32)) % (3 : Int32))), .unset, .unset, .unset, .unset, .unset, .unset, .unset, .unset, .unset, .unset, .unset, .unset, .unset, .unset, .unset] [])) _
          refine XS.iconst X0.here hx rfl (hb hby at_19) ?_
          show Steps p.tables e below (s₁.setTop (mkF m 20 #[.val (.int p0), .val (.int p1), .val (.int p2), .val (.int p3), .val (.int p4), .val (.int ((p4 &&& (3 : Int32)) % (3 : Int32))), .unset, .unset, .unset, .unset, .unset, .unset, .unset, .unset, .unset, .unset, .unset, .unset, .unset, .unset, .unset] [(.int (0 : Int32))])) _
          refine XS.istore X0.here hx rfl (hb hby at_20) rfl (l' := #[.val (.int p0), .val (.int p1), .val (.int p2), .val (.int p3), .val (.int p4), .val (.int ((p4 &&& (3 : Int32)) % (3 : Int32))), .val (.int (0 : Int32)), .unset, .unset, .unset, .unset, .unset, .unset, .unset, .unset, .unset, .unset, .unset, .unset, .unset, .unset]) rfl ?_
          show Steps p.tables e below (s₁.setTop (mkF m 22 #[.val (.int p0), .val (.int p1), .val (.int p2), .val (.int p3), .val (.int p4), .val (.int ((p4 &&& (3 : Int32)) % (3 : Int32))), .val (.int (0 : Int32)), .unset, .unset, .unset, .unset, .unset, .unset, .unset, .unset, .unset, .unset, .unset, .unset, .unset, .unset] [])) _
          refine XS.iload X0.here hx rfl (hb hby at_22) rfl ?_
          show Steps p.tables e below (s₁.setTop (mkF m 24 #[.val (.int p0), .val (.int p1), .val (.int p2), .val (.int p3), .val (.int p4), .val (.int ((p4 &&& (3 : Int32)) % (3 : Int32))), .val (.int (0 : Int32)), .unset, .unset, .unset, .unset, .unset, .unset, .unset, .unset, .unset, .unset, .unset, .unset, .unset, .unset] [(.int p4)])) _
          refine XS.bipush X0.here hx rfl (hb hby at_24) ?_
          show Steps p.tables e below (s₁.setTop (mkF m 26 #[.val (.int p0), .val (.int p1), .val (.int p2), .val (.int p3), .val (.int p4), .val (.int ((p4 &&& (3 : Int32)) % (3 : Int32))), .val (.int (0 : Int32)), .unset, .unset, .unset, .unset, .unset, .unset, .unset, .unset, .unset, .unset, .unset, .unset, .unset, .unset] [(.int (8 : Int32)), (.int p4)])) _
          refine XS.iand X0.here hx rfl (hb hby at_26) rfl ?_
          exact kt)
      by_cases hc5 : (p4 &&& (8 : Int32)) = (0 : Int32)
      · skip
        have pre6 : ∀ t, Steps p.tables e below (s₁.setTop (mkF m 118 #[.val (.int p0), .val (.int p1), .val (.int p2), .val (.int p3), .val (.int p4), .val (.int ((p4 &&& (3 : Int32)) % (3 : Int32))), .val (.int (0 : Int32)), .val (.int (0 : Int32)), .val (.int (((p4.toUInt32 >>> ((4 : Int32) &&& 31).toUInt32).toInt32) &&& (3 : Int32))), .val (.int ((((p4.toUInt32 >>> ((6 : Int32) &&& 31).toUInt32).toInt32) &&& (3 : Int32)) % (3 : Int32))), .val (.int p1), .val (.int ((p0 &&& (255 : Int32)).toUInt32.toUInt16.toUInt32.toInt32)), .val (.int ((((p0.toUInt32 >>> ((8 : Int32) &&& 31).toUInt32).toInt32) &&& (255 : Int32)).toUInt32.toUInt16.toUInt32.toInt32)), .val (.int ((p1 &&& (255 : Int32)).toUInt32.toUInt16.toUInt32.toInt32)), .val (.int ((((p1.toUInt32 >>> ((8 : Int32) &&& 31).toUInt32).toInt32) &&& (255 : Int32)).toUInt32.toUInt16.toUInt32.toInt32)), .unset, .unset, .unset, .unset, .unset, .unset] [])) t → Steps p.tables e below (s₁.setTop (entryFrame m #[(.int p0), (.int p1), (.int p2), (.int p3), (.int p4)] maxLocals)) t := fun t kt => pre4 t (by
            show Steps p.tables e below (s₁.setTop (mkF m 27 #[.val (.int p0), .val (.int p1), .val (.int p2), .val (.int p3), .val (.int p4), .val (.int ((p4 &&& (3 : Int32)) % (3 : Int32))), .val (.int (0 : Int32)), .unset, .unset, .unset, .unset, .unset, .unset, .unset, .unset, .unset, .unset, .unset, .unset, .unset, .unset] [(.int (p4 &&& (8 : Int32)))])) _
            refine XS.ifYes X0.here hx rfl (pc0 := 27) (pc' := 34) rfl (hb hby at_27) rfl ((if0 _ _).trans (teq hc5).1) (by decide) (by decide) ?_
            show Steps p.tables e below (s₁.setTop (mkF m 34 #[.val (.int p0), .val (.int p1), .val (.int p2), .val (.int p3), .val (.int p4), .val (.int ((p4 &&& (3 : Int32)) % (3 : Int32))), .val (.int (0 : Int32)), .unset, .unset, .unset, .unset, .unset, .unset, .unset, .unset, .unset, .unset, .unset, .unset, .unset, .unset] [])) _
            refine XS.iconst X0.here hx rfl (hb hby at_34) ?_
            show Steps p.tables e below (s₁.setTop (mkF m 35 #[.val (.int p0), .val (.int p1), .val (.int p2), .val (.int p3), .val (.int p4), .val (.int ((p4 &&& (3 : Int32)) % (3 : Int32))), .val (.int (0 : Int32)), .unset, .unset, .unset, .unset, .unset, .unset, .unset, .unset, .unset, .unset, .unset, .unset, .unset, .unset] [(.int (0 : Int32))])) _
            refine XS.istore X0.here hx rfl (hb hby at_35) rfl (l' := #[.val (.int p0), .val (.int p1), .val (.int p2), .val (.int p3), .val (.int p4), .val (.int ((p4 &&& (3 : Int32)) % (3 : Int32))), .val (.int (0 : Int32)), .val (.int (0 : Int32)), .unset, .unset, .unset, .unset, .unset, .unset, .unset, .unset, .unset, .unset, .unset, .unset, .unset]) rfl ?_
            show Steps p.tables e below (s₁.setTop (mkF m 37 #[.val (.int p0), .val (.int p1), .val (.int p2), .val (.int p3), .val (.int p4), .val (.int ((p4 &&& (3 : Int32)) % (3 : Int32))), .val (.int (0 : Int32)), .val (.int (0 : Int32)), .unset, .unset, .unset, .unset, .unset, .unset, .unset, .unset, .unset, .unset, .unset, .unset, .unset] [])) _
            refine XS.iload X0.here hx rfl (hb hby at_37) rfl ?_
            show Steps p.tables e below (s₁.setTop (mkF m 39 #[.val (.int p0), .val (.int p1), .val (.int p2), .val (.int p3), .val (.int p4), .val (.int ((p4 &&& (3 : Int32)) % (3 : Int32))), .val (.int (0 : Int32)), .val (.int (0 : Int32)), .unset, .unset, .unset, .unset, .unset, .unset, .unset, .unset, .unset, .unset, .unset, .unset, .unset] [(.int p4)])) _
            refine XS.iconst X0.here hx rfl (hb hby at_39) ?_
            show Steps p.tables e below (s₁.setTop (mkF m 40 #[.val (.int p0), .val (.int p1), .val (.int p2), .val (.int p3), .val (.int p4), .val (.int ((p4 &&& (3 : Int32)) % (3 : Int32))), .val (.int (0 : Int32)), .val (.int (0 : Int32)), .unset, .unset, .unset, .unset, .unset, .unset, .unset, .unset, .unset, .unset, .unset, .unset, .unset] [(.int (4 : Int32)), (.int p4)])) _
            refine XS.iushr X0.here hx rfl (hb hby at_40) rfl ?_
            show Steps p.tables e below (s₁.setTop (mkF m 41 #[.val (.int p0), .val (.int p1), .val (.int p2), .val (.int p3), .val (.int p4), .val (.int ((p4 &&& (3 : Int32)) % (3 : Int32))), .val (.int (0 : Int32)), .val (.int (0 : Int32)), .unset, .unset, .unset, .unset, .unset, .unset, .unset, .unset, .unset, .unset, .unset, .unset, .unset] [(.int ((p4.toUInt32 >>> ((4 : Int32) &&& 31).toUInt32).toInt32))])) _
            refine XS.iconst X0.here hx rfl (hb hby at_41) ?_
            show Steps p.tables e below (s₁.setTop (mkF m 42 #[.val (.int p0), .val (.int p1), .val (.int p2), .val (.int p3), .val (.int p4), .val (.int ((p4 &&& (3 : Int32)) % (3 : Int32))), .val (.int (0 : Int32)), .val (.int (0 : Int32)), .unset, .unset, .unset, .unset, .unset, .unset, .unset, .unset, .unset, .unset, .unset, .unset, .unset] [(.int (3 : Int32)), (.int ((p4.toUInt32 >>> ((4 : Int32) &&& 31).toUInt32).toInt32))])) _
            refine XS.iand X0.here hx rfl (hb hby at_42) rfl ?_
            show Steps p.tables e below (s₁.setTop (mkF m 43 #[.val (.int p0), .val (.int p1), .val (.int p2), .val (.int p3), .val (.int p4), .val (.int ((p4 &&& (3 : Int32)) % (3 : Int32))), .val (.int (0 : Int32)), .val (.int (0 : Int32)), .unset, .unset, .unset, .unset, .unset, .unset, .unset, .unset, .unset, .unset, .unset, .unset, .unset] [(.int (((p4.toUInt32 >>> ((4 : Int32) &&& 31).toUInt32).toInt32) &&& (3 : Int32)))])) _
            refine XS.istore X0.here hx rfl (hb hby at_43) rfl (l' := #[.val (.int p0), .val (.int p1), .val (.int p2), .val (.int p3), .val (.int p4), .val (.int ((p4 &&& (3 : Int32)) % (3 : Int32))), .val (.int (0 : Int32)), .val (.int (0 : Int32)), .val (.int (((p4.toUInt32 >>> ((4 : Int32) &&& 31).toUInt32).toInt32) &&& (3 : Int32))), .unset, .unset, .unset, .unset, .unset, .unset, .unset, .unset, .unset, .unset, .unset, .unset]) rfl ?_
            show Steps p.tables e below (s₁.setTop (mkF m 45 #[.val (.int p0), .val (.int p1), .val (.int p2), .val (.int p3), .val (.int p4), .val (.int ((p4 &&& (3 : Int32)) % (3 : Int32))), .val (.int (0 : Int32)), .val (.int (0 : Int32)), .val (.int (((p4.toUInt32 >>> ((4 : Int32) &&& 31).toUInt32).toInt32) &&& (3 : Int32))), .unset, .unset, .unset, .unset, .unset, .unset, .unset, .unset, .unset, .unset, .unset, .unset] [])) _
            refine XS.iload X0.here hx rfl (hb hby at_45) rfl ?_
            show Steps p.tables e below (s₁.setTop (mkF m 47 #[.val (.int p0), .val (.int p1), .val (.int p2), .val (.int p3), .val (.int p4), .val (.int ((p4 &&& (3 : Int32)) % (3 : Int32))), .val (.int (0 : Int32)), .val (.int (0 : Int32)), .val (.int (((p4.toUInt32 >>> ((4 : Int32) &&& 31).toUInt32).toInt32) &&& (3 : Int32))), .unset, .unset, .unset, .unset, .unset, .unset, .unset, .unset, .unset, .unset, .unset, .unset] [(.int (0 : Int32))])) _
            refine XS.ifYes X0.here hx rfl (pc0 := 47) (pc' := 55) rfl (hb hby at_47) rfl ((if0 _ _).trans (teq (rfl : (0 : Int32) = (0 : Int32))).1) (by decide) (by decide) ?_
            show Steps p.tables e below (s₁.setTop (mkF m 55 #[.val (.int p0), .val (.int p1), .val (.int p2), .val (.int p3), .val (.int p4), .val (.int ((p4 &&& (3 : Int32)) % (3 : Int32))), .val (.int (0 : Int32)), .val (.int (0 : Int32)), .val (.int (((p4.toUInt32 >>> ((4 : Int32) &&& 31).toUInt32).toInt32) &&& (3 : Int32))), .unset, .unset, .unset, .unset, .unset, .unset, .unset, .unset, .unset, .unset, .unset, .unset] [])) _
            refine XS.iload X0.here hx rfl (hb hby at_55) rfl ?_
            show Steps p.tables e below (s₁.setTop (mkF m 57 #[.val (.int p0), .val (.int p1), .val (.int p2), .val (.int p3), .val (.int p4), .val (.int ((p4 &&& (3 : Int32)) % (3 : Int32))), .val (.int (0 : Int32)), .val (.int (0 : Int32)), .val (.int (((p4.toUInt32 >>> ((4 : Int32) &&& 31).toUInt32).toInt32) &&& (3 : Int32))), .unset, .unset, .unset, .unset, .unset, .unset, .unset, .unset, .unset, .unset, .unset, .unset] [(.int p4)])) _
            refine XS.bipush X0.here hx rfl (hb hby at_57) ?_
            show Steps p.tables e below (s₁.setTop (mkF m 59 #[.val (.int p0), .val (.int p1), .val (.int p2), .val (.int p3), .val (.int p4), .val (.int ((p4 &&& (3 : Int32)) % (3 : Int32))), .val (.int (0 : Int32)), .val (.int (0 : Int32)), .val (.int (((p4.toUInt32 >>> ((4 : Int32) &&& 31).toUInt32).toInt32) &&& (3 : Int32))), .unset, .unset, .unset, .unset, .unset, .unset, .unset, .unset, .unset, .unset, .unset, .unset] [(.int (6 : Int32)), (.int p4)])) _
            refine XS.iushr X0.here hx rfl (hb hby at_59) rfl ?_
            show Steps p.tables e below (s₁.setTop (mkF m 60 #[.val (.int p0), .val (.int p1), .val (.int p2), .val (.int p3), .val (.int p4), .val (.int ((p4 &&& (3 : Int32)) % (3 : Int32))), .val (.int (0 : Int32)), .val (.int (0 : Int32)), .val (.int (((p4.toUInt32 >>> ((4 : Int32) &&& 31).toUInt32).toInt32) &&& (3 : Int32))), .unset, .unset, .unset, .unset, .unset, .unset, .unset, .unset, .unset, .unset, .unset, .unset] [(.int ((p4.toUInt32 >>> ((6 : Int32) &&& 31).toUInt32).toInt32))])) _
            refine XS.iconst X0.here hx rfl (hb hby at_60) ?_
            show Steps p.tables e below (s₁.setTop (mkF m 61 #[.val (.int p0), .val (.int p1), .val (.int p2), .val (.int p3), .val (.int p4), .val (.int ((p4 &&& (3 : Int32)) % (3 : Int32))), .val (.int (0 : Int32)), .val (.int (0 : Int32)), .val (.int (((p4.toUInt32 >>> ((4 : Int32) &&& 31).toUInt32).toInt32) &&& (3 : Int32))), .unset, .unset, .unset, .unset, .unset, .unset, .unset, .unset, .unset, .unset, .unset, .unset] [(.int (3 : Int32)), (.int ((p4.toUInt32 >>> ((6 : Int32) &&& 31).toUInt32).toInt32))])) _
            refine XS.iand X0.here hx rfl (hb hby at_61) rfl ?_
            show Steps p.tables e below (s₁.setTop (mkF m 62 #[.val (.int p0), .val (.int p1), .val (.int p2), .val (.int p3), .val (.int p4), .val (.int ((p4 &&& (3 : Int32)) % (3 : Int32))), .val (.int (0 : Int32)), .val (.int (0 : Int32)), .val (.int (((p4.toUInt32 >>> ((4 : Int32) &&& 31).toUInt32).toInt32) &&& (3 : Int32))), .unset, .unset, .unset, .unset, .unset, .unset, .unset, .unset, .unset, .unset, .unset, .unset] [(.int (((p4.toUInt32 >>> ((6 : Int32) &&& 31).toUInt32).toInt32) &&& (3 : Int32)))])) _
            refine XS.iconst X0.here hx rfl (hb hby at_62) ?_
            show Steps p.tables e below (s₁.setTop (mkF m 63 #[.val (.int p0), .val (.int p1), .val (.int p2), .val (.int p3), .val (.int p4), .val (.int ((p4 &&& (3 : Int32)) % (3 : Int32))), .val (.int (0 : Int32)), .val (.int (0 : Int32)), .val (.int (((p4.toUInt32 >>> ((4 : Int32) &&& 31).toUInt32).toInt32) &&& (3 : Int32))), .unset, .unset, .unset, .unset, .unset, .unset, .unset, .unset, .unset, .unset, .unset, .unset] [(.int (3 : Int32)), (.int (((p4.toUInt32 >>> ((6 : Int32) &&& 31).toUInt32).toInt32) &&& (3 : Int32)))])) _
            refine iremM X0 hx rfl (hb hby at_63) rfl (by decide) ?_
            show Steps p.tables e below (s₁.setTop (mkF m 64 #[.val (.int p0), .val (.int p1), .val (.int p2), .val (.int p3), .val (.int p4), .val (.int ((p4 &&& (3 : Int32)) % (3 : Int32))), .val (.int (0 : Int32)), .val (.int (0 : Int32)), .val (.int (((p4.toUInt32 >>> ((4 : Int32) &&& 31).toUInt32).toInt32) &&& (3 : Int32))), .unset, .unset, .unset, .unset, .unset, .unset, .unset, .unset, .unset, .unset, .unset, .unset] [(.int ((((p4.toUInt32 >>> ((6 : Int32) &&& 31).toUInt32).toInt32) &&& (3 : Int32)) % (3 : Int32)))])) _
            refine XS.istore X0.here hx rfl (hb hby at_64) rfl (l' := #[.val (.int p0), .val (.int p1), .val (.int p2), .val (.int p3), .val (.int p4), .val (.int ((p4 &&& (3 : Int32)) % (3 : Int32))), .val (.int (0 : Int32)), .val (.int (0 : Int32)), .val (.int (((p4.toUInt32 >>> ((4 : Int32) &&& 31).toUInt32).toInt32) &&& (3 : Int32))), .val (.int ((((p4.toUInt32 >>> ((6 : Int32) &&& 31).toUInt32).toInt32) &&& (3 : Int32)) % (3 : Int32))), .unset, .unset, .unset, .unset, .unset, .unset, .unset, .unset, .unset, .unset, .unset]) rfl ?_
            show Steps p.tables e below (s₁.setTop (mkF m 66 #[.val (.int p0), .val (.int p1), .val (.int p2), .val (.int p3), .val (.int p4), .val (.int ((p4 &&& (3 : Int32)) % (3 : Int32))), .val (.int (0 : Int32)), .val (.int (0 : Int32)), .val (.int (((p4.toUInt32 >>> ((4 : Int32) &&& 31).toUInt32).toInt32) &&& (3 : Int32))), .val (.int ((((p4.toUInt32 >>> ((6 : Int32) &&& 31).toUInt32).toInt32) &&& (3 : Int32)) % (3 : Int32))), .unset, .unset, .unset, .unset, .unset, .unset, .unset, .unset, .unset, .unset, .unset] [])) _
            refine XS.iload X0.here hx rfl (hb hby at_66) rfl ?_
            show Steps p.tables e below (s₁.setTop (mkF m 68 #[.val (.int p0), .val (.int p1), .val (.int p2), .val (.int p3), .val (.int p4), .val (.int ((p4 &&& (3 : Int32)) % (3 : Int32))), .val (.int (0 : Int32)), .val (.int (0 : Int32)), .val (.int (((p4.toUInt32 >>> ((4 : Int32) &&& 31).toUInt32).toInt32) &&& (3 : Int32))), .val (.int ((((p4.toUInt32 >>> ((6 : Int32) &&& 31).toUInt32).toInt32) &&& (3 : Int32)) % (3 : Int32))), .unset, .unset, .unset, .unset, .unset, .unset, .unset, .unset, .unset, .unset, .unset] [(.int (0 : Int32))])) _
            refine XS.ifYes X0.here hx rfl (pc0 := 68) (pc' := 75) rfl (hb hby at_68) rfl ((if0 _ _).trans (teq (rfl : (0 : Int32) = (0 : Int32))).1) (by decide) (by decide) ?_
            show Steps p.tables e below (s₁.setTop (mkF m 75 #[.val (.int p0), .val (.int p1), .val (.int p2), .val (.int p3), .val (.int p4), .val (.int ((p4 &&& (3 : Int32)) % (3 : Int32))), .val (.int (0 : Int32)), .val (.int (0 : Int32)), .val (.int (((p4.toUInt32 >>> ((4 : Int32) &&& 31).toUInt32).toInt32) &&& (3 : Int32))), .val (.int ((((p4.toUInt32 >>> ((6 : Int32) &&& 31).toUInt32).toInt32) &&& (3 : Int32)) % (3 : Int32))), .unset, .unset, .unset, .unset, .unset, .unset, .unset, .unset, .unset, .unset, .unset] [])) _
            refine XS.iloadN X0.here hx rfl (hb hby at_75) rfl ?_
            show Steps p.tables e below (s₁.setTop (mkF m 76 #[.val (.int p0), .val (.int p1), .val (.int p2), .val (.int p3), .val (.int p4), .val (.int ((p4 &&& (3 : Int32)) % (3 : Int32))), .val (.int (0 : Int32)), .val (.int (0 : Int32)), .val (.int (((p4.toUInt32 >>> ((4 : Int32) &&& 31).toUInt32).toInt32) &&& (3 : Int32))), .val (.int ((((p4.toUInt32 >>> ((6 : Int32) &&& 31).toUInt32).toInt32) &&& (3 : Int32)) % (3 : Int32))), .unset, .unset, .unset, .unset, .unset, .unset, .unset, .unset, .unset, .unset, .unset] [(.int p1)])) _
            refine XS.istore X0.here hx rfl (hb hby at_76) rfl (l' := #[.val (.int p0), .val (.int p1), .val (.int p2), .val (.int p3), .val (.int p4), .val (.int ((p4 &&& (3 : Int32)) % (3 : Int32))), .val (.int (0 : Int32)), .val (.int (0 : Int32)), .val (.int (((p4.toUInt32 >>> ((4 : Int32) &&& 31).toUInt32).toInt32) &&& (3 : Int32))), .val (.int ((((p4.toUInt32 >>> ((6 : Int32) &&& 31).toUInt32).toInt32) &&& (3 : Int32)) % (3 : Int32))), .val (.int p1), .unset, .unset, .unset, .unset, .unset, .unset, .unset, .unset, .unset, .unset]) rfl ?_
            show Steps p.tables e below (s₁.setTop (mkF m 78 #[.val (.int p0), .val (.int p1), .val (.int p2), .val (.int p3), .val (.int p4), .val (.int ((p4 &&& (3 : Int32)) % (3 : Int32))), .val (.int (0 : Int32)), .val (.int (0 : Int32)), .val (.int (((p4.toUInt32 >>> ((4 : Int32) &&& 31).toUInt32).toInt32) &&& (3 : Int32))), .val (.int ((((p4.toUInt32 >>> ((6 : Int32) &&& 31).toUInt32).toInt32) &&& (3 : Int32)) % (3 : Int32))), .val (.int p1), .unset, .unset, .unset, .unset, .unset, .unset, .unset, .unset, .unset, .unset] [])) _
            refine XS.iloadN X0.here hx rfl (hb hby at_78) rfl ?_
            show Steps p.tables e below (s₁.setTop (mkF m 79 #[.val (.int p0), .val (.int p1), .val (.int p2), .val (.int p3), .val (.int p4), .val (.int ((p4 &&& (3 : Int32)) % (3 : Int32))), .val (.int (0 : Int32)), .val (.int (0 : Int32)), .val (.int (((p4.toUInt32 >>> ((4 : Int32) &&& 31).toUInt32).toInt32) &&& (3 : Int32))), .val (.int ((((p4.toUInt32 >>> ((6 : Int32) &&& 31).toUInt32).toInt32) &&& (3 : Int32)) % (3 : Int32))), .val (.int p1), .unset, .unset, .unset, .unset, .unset, .unset, .unset, .unset, .unset, .unset] [(.int p0)])) _
            refine XS.sipush X0.here hx rfl (hb hby at_79) ?_
            show Steps p.tables e below (s₁.setTop (mkF m 82 #[.val (.int p0), .val (.int p1), .val (.int p2), .val (.int p3), .val (.int p4), .val (.int ((p4 &&& (3 : Int32)) % (3 : Int32))), .val (.int (0 : Int32)), .val (.int (0 : Int32)), .val (.int (((p4.toUInt32 >>> ((4 : Int32) &&& 31).toUInt32).toInt32) &&& (3 : Int32))), .val (.int ((((p4.toUInt32 >>> ((6 : Int32) &&& 31).toUInt32).toInt32) &&& (3 : Int32)) % (3 : Int32))), .val (.int p1), .unset, .unset, .unset, .unset, .unset, .unset, .unset, .unset, .unset, .unset] [(.int (255 : Int32)), (.int p0)])) _
            refine XS.iand X0.here hx rfl (hb hby at_82) rfl ?_
            show Steps p.tables e below (s₁.setTop (mkF m 83 #[.val (.int p0), .val (.int p1), .val (.int p2), .val (.int p3), .val (.int p4), .val (.int ((p4 &&& (3 : Int32)) % (3 : Int32))), .val (.int (0 : Int32)), .val (.int (0 : Int32)), .val (.int (((p4.toUInt32 >>> ((4 : Int32) &&& 31).toUInt32).toInt32) &&& (3 : Int32))), .val (.int ((((p4.toUInt32 >>> ((6 : Int32) &&& 31).toUInt32).toInt32) &&& (3 : Int32)) % (3 : Int32))), .val (.int p1), .unset, .unset, .unset, .unset, .unset, .unset, .unset, .unset, .unset, .unset] [(.int (p0 &&& (255 : Int32)))])) _
            refine XS.i2c X0.here hx rfl (hb hby at_83) rfl ?_
            show Steps p.tables e below (s₁.setTop (mkF m 84 #[.val (.int p0), .val (.int p1), .val (.int p2), .val (.int p3), .val (.int p4), .val (.int ((p4 &&& (3 : Int32)) % (3 : Int32))), .val (.int (0 : Int32)), .val (.int (0 : Int32)), .val (.int (((p4.toUInt32 >>> ((4 : Int32) &&& 31).toUInt32).toInt32) &&& (3 : Int32))), .val (.int ((((p4.toUInt32 >>> ((6 : Int32) &&& 31).toUInt32).toInt32) &&& (3 : Int32)) % (3 : Int32))), .val (.int p1), .unset, .unset, .unset, .unset, .unset, .unset, .unset, .unset, .unset, .unset] [(.int ((p0 &&& (255 : Int32)).toUInt32.toUInt16.toUInt32.toInt32))])) _
            refine XS.istore X0.here hx rfl (hb hby at_84) rfl (l' := #[.val (.int p0), .val (.int p1), .val (.int p2), .val (.int p3), .val (.int p4), .val (.int ((p4 &&& (3 : Int32)) % (3 : Int32))), .val (.int (0 : Int32)), .val (.int (0 : Int32)), .val (.int (((p4.toUInt32 >>> ((4 : Int32) &&& 31).toUInt32).toInt32) &&& (3 : Int32))), .val (.int ((((p4.toUInt32 >>> ((6 : Int32) &&& 31).toUInt32).toInt32) &&& (3 : Int32)) % (3 : Int32))), .val (.int p1), .val (.int ((p0 &&& (255 : Int32)).toUInt32.toUInt16.toUInt32.toInt32)), .unset, .unset, .unset, .unset, .unset, .unset, .unset, .unset, .unset]) rfl ?_
            show Steps p.tables e below (s₁.setTop (mkF m 86 #[.val (.int p0), .val (.int p1), .val (.int p2), .val (.int p3), .val (.int p4), .val (.int ((p4 &&& (3 : Int32)) % (3 : Int32))), .val (.int (0 : Int32)), .val (.int (0 : Int32)), .val (.int (((p4.toUInt32 >>> ((4 : Int32) &&& 31).toUInt32).toInt32) &&& (3 : Int32))), .val (.int ((((p4.toUInt32 >>> ((6 : Int32) &&& 31).toUInt32).toInt32) &&& (3 : Int32)) % (3 : Int32))), .val (.int p1), .val (.int ((p0 &&& (255 : Int32)).toUInt32.toUInt16.toUInt32.toInt32)), .unset, .unset, .unset, .unset, .unset, .unset, .unset, .unset, .unset] [])) _
            refine XS.iloadN X0.here hx rfl (hb hby at_86) rfl ?_
            show Steps p.tables e below (s₁.setTop (mkF m 87 #[.val (.int p0), .val (.int p1), .val (.int p2), .val (.int p3), .val (.int p4), .val (.int ((p4 &&& (3 : Int32)) % (3 : Int32))), .val (.int (0 : Int32)), .val (.int (0 : Int32)), .val (.int (((p4.toUInt32 >>> ((4 : Int32) &&& 31).toUInt32).toInt32) &&& (3 : Int32))), .val (.int ((((p4.toUInt32 >>> ((6 : Int32) &&& 31).toUInt32).toInt32) &&& (3 : Int32)) % (3 : Int32))), .val (.int p1), .val (.int ((p0 &&& (255 : Int32)).toUInt32.toUInt16.toUInt32.toInt32)), .unset, .unset, .unset, .unset, .unset, .unset, .unset, .unset, .unset] [(.int p0)])) _
            refine XS.bipush X0.here hx rfl (hb hby at_87) ?_
            show Steps p.tables e below (s₁.setTop (mkF m 89 #[.val (.int p0), .val (.int p1), .val (.int p2), .val (.int p3), .val (.int p4), .val (.int ((p4 &&& (3 : Int32)) % (3 : Int32))), .val (.int (0 : Int32)), .val (.int (0 : Int32)), .val (.int (((p4.toUInt32 >>> ((4 : Int32) &&& 31).toUInt32).toInt32) &&& (3 : Int32))), .val (.int ((((p4.toUInt32 >>> ((6 : Int32) &&& 31).toUInt32).toInt32) &&& (3 : Int32)) % (3 : Int32))), .val (.int p1), .val (.int ((p0 &&& (255 : Int32)).toUInt32.toUInt16.toUInt32.toInt32)), .unset, .unset, .unset, .unset, .unset, .unset, .unset, .unset, .unset] [(.int (8 : Int32)), (.int p0)])) _
            refine XS.iushr X0.here hx rfl (hb hby at_89) rfl ?_
            show Steps p.tables e below (s₁.setTop (mkF m 90 #[.val (.int p0), .val (.int p1), .val (.int p2), .val (.int p3), .val (.int p4), .val (.int ((p4 &&& (3 : Int32)) % (3 : Int32))), .val (.int (0 : Int32)), .val (.int (0 : Int32)), .val (.int (((p4.toUInt32 >>> ((4 : Int32) &&& 31).toUInt32).toInt32) &&& (3 : Int32))), .val (.int ((((p4.toUInt32 >>> ((6 : Int32) &&& 31).toUInt32).toInt32) &&& (3 : Int32)) % (3 : Int32))), .val (.int p1), .val (.int ((p0 &&& (255 : Int32)).toUInt32.toUInt16.toUInt32.toInt32)), .unset, .unset, .unset, .unset, .unset, .unset, .unset, .unset, .unset] [(.int ((p0.toUInt32 >>> ((8 : Int32) &&& 31).toUInt32).toInt32))])) _
            refine XS.sipush X0.here hx rfl (hb hby at_90) ?_
            show Steps p.tables e below (s₁.setTop (mkF m 93 #[.val (.int p0), .val (.int p1), .val (.int p2), .val (.int p3), .val (.int p4), .val (.int ((p4 &&& (3 : Int32)) % (3 : Int32))), .val (.int (0 : Int32)), .val (.int (0 : Int32)), .val (.int (((p4.toUInt32 >>> ((4 : Int32) &&& 31).toUInt32).toInt32) &&& (3 : Int32))), .val (.int ((((p4.toUInt32 >>> ((6 : Int32) &&& 31).toUInt32).toInt32) &&& (3 : Int32)) % (3 : Int32))), .val (.int p1), .val (.int ((p0 &&& (255 : Int32)).toUInt32.toUInt16.toUInt32.toInt32)), .unset, .unset, .unset, .unset, .unset, .unset, .unset, .unset, .unset] [(.int (255 : Int32)), (.int ((p0.toUInt32 >>> ((8 : Int32) &&& 31).toUInt32).toInt32))])) _
            refine XS.iand X0.here hx rfl (hb hby at_93) rfl ?_
            show Steps p.tables e below (s₁.setTop (mkF m 94 #[.val (.int p0), .val (.int p1), .val (.int p2), .val (.int p3), .val (.int p4), .val (.int ((p4 &&& (3 : Int32)) % (3 : Int32))), .val (.int (0 : Int32)), .val (.int (0 : Int32)), .val (.int (((p4.toUInt32 >>> ((4 : Int32) &&& 31).toUInt32).toInt32) &&& (3 : Int32))), .val (.int ((((p4.toUInt32 >>> ((6 : Int32) &&& 31).toUInt32).toInt32) &&& (3 : Int32)) % (3 : Int32))), .val (.int p1), .val (.int ((p0 &&& (255 : Int32)).toUInt32.toUInt16.toUInt32.toInt32)), .unset, .unset, .unset, .unset, .unset, .unset, .unset, .unset, .unset] [(.int (((p0.toUInt32 >>> ((8 : Int32) &&& 31).toUInt32).toInt32) &&& (255 : Int32)))])) _
            refine XS.i2c X0.here hx rfl (hb hby at_94) rfl ?_
            show Steps p.tables e below (s₁.setTop (mkF m 95 #[.val (.int p0), .val (.int p1), .val (.int p2), .val (.int p3), .val (.int p4), .val (.int ((p4 &&& (3 : Int32)) % (3 : Int32))), .val (.int (0 : Int32)), .val (.int (0 : Int32)), .val (.int (((p4.toUInt32 >>> ((4 : Int32) &&& 31).toUInt32).toInt32) &&& (3 : Int32))), .val (.int ((((p4.toUInt32 >>> ((6 : Int32) &&& 31).toUInt32).toInt32) &&& (3 : Int32)) % (3 : Int32))), .val (.int p1), .val (.int ((p0 &&& (255 : Int32)).toUInt32.toUInt16.toUInt32.toInt32)), .unset, .unset, .unset, .unset, .unset, .unset, .unset, .unset, .unset] [(.int ((((p0.toUInt32 >>> ((8 : Int32) &&& 31).toUInt32).toInt32) &&& (255 : Int32)).toUInt32.toUInt16.toUInt32.toInt32))])) _
            refine XS.istore X0.here hx rfl (hb hby at_95) rfl (l' := #[.val (.int p0), .val (.int p1), .val (.int p2), .val (.int p3), .val (.int p4), .val (.int ((p4 &&& (3 : Int32)) % (3 : Int32))), .val (.int (0 : Int32)), .val (.int (0 : Int32)), .val (.int (((p4.toUInt32 >>> ((4 : Int32) &&& 31).toUInt32).toInt32) &&& (3 : Int32))), .val (.int ((((p4.toUInt32 >>> ((6 : Int32) &&& 31).toUInt32).toInt32) &&& (3 : Int32)) % (3 : Int32))), .val (.int p1), .val (.int ((p0 &&& (255 : Int32)).toUInt32.toUInt16.toUInt32.toInt32)), .val (.int ((((p0.toUInt32 >>> ((8 : Int32) &&& 31).toUInt32).toInt32) &&& (255 : Int32)).toUInt32.toUInt16.toUInt32.toInt32)), .unset, .unset, .unset, .unset, .unset, .unset, .unset, .unset]) rfl ?_
            show Steps p.tables e below (s₁.setTop (mkF m 97 #[.val (.int p0), .val (.int p1), .val (.int p2), .val (.int p3), .val (.int p4), .val (.int ((p4 &&& (3 : Int32)) % (3 : Int32))), .val (.int (0 : Int32)), .val (.int (0 : Int32)), .val (.int (((p4.toUInt32 >>> ((4 : Int32) &&& 31).toUInt32).toInt32) &&& (3 : Int32))), .val (.int ((((p4.toUInt32 >>> ((6 : Int32) &&& 31).toUInt32).toInt32) &&& (3 : Int32)) % (3 : Int32))), .val (.int p1), .val (.int ((p0 &&& (255 : Int32)).toUInt32.toUInt16.toUInt32.toInt32)), .val (.int ((((p0.toUInt32 >>> ((8 : Int32) &&& 31).toUInt32).toInt32) &&& (255 : Int32)).toUInt32.toUInt16.toUInt32.toInt32)), .unset, .unset, .unset, .unset, .unset, .unset, .unset, .unset] [])) _
            refine XS.iload X0.here hx rfl (hb hby at_97) rfl ?_
            show Steps p.tables e below (s₁.setTop (mkF m 99 #[.val (.int p0), .val (.int p1), .val (.int p2), .val (.int p3), .val (.int p4), .val (.int ((p4 &&& (3 : Int32)) % (3 : Int32))), .val (.int (0 : Int32)), .val (.int (0 : Int32)), .val (.int (((p4.toUInt32 >>> ((4 : Int32) &&& 31).toUInt32).toInt32) &&& (3 : Int32))), .val (.int ((((p4.toUInt32 >>> ((6 : Int32) &&& 31).toUInt32).toInt32) &&& (3 : Int32)) % (3 : Int32))), .val (.int p1), .val (.int ((p0 &&& (255 : Int32)).toUInt32.toUInt16.toUInt32.toInt32)), .val (.int ((((p0.toUInt32 >>> ((8 : Int32) &&& 31).toUInt32).toInt32) &&& (255 : Int32)).toUInt32.toUInt16.toUInt32.toInt32)), .unset, .unset, .unset, .unset, .unset, .unset, .unset, .unset] [(.int p1)])) _
            refine XS.sipush X0.here hx rfl (hb hby at_99) ?_
            show Steps p.tables e below (s₁.setTop (mkF m 102 #[.val (.int p0), .val (.int p1), .val (.int p2), .val (.int p3), .val (.int p4), .val (.int ((p4 &&& (3 : Int32)) % (3 : Int32))), .val (.int (0 : Int32)), .val (.int (0 : Int32)), .val (.int (((p4.toUInt32 >>> ((4 : Int32) &&& 31).toUInt32).toInt32) &&& (3 : Int32))), .val (.int ((((p4.toUInt32 >>> ((6 : Int32) &&& 31).toUInt32).toInt32) &&& (3 : Int32)) % (3 : Int32))), .val (.int p1), .val (.int ((p0 &&& (255 : Int32)).toUInt32.toUInt16.toUInt32.toInt32)), .val (.int ((((p0.toUInt32 >>> ((8 : Int32) &&& 31).toUInt32).toInt32) &&& (255 : Int32)).toUInt32.toUInt16.toUInt32.toInt32)), .unset, .unset, .unset, .unset, .unset, .unset, .unset, .unset] [(.int (255 : Int32)), (.int p1)])) _
            refine XS.iand X0.here hx rfl (hb hby at_102) rfl ?_
            show Steps p.tables e below (s₁.setTop (mkF m 103 #[.val (.int p0), .val (.int p1), .val (.int p2), .val (.int p3), .val (.int p4), .val (.int ((p4 &&& (3 : Int32)) % (3 : Int32))), .val (.int (0 : Int32)), .val (.int (0 : Int32)), .val (.int (((p4.toUInt32 >>> ((4 : Int32) &&& 31).toUInt32).toInt32) &&& (3 : Int32))), .val (.int ((((p4.toUInt32 >>> ((6 : Int32) &&& 31).toUInt32).toInt32) &&& (3 : Int32)) % (3 : Int32))), .val (.int p1), .val (.int ((p0 &&& (255 : Int32)).toUInt32.toUInt16.toUInt32.toInt32)), .val (.int ((((p0.toUInt32 >>> ((8 : Int32) &&& 31).toUInt32).toInt32) &&& (255 : Int32)).toUInt32.toUInt16.toUInt32.toInt32)), .unset, .unset, .unset, .unset, .unset, .unset, .unset, .unset] [(.int (p1 &&& (255 : Int32)))])) _
            refine XS.i2c X0.here hx rfl (hb hby at_103) rfl ?_
            show Steps p.tables e below (s₁.setTop (mkF m 104 #[.val (.int p0), .val (.int p1), .val (.int p2), .val (.int p3), .val (.int p4), .val (.int ((p4 &&& (3 : Int32)) % (3 : Int32))), .val (.int (0 : Int32)), .val (.int (0 : Int32)), .val (.int (((p4.toUInt32 >>> ((4 : Int32) &&& 31).toUInt32).toInt32) &&& (3 : Int32))), .val (.int ((((p4.toUInt32 >>> ((6 : Int32) &&& 31).toUInt32).toInt32) &&& (3 : Int32)) % (3 : Int32))), .val (.int p1), .val (.int ((p0 &&& (255 : Int32)).toUInt32.toUInt16.toUInt32.toInt32)), .val (.int ((((p0.toUInt32 >>> ((8 : Int32) &&& 31).toUInt32).toInt32) &&& (255 : Int32)).toUInt32.toUInt16.toUInt32.toInt32)), .unset, .unset, .unset, .unset, .unset, .unset, .unset, .unset] [(.int ((p1 &&& (255 : Int32)).toUInt32.toUInt16.toUInt32.toInt32))])) _
            refine XS.istore X0.here hx rfl (hb hby at_104) rfl (l' := #[.val (.int p0), .val (.int p1), .val (.int p2), .val (.int p3), .val (.int p4), .val (.int ((p4 &&& (3 : Int32)) % (3 : Int32))), .val (.int (0 : Int32)), .val (.int (0 : Int32)), .val (.int (((p4.toUInt32 >>> ((4 : Int32) &&& 31).toUInt32).toInt32) &&& (3 : Int32))), .val (.int ((((p4.toUInt32 >>> ((6 : Int32) &&& 31).toUInt32).toInt32) &&& (3 : Int32)) % (3 : Int32))), .val (.int p1), .val (.int ((p0 &&& (255 : Int32)).toUInt32.toUInt16.toUInt32.toInt32)), .val (.int ((((p0.toUInt32 >>> ((8 : Int32) &&& 31).toUInt32).toInt32) &&& (255 : Int32)).toUInt32.toUInt16.toUInt32.toInt32)), .val (.int ((p1 &&& (255 : Int32)).toUInt32.toUInt16.toUInt32.toInt32)), .unset, .unset, .unset, .unset, .unset, .unset, .unset]) rfl ?_
            show Steps p.tables e below (s₁.setTop (mkF m 106 #[.val (.int p0), .val (.int p1), .val (.int p2), .val (.int p3), .val (.int p4), .val (.int ((p4 &&& (3 : Int32)) % (3 : Int32))), .val (.int (0 : Int32)), .val (.int (0 : Int32)), .val (.int (((p4.toUInt32 >>> ((4 : Int32) &&& 31).toUInt32).toInt32) &&& (3 : Int32))), .val (.int ((((p4.toUInt32 >>> ((6 : Int32) &&& 31).toUInt32).toInt32) &&& (3 : Int32)) % (3 : Int32))), .val (.int p1), .val (.int ((p0 &&& (255 : Int32)).toUInt32.toUInt16.toUInt32.toInt32)), .val (.int ((((p0.toUInt32 >>> ((8 : Int32) &&& 31).toUInt32).toInt32) &&& (255 : Int32)).toUInt32.toUInt16.toUInt32.toInt32)), .val (.int ((p1 &&& (255 : Int32)).toUInt32.toUInt16.toUInt32.toInt32)), .unset, .unset, .unset, .unset, .unset, .unset, .unset] [])) _
            refine XS.iload X0.here hx rfl (hb hby at_106) rfl ?_
            show Steps p.tables e below (s₁.setTop (mkF m 108 #[.val (.int p0), .val (.int p1), .val (.int p2), .val (.int p3), .val (.int p4), .val (.int ((p4 &&& (3 : Int32)) % (3 : Int32))), .val (.int (0 : Int32)), .val (.int (0 : Int32)), .val (.int (((p4.toUInt32 >>> ((4 : Int32) &&& 31).toUInt32).toInt32) &&& (3 : Int32))), .val (.int ((((p4.toUInt32 >>> ((6 : Int32) &&& 31).toUInt32).toInt32) &&& (3 : Int32)) % (3 : Int32))), .val (.int p1), .val (.int ((p0 &&& (255 : Int32)).toUInt32.toUInt16.toUInt32.toInt32)), .val (.int ((((p0.toUInt32 >>> ((8 : Int32) &&& 31).toUInt32).toInt32) &&& (255 : Int32)).toUInt32.toUInt16.toUInt32.toInt32)), .val (.int ((p1 &&& (255 : Int32)).toUInt32.toUInt16.toUInt32.toInt32)), .unset, .unset, .unset, .unset, .unset, .unset, .unset] [(.int p1)])) _
            refine XS.bipush X0.here hx rfl (hb hby at_108) ?_
            show Steps p.tables e below (s₁.setTop (mkF m 110 #[.val (.int p0), .val (.int p1), .val (.int p2), .val (.int p3), .val (.int p4), .val (.int ((p4 &&& (3 : Int32)) % (3 : Int32))), .val (.int (0 : Int32)), .val (.int (0 : Int32)), .val (.int (((p4.toUInt32 >>> ((4 : Int32) &&& 31).toUInt32).toInt32) &&& (3 : Int32))), .val (.int ((((p4.toUInt32 >>> ((6 : Int32) &&& 31).toUInt32).toInt32) &&& (3 : Int32)) % (3 : Int32))), .val (.int p1), .val (.int ((p0 &&& (255 : Int32)).toUInt32.toUInt16.toUInt32.toInt32)), .val (.int ((((p0.toUInt32 >>> ((8 : Int32) &&& 31).toUInt32).toInt32) &&& (255 : Int32)).toUInt32.toUInt16.toUInt32.toInt32)), .val (.int ((p1 &&& (255 : Int32)).toUInt32.toUInt16.toUInt32.toInt32)), .unset, .unset, .unset, .unset, .unset, .unset, .unset] [(.int (8 : Int32)), (.int p1)])) _
            refine XS.iushr X0.here hx rfl (hb hby at_110) rfl ?_
            show Steps p.tables e below (s₁.setTop (mkF m 111 #[.val (.int p0), .val (.int p1), .val (.int p2), .val (.int p3), .val (.int p4), .val (.int ((p4 &&& (3 : Int32)) % (3 : Int32))), .val (.int (0 : Int32)), .val (.int (0 : Int32)), .val (.int (((p4.toUInt32 >>> ((4 : Int32) &&& 31).toUInt32).toInt32) &&& (3 : Int32))), .val (.int ((((p4.toUInt32 >>> ((6 : Int32) &&& 31).toUInt32).toInt32) &&& (3 : Int32)) % (3 : Int32))), .val (.int p1), .val (.int ((p0 &&& (255 : Int32)).toUInt32.toUInt16.toUInt32.toInt32)), .val (.int ((((p0.toUInt32 >>> ((8 : Int32) &&& 31).toUInt32).toInt32) &&& (255 : Int32)).toUInt32.toUInt16.toUInt32.toInt32)), .val (.int ((p1 &&& (255 : Int32)).toUInt32.toUInt16.toUInt32.toInt32)), .unset, .unset, .unset, .unset, .unset, .unset, .unset] [(.int ((p1.toUInt32 >>> ((8 : Int32) &&& 31).toUInt32).toInt32))])) _
            refine XS.sipush X0.here hx rfl (hb hby at_111) ?_
            show Steps p.tables e below (s₁.setTop (mkF m 114 #[.val (.int p0), .val (.int p1), .val (.int p2), .val (.int p3), .val (.int p4), .val (.int ((p4 &&& (3 : Int32)) % (3 : Int32))), .val (.int (0 : Int32)), .val (.int (0 : Int32)), .val (.int (((p4.toUInt32 >>> ((4 : Int32) &&& 31).toUInt32).toInt32) &&& (3 : Int32))), .val (.int ((((p4.toUInt32 >>> ((6 : Int32) &&& 31).toUInt32).toInt32) &&& (3 : Int32)) % (3 : Int32))), .val (.int p1), .val (.int ((p0 &&& (255 : Int32)).toUInt32.toUInt16.toUInt32.toInt32)), .val (.int ((((p0.toUInt32 >>> ((8 : Int32) &&& 31).toUInt32).toInt32) &&& (255 : Int32)).toUInt32.toUInt16.toUInt32.toInt32)), .val (.int ((p1 &&& (255 : Int32)).toUInt32.toUInt16.toUInt32.toInt32)), .unset, .unset, .unset, .unset, .unset, .unset, .unset] [(.int (255 : Int32)), (.int ((p1.toUInt32 >>> ((8 : Int32) &&& 31).toUInt32).toInt32))])) _
            refine XS.iand X0.here hx rfl (hb hby at_114) rfl ?_
            show Steps p.tables e below (s₁.setTop (mkF m 115 #[.val (.int p0), .val (.int p1), .val (.int p2), .val (.int p3), .val (.int p4), .val (.int ((p4 &&& (3 : Int32)) % (3 : Int32))), .val (.int (0 : Int32)), .val (.int (0 : Int32)), .val (.int (((p4.toUInt32 >>> ((4 : Int32) &&& 31).toUInt32).toInt32) &&& (3 : Int32))), .val (.int ((((p4.toUInt32 >>> ((6 : Int32) &&& 31).toUInt32).toInt32) &&& (3 : Int32)) % (3 : Int32))), .val (.int p1), .val (.int ((p0 &&& (255 : Int32)).toUInt32.toUInt16.toUInt32.toInt32)), .val (.int ((((p0.toUInt32 >>> ((8 : Int32) &&& 31).toUInt32).toInt32) &&& (255 : Int32)).toUInt32.toUInt16.toUInt32.toInt32)), .val (.int ((p1 &&& (255 : Int32)).toUInt32.toUInt16.toUInt32.toInt32)), .unset, .unset, .unset, .unset, .unset, .unset, .unset] [(.int (((p1.toUInt32 >>> ((8 : Int32) &&& 31).toUInt32).toInt32) &&& (255 : Int32)))])) _
            refine XS.i2c X0.here hx rfl (hb hby at_115) rfl ?_
            show Steps p.tables e below (s₁.setTop (mkF m 116 #[.val (.int p0), .val (.int p1), .val (.int p2), .val (.int p3), .val (.int p4), .val (.int ((p4 &&& (3 : Int32)) % (3 : Int32))), .val (.int (0 : Int32)), .val (.int (0 : Int32)), .val (.int (((p4.toUInt32 >>> ((4 : Int32) &&& 31).toUInt32).toInt32) &&& (3 : Int32))), .val (.int ((((p4.toUInt32 >>> ((6 : Int32) &&& 31).toUInt32).toInt32) &&& (3 : Int32)) % (3 : Int32))), .val (.int p1), .val (.int ((p0 &&& (255 : Int32)).toUInt32.toUInt16.toUInt32.toInt32)), .val (.int ((((p0.toUInt32 >>> ((8 : Int32) &&& 31).toUInt32).toInt32) &&& (255 : Int32)).toUInt32.toUInt16.toUInt32.toInt32)), .val (.int ((p1 &&& (255 : Int32)).toUInt32.toUInt16.toUInt32.toInt32)), .unset, .unset, .unset, .unset, .unset, .unset, .unset] [(.int ((((p1.toUInt32 >>> ((8 : Int32) &&& 31).toUInt32).toInt32) &&& (255 : Int32)).toUInt32.toUInt16.toUInt32.toInt32))])) _
            refine XS.istore X0.here hx rfl (hb hby at_116) rfl (l' := #[.val (.int p0), .val (.int p1), .val (.int p2), .val (.int p3), .val (.int p4), .val (.int ((p4 &&& (3 : Int32)) % (3 : Int32))), .val (.int (0 : Int32)), .val (.int (0 : Int32)), .val (.int (((p4.toUInt32 >>> ((4 : Int32) &&& 31).toUInt32).toInt32) &&& (3 : Int32))), .val (.int ((((p4.toUInt32 >>> ((6 : Int32) &&& 31).toUInt32).toInt32) &&& (3 : Int32)) % (3 : Int32))), .val (.int p1), .val (.int ((p0 &&& (255 : Int32)).toUInt32.toUInt16.toUInt32.toInt32)), .val (.int ((((p0.toUInt32 >>> ((8 : Int32) &&& 31).toUInt32).toInt32) &&& (255 : Int32)).toUInt32.toUInt16.toUInt32.toInt32)), .val (.int ((p1 &&& (255 : Int32)).toUInt32.toUInt16.toUInt32.toInt32)), .val (.int ((((p1.toUInt32 >>> ((8 : Int32) &&& 31).toUInt32).toInt32) &&& (255 : Int32)).toUInt32.toUInt16.toUInt32.toInt32)), .unset, .unset, .unset, .unset, .unset, .unset]) rfl ?_
            exact kt)
        exact kk1 ⟨((p4 &&& (3 : Int32)) % (3 : Int32)), (0 : Int32), (0 : Int32), (((p4.toUInt32 >>> ((4 : Int32) &&& 31).toUInt32).toInt32) &&& (3 : Int32)), ((((p4.toUInt32 >>> ((6 : Int32) &&& 31).toUInt32).toInt32) &&& (3 : Int32)) % (3 : Int32)), p1, ((p0 &&& (255 : Int32)).toUInt32.toUInt16.toUInt32.toInt32), ((((p0.toUInt32 >>> ((8 : Int32) &&& 31).toUInt32).toInt32) &&& (255 : Int32)).toUInt32.toUInt16.toUInt32.toInt32), ((p1 &&& (255 : Int32)).toUInt32.toUInt16.toUInt32.toInt32), ((((p1.toUInt32 >>> ((8 : Int32) &&& 31).toUInt32).toInt32) &&& (255 : Int32)).toUInt32.toUInt16.toUInt32.toInt32), ⟨own_l3 _, own_l3 _, own_ch _, own_ch _, own_ch _, own_ch _⟩, pre6⟩
      · skip
        have pre7 : ∀ t, Steps p.tables e below (s₁.setTop (mkF m 118 #[.val (.int p0), .val (.int p1), .val (.int p2), .val (.int p3), .val (.int p4), .val (.int ((p4 &&& (3 : Int32)) % (3 : Int32))), .val (.int (0 : Int32)), .val (.int (1 : Int32)), .val (.int (((p4.toUInt32 >>> ((4 : Int32) &&& 31).toUInt32).toInt32) &&& (3 : Int32))), .val (.int ((((p4.toUInt32 >>> ((6 : Int32) &&& 31).toUInt32).toInt32) &&& (3 : Int32)) % (3 : Int32))), .val (.int p1), .val (.int ((p0 &&& (255 : Int32)).toUInt32.toUInt16.toUInt32.toInt32)), .val (.int ((((p0.toUInt32 >>> ((8 : Int32) &&& 31).toUInt32).toInt32) &&& (255 : Int32)).toUInt32.toUInt16.toUInt32.toInt32)), .val (.int ((p1 &&& (255 : Int32)).toUInt32.toUInt16.toUInt32.toInt32)), .val (.int ((((p1.toUInt32 >>> ((8 : Int32) &&& 31).toUInt32).toInt32) &&& (255 : Int32)).toUInt32.toUInt16.toUInt32.toInt32)), .unset, .unset, .unset, .unset, .unset, .unset] [])) t → Steps p.tables e below (s₁.setTop (entryFrame m #[(.int p0), (.int p1), (.int p2), (.int p3), (.int p4)] maxLocals)) t := fun t kt => pre4 t (by
            show Steps p.tables e below (s₁.setTop (mkF m 27 #[.val (.int p0), .val (.int p1), .val (.int p2), .val (.int p3), .val (.int p4), .val (.int ((p4 &&& (3 : Int32)) % (3 : Int32))), .val (.int (0 : Int32)), .unset, .unset, .unset, .unset, .unset, .unset, .unset, .unset, .unset, .unset, .unset, .unset, .unset, .unset] [(.int (p4 &&& (8 : Int32)))])) _
            refine XS.ifNo X0.here hx rfl (hb hby at_27) rfl ((if0 _ _).trans (feq hc5).1) ?_
            show Steps p.tables e below (s₁.setTop (mkF m 30 #[.val (.int p0), .val (.int p1), .val (.int p2), .val (.int p3), .val (.int p4), .val (.int ((p4 &&& (3 : Int32)) % (3 : Int32))), .val (.int (0 : Int32)), .unset, .unset, .unset, .unset, .unset, .unset, .unset, .unset, .unset, .unset, .unset, .unset, .unset, .unset] [])) _
            refine XS.iconst X0.here hx rfl (hb hby at_30) ?_
            show Steps p.tables e below (s₁.setTop (mkF m 31 #[.val (.int p0), .val (.int p1), .val (.int p2), .val (.int p3), .val (.int p4), .val (.int ((p4 &&& (3 : Int32)) % (3 : Int32))), .val (.int (0 : Int32)), .unset, .unset, .unset, .unset, .unset, .unset, .unset, .unset, .unset, .unset, .unset, .unset, .unset, .unset] [(.int (1 : Int32))])) _
            refine XS.goto X0.here hx rfl (pc0 := 31) (pc' := 35) rfl (hb hby at_31) (by decide) (by decide) ?_
            show Steps p.tables e below (s₁.setTop (mkF m 35 #[.val (.int p0), .val (.int p1), .val (.int p2), .val (.int p3), .val (.int p4), .val (.int ((p4 &&& (3 : Int32)) % (3 : Int32))), .val (.int (0 : Int32)), .unset, .unset, .unset, .unset, .unset, .unset, .unset, .unset, .unset, .unset, .unset, .unset, .unset, .unset] [(.int (1 : Int32))])) _
            refine XS.istore X0.here hx rfl (hb hby at_35) rfl (l' := #[.val (.int p0), .val (.int p1), .val (.int p2), .val (.int p3), .val (.int p4), .val (.int ((p4 &&& (3 : Int32)) % (3 : Int32))), .val (.int (0 : Int32)), .val (.int (1 : Int32)), .unset, .unset, .unset, .unset, .unset, .unset, .unset, .unset, .unset, .unset, .unset, .unset, .unset]) rfl ?_
            show Steps p.tables e below (s₁.setTop (mkF m 37 #[.val (.int p0), .val (.int p1), .val (.int p2), .val (.int p3), .val (.int p4), .val (.int ((p4 &&& (3 : Int32)) % (3 : Int32))), .val (.int (0 : Int32)), .val (.int (1 : Int32)), .unset, .unset, .unset, .unset, .unset, .unset, .unset, .unset, .unset, .unset, .unset, .unset, .unset] [])) _
            refine XS.iload X0.here hx rfl (hb hby at_37) rfl ?_
            show Steps p.tables e below (s₁.setTop (mkF m 39 #[.val (.int p0), .val (.int p1), .val (.int p2), .val (.int p3), .val (.int p4), .val (.int ((p4 &&& (3 : Int32)) % (3 : Int32))), .val (.int (0 : Int32)), .val (.int (1 : Int32)), .unset, .unset, .unset, .unset, .unset, .unset, .unset, .unset, .unset, .unset, .unset, .unset, .unset] [(.int p4)])) _
            refine XS.iconst X0.here hx rfl (hb hby at_39) ?_
            show Steps p.tables e below (s₁.setTop (mkF m 40 #[.val (.int p0), .val (.int p1), .val (.int p2), .val (.int p3), .val (.int p4), .val (.int ((p4 &&& (3 : Int32)) % (3 : Int32))), .val (.int (0 : Int32)), .val (.int (1 : Int32)), .unset, .unset, .unset, .unset, .unset, .unset, .unset, .unset, .unset, .unset, .unset, .unset, .unset] [(.int (4 : Int32)), (.int p4)])) _
            refine XS.iushr X0.here hx rfl (hb hby at_40) rfl ?_
            show Steps p.tables e below (s₁.setTop (mkF m 41 #[.val (.int p0), .val (.int p1), .val (.int p2), .val (.int p3), .val (.int p4), .val (.int ((p4 &&& (3 : Int32)) % (3 : Int32))), .val (.int (0 : Int32)), .val (.int (1 : Int32)), .unset, .unset, .unset, .unset, .unset, .unset, .unset, .unset, .unset, .unset, .unset, .unset, .unset] [(.int ((p4.toUInt32 >>> ((4 : Int32) &&& 31).toUInt32).toInt32))])) _
            refine XS.iconst X0.here hx rfl (hb hby at_41) ?_
            show Steps p.tables e below (s₁.setTop (mkF m 42 #[.val (.int p0), .val (.int p1), .val (.int p2), .val (.int p3), .val (.int p4), .val (.int ((p4 &&& (3 : Int32)) % (3 : Int32))), .val (.int (0 : Int32)), .val (.int (1 : Int32)), .unset, .unset, .unset, .unset, .unset, .unset, .unset, .unset, .unset, .unset, .unset, .unset, .unset] [(.int (3 : Int32)), (.int ((p4.toUInt32 >>> ((4 : Int32) &&& 31).toUInt32).toInt32))])) _
            refine XS.iand X0.here hx rfl (hb hby at_42) rfl ?_
            show Steps p.tables e below (s₁.setTop (mkF m 43 #[.val (.int p0), .val (.int p1), .val (.int p2), .val (.int p3), .val (.int p4), .val (.int ((p4 &&& (3 : Int32)) % (3 : Int32))), .val (.int (0 : Int32)), .val (.int (1 : Int32)), .unset, .unset, .unset, .unset, .unset, .unset, .unset, .unset, .unset, .unset, .unset, .unset, .unset] [(.int (((p4.toUInt32 >>> ((4 : Int32) &&& 31).toUInt32).toInt32) &&& (3 : Int32)))])) _
            refine XS.istore X0.here hx rfl (hb hby at_43) rfl (l' := #[.val (.int p0), .val (.int p1), .val (.int p2), .val (.int p3), .val (.int p4), .val (.int ((p4 &&& (3 : Int32)) % (3 : Int32))), .val (.int (0 : Int32)), .val (.int (1 : Int32)), .val (.int (((p4.toUInt32 >>> ((4 : Int32) &&& 31).toUInt32).toInt32) &&& (3 : Int32))), .unset, .unset, .unset, .unset, .unset, .unset, .unset, .unset, .unset, .unset, .unset, .unset]) rfl ?_
            show Steps p.tables e below (s₁.setTop (mkF m 45 #[.val (.int p0), .val (.int p1), .val (.int p2), .val (.int p3), .val (.int p4), .val (.int ((p4 &&& (3 : Int32)) % (3 : Int32))), .val (.int (0 : Int32)), .val (.int (1 : Int32)), .val (.int (((p4.toUInt32 >>> ((4 : Int32) &&& 31).toUInt32).toInt32) &&& (3 : Int32))), .unset, .unset, .unset, .unset, .unset, .unset, .unset, .unset, .unset, .unset, .unset, .unset] [])) _
            refine XS.iload X0.here hx rfl (hb hby at_45) rfl ?_
            show Steps p.tables e below (s₁.setTop (mkF m 47 #[.val (.int p0), .val (.int p1), .val (.int p2), .val (.int p3), .val (.int p4), .val (.int ((p4 &&& (3 : Int32)) % (3 : Int32))), .val (.int (0 : Int32)), .val (.int (1 : Int32)), .val (.int (((p4.toUInt32 >>> ((4 : Int32) &&& 31).toUInt32).toInt32) &&& (3 : Int32))), .unset, .unset, .unset, .unset, .unset, .unset, .unset, .unset, .unset, .unset, .unset, .unset] [(.int (0 : Int32))])) _
            refine XS.ifYes X0.here hx rfl (pc0 := 47) (pc' := 55) rfl (hb hby at_47) rfl ((if0 _ _).trans (teq (rfl : (0 : Int32) = (0 : Int32))).1) (by decide) (by decide) ?_
            show Steps p.tables e below (s₁.setTop (mkF m 55 #[.val (.int p0), .val (.int p1), .val (.int p2), .val (.int p3), .val (.int p4), .val (.int ((p4 &&& (3 : Int32)) % (3 : Int32))), .val (.int (0 : Int32)), .val (.int (1 : Int32)), .val (.int (((p4.toUInt32 >>> ((4 : Int32) &&& 31).toUInt32).toInt32) &&& (3 : Int32))), .unset, .unset, .unset, .unset, .unset, .unset, .unset, .unset, .unset, .unset, .unset, .unset] [])) _
            refine XS.iload X0.here hx rfl (hb hby at_55) rfl ?_
            show Steps p.tables e below (s₁.setTop (mkF m 57 #[.val (.int p0), .val (.int p1), .val (.int p2), .val (.int p3), .val (.int p4), .val (.int ((p4 &&& (3 : Int32)) % (3 : Int32))), .val (.int (0 : Int32)), .val (.int (1 : Int32)), .val (.int (((p4.toUInt32 >>> ((4 : Int32) &&& 31).toUInt32).toInt32) &&& (3 : Int32))), .unset, .unset, .unset, .unset, .unset, .unset, .unset, .unset, .unset, .unset, .unset, .unset] [(.int p4)])) _
            refine XS.bipush X0.here hx rfl (hb hby at_57) ?_
            show Steps p.tables e below (s₁.setTop (mkF m 59 #[.val (.int p0), .val (.int p1), .val (.int p2), .val (.int p3), .val (.int p4), .val (.int ((p4 &&& (3 : Int32)) % (3 : Int32))), .val (.int (0 : Int32)), .val (.int (1 : Int32)), .val (.int (((p4.toUInt32 >>> ((4 : Int32) &&& 31).toUInt32).toInt32) &&& (3 : Int32))), .unset, .unset, .unset, .unset, .unset, .unset, .unset, .unset, .unset, .unset, .unset, .unset] [(.int (6 : Int32)), (.int p4)])) _
            refine XS.iushr X0.here hx rfl (hb hby at_59) rfl ?_
            show Steps p.tables e below (s₁.setTop (mkF m 60 #[.val (.int p0), .val (.int p1), .val (.int p2), .val (.int p3), .val (.int p4), .val (.int ((p4 &&& (3 : Int32)) % (3 : Int32))), .val (.int (0 : Int32)), .val (.int (1 : Int32)), .val (.int (((p4.toUInt32 >>> ((4 : Int32) &&& 31).toUInt32).toInt32) &&& (3 : Int32))), .unset, .unset, .unset, .unset, .unset, .unset, .unset, .unset, .unset, .unset, .unset, .unset] [(.int ((p4.toUInt32 >>> ((6 : Int32) &&& 31).toUInt32).toInt32))])) _
            refine XS.iconst X0.here hx rfl (hb hby at_60) ?_
            show Steps p.tables e below (s₁.setTop (mkF m 61 #[.val (.int p0), .val (.int p1), .val (.int p2), .val (.int p3), .val (.int p4), .val (.int ((p4 &&& (3 : Int32)) % (3 : Int32))), .val (.int (0 : Int32)), .val (.int (1 : Int32)), .val (.int (((p4.toUInt32 >>> ((4 : Int32) &&& 31).toUInt32).toInt32) &&& (3 : Int32))), .unset, .unset, .unset, .unset, .unset, .unset, .unset, .unset, .unset, .unset, .unset, .unset] [(.int (3 : Int32)), (.int ((p4.toUInt32 >>> ((6 : Int32) &&& 31).toUInt32).toInt32))])) _
            refine XS.iand X0.here hx rfl (hb hby at_61) rfl ?_
            show Steps p.tables e below (s₁.setTop (mkF m 62 #[.val (.int p0), .val (.int p1), .val (.int p2), .val (.int p3), .val (.int p4), .val (.int ((p4 &&& (3 : Int32)) % (3 : Int32))), .val (.int (0 : Int32)), .val (.int (1 : Int32)), .val (.int (((p4.toUInt32 >>> ((4 : Int32) &&& 31).toUInt32).toInt32) &&& (3 : Int32))), .unset, .unset, .unset, .unset, .unset, .unset, .unset, .unset, .unset, .unset, .unset, .unset] [(.int (((p4.toUInt32 >>> ((6 : Int32) &&& 31).toUInt32).toInt32) &&& (3 : Int32)))])) _
            refine XS.iconst X0.here hx rfl (hb hby at_62) ?_
            show Steps p.tables e below (s₁.setTop (mkF m 63 #[.val (.int p0), .val (.int p1), .val (.int p2), .val (.int p3), .val (.int p4), .val (.int ((p4 &&& (3 : Int32)) % (3 : Int32))), .val (.int (0 : Int32)), .val (.int (1 : Int32)), .val (.int (((p4.toUInt32 >>> ((4 : Int32) &&& 31).toUInt32).toInt32) &&& (3 : Int32))), .unset, .unset, .unset, .unset, .unset, .unset, .unset, .unset, .unset, .unset, .unset, .unset] [(.int (3 : Int32)), (.int (((p4.toUInt32 >>> ((6 : Int32) &&& 31).toUInt32).toInt32) &&& (3 : Int32)))])) _
            refine iremM X0 hx rfl (hb hby at_63) rfl (by decide) ?_
            show Steps p.tables e below (s₁.setTop (mkF m 64 #[.val (.int p0), .val (.int p1), .val (.int p2), .val (.int p3), .val (.int p4), .val (.int ((p4 &&& (3 : Int32)) % (3 : Int32))), .val (.int (0 : Int32)), .val (.int (1 : Int32)), .val (.int (((p4.toUInt32 >>> ((4 : Int32) &&& 31).toUInt32).toInt32) &&& (3 : Int32))), .unset, .unset, .unset, .unset, .unset, .unset, .unset, .unset, .unset, .unset, .unset, .unset] [(.int ((((p4.toUInt32 >>> ((6 : Int32) &&& 31).toUInt32).toInt32) &&& (3 : Int32)) % (3 : Int32)))])) _
            refine XS.istore X0.here hx rfl (hb hby at_64) rfl (l' := #[.val (.int p0), .val (.int p1), .val (.int p2), .val (.int p3), .val (.int p4), .val (.int ((p4 &&& (3 : Int32)) % (3 : Int32))), .val (.int (0 : Int32)), .val (.int (1 : Int32)), .val (.int (((p4.toUInt32 >>> ((4 : Int32) &&& 31).toUInt32).toInt32) &&& (3 : Int32))), .val (.int ((((p4.toUInt32 >>> ((6 : Int32) &&& 31).toUInt32).toInt32) &&& (3 : Int32)) % (3 : Int32))), .unset, .unset, .unset, .unset, .unset, .unset, .unset, .unset, .unset, .unset, .unset]) rfl ?_
            show Steps p.tables e below (s₁.setTop (mkF m 66 #[.val (.int p0), .val (.int p1), .val (.int p2), .val (.int p3), .val (.int p4), .val (.int ((p4 &&& (3 : Int32)) % (3 : Int32))), .val (.int (0 : Int32)), .val (.int (1 : Int32)), .val (.int (((p4.toUInt32 >>> ((4 : Int32) &&& 31).toUInt32).toInt32) &&& (3 : Int32))), .val (.int ((((p4.toUInt32 >>> ((6 : Int32) &&& 31).toUInt32).toInt32) &&& (3 : Int32)) % (3 : Int32))), .unset, .unset, .unset, .unset, .unset, .unset, .unset, .unset, .unset, .unset, .unset] [])) _
            refine XS.iload X0.here hx rfl (hb hby at_66) rfl ?_
            show Steps p.tables e below (s₁.setTop (mkF m 68 #[.val (.int p0), .val (.int p1), .val (.int p2), .val (.int p3), .val (.int p4), .val (.int ((p4 &&& (3 : Int32)) % (3 : Int32))), .val (.int (0 : Int32)), .val (.int (1 : Int32)), .val (.int (((p4.toUInt32 >>> ((4 : Int32) &&& 31).toUInt32).toInt32) &&& (3 : Int32))), .val (.int ((((p4.toUInt32 >>> ((6 : Int32) &&& 31).toUInt32).toInt32) &&& (3 : Int32)) % (3 : Int32))), .unset, .unset, .unset, .unset, .unset, .unset, .unset, .unset, .unset, .unset, .unset] [(.int (0 : Int32))])) _
            refine XS.ifYes X0.here hx rfl (pc0 := 68) (pc' := 75) rfl (hb hby at_68) rfl ((if0 _ _).trans (teq (rfl : (0 : Int32) = (0 : Int32))).1) (by decide) (by decide) ?_
            show Steps p.tables e below (s₁.setTop (mkF m 75 #[.val (.int p0), .val (.int p1), .val (.int p2), .val (.int p3), .val (.int p4), .val (.int ((p4 &&& (3 : Int32)) % (3 : Int32))), .val (.int (0 : Int32)), .val (.int (1 : Int32)), .val (.int (((p4.toUInt32 >>> ((4 : Int32) &&& 31).toUInt32).toInt32) &&& (3 : Int32))), .val (.int ((((p4.toUInt32 >>> ((6 : Int32) &&& 31).toUInt32).toInt32) &&& (3 : Int32)) % (3 : Int32))), .unset, .unset, .unset, .unset, .unset, .unset, .unset, .unset, .unset, .unset, .unset] [])) _
            refine XS.iloadN X0.here hx rfl (hb hby at_75) rfl ?_
            show Steps p.tables e below (s₁.setTop (mkF m 76 #[.val (.int p0), .val (.int p1), .val (.int p2), .val (.int p3), .val (.int p4), .val (.int ((p4 &&& (3 : Int32)) % (3 : Int32))), .val (.int (0 : Int32)), .val (.int (1 : Int32)), .val (.int (((p4.toUInt32 >>> ((4 : Int32) &&& 31).toUInt32).toInt32) &&& (3 : Int32))), .val (.int ((((p4.toUInt32 >>> ((6 : Int32) &&& 31).toUInt32).toInt32) &&& (3 : Int32)) % (3 : Int32))), .unset, .unset, .unset, .unset, .unset, .unset, .unset, .unset, .unset, .unset, .unset] [(.int p1)])) _
            refine XS.istore X0.here hx rfl (hb hby at_76) rfl (l' := #[.val (.int p0), .val (.int p1), .val (.int p2), .val (.int p3), .val (.int p4), .val (.int ((p4 &&& (3 : Int32)) % (3 : Int32))), .val (.int (0 : Int32)), .val (.int (1 : Int32)), .val (.int (((p4.toUInt32 >>> ((4 : Int32) &&& 31).toUInt32).toInt32) &&& (3 : Int32))), .val (.int ((((p4.toUInt32 >>> ((6 : Int32) &&& 31).toUInt32).toInt32) &&& (3 : Int32)) % (3 : Int32))), .val (.int p1), .unset, .unset, .unset, .unset, .unset, .unset, .unset, .unset, .unset, .unset]) rfl ?_
            show Steps p.tables e below (s₁.setTop (mkF m 78 #[.val (.int p0), .val (.int p1), .val (.int p2), .val (.int p3), .val (.int p4), .val (.int ((p4 &&& (3 : Int32)) % (3 : Int32))), .val (.int (0 : Int32)), .val (.int (1 : Int32)), .val (.int (((p4.toUInt32 >>> ((4 : Int32) &&& 31).toUInt32).toInt32) &&& (3 : Int32))), .val (.int ((((p4.toUInt32 >>> ((6 : Int32) &&& 31).toUInt32).toInt32) &&& (3 : Int32)) % (3 : Int32))), .val (.int p1), .unset, .unset, .unset, .unset, .unset, .unset, .unset, .unset, .unset, .unset] [])) _
            refine XS.iloadN X0.here hx rfl (hb hby at_78) rfl ?_
            show Steps p.tables e below (s₁.setTop (mkF m 79 #[.val (.int p0), .val (.int p1), .val (.int p2), .val (.int p3), .val (.int p4), .val (.int ((p4 &&& (3 : Int32)) % (3 : Int32))), .val (.int (0 : Int32)), .val (.int (1 : Int32)), .val (.int (((p4.toUInt32 >>> ((4 : Int32) &&& 31).toUInt32).toInt32) &&& (3 : Int32))), .val (.int ((((p4.toUInt32 >>> ((6 : Int32) &&& 31).toUInt32).toInt32) &&& (3 : Int32)) % (3 : Int32))), .val (.int p1), .unset, .unset, .unset, .unset, .unset, .unset, .unset, .unset, .unset, .unset] [(.int p0)])) _
            refine XS.sipush X0.here hx rfl (hb hby at_79) ?_
            show Steps p.tables e below (s₁.setTop (mkF m 82 #[.val (.int p0), .val (.int p1), .val (.int p2), .val (.int p3), .val (.int p4), .val (.int ((p4 &&& (3 : Int32)) % (3 : Int32))), .val (.int (0 : Int32)), .val (.int (1 : Int32)), .val (.int (((p4.toUInt32 >>> ((4 : Int32) &&& 31).toUInt32).toInt32) &&& (3 : Int32))), .val (.int ((((p4.toUInt32 >>> ((6 : Int32) &&& 31).toUInt32).toInt32) &&& (3 : Int32)) % (3 : Int32))), .val (.int p1), .unset, .unset, .unset, .unset, .unset, .unset, .unset, .unset, .unset, .unset] [(.int (255 : Int32)), (.int p0)])) _
            refine XS.iand X0.here hx rfl (hb hby at_82) rfl ?_
            show Steps p.tables e below (s₁.setTop (mkF m 83 #[.val (.int p0), .val (.int p1), .val (.int p2), .val (.int p3), .val (.int p4), .val (.int ((p4 &&& (3 : Int32)) % (3 : Int32))), .val (.int (0 : Int32)), .val (.int (1 : Int32)), .val (.int (((p4.toUInt32 >>> ((4 : Int32) &&& 31).toUInt32).toInt32) &&& (3 : Int32))), .val (.int ((((p4.toUInt32 >>> ((6 : Int32) &&& 31).toUInt32).toInt32) &&& (3 : Int32)) % (3 : Int32))), .val (.int p1), .unset, .unset, .unset, .unset, .unset, .unset, .unset, .unset, .unset, .unset] [(.int (p0 &&& (255 : Int32)))])) _
            refine XS.i2c X0.here hx rfl (hb hby at_83) rfl ?_
            show Steps p.tables e below (s₁.setTop (mkF m 84 #[.val (.int p0), .val (.int p1), .val (.int p2), .val (.int p3), .val (.int p4), .val (.int ((p4 &&& (3 : Int32)) % (3 : Int32))), .val (.int (0 : Int32)), .val (.int (1 : Int32)), .val (.int (((p4.toUInt32 >>> ((4 : Int32) &&& 31).toUInt32).toInt32) &&& (3 : Int32))), .val (.int ((((p4.toUInt32 >>> ((6 : Int32) &&& 31).toUInt32).toInt32) &&& (3 : Int32)) % (3 : Int32))), .val (.int p1), .unset, .unset, .unset, .unset, .unset, .unset, .unset, .unset, .unset, .unset] [(.int ((p0 &&& (255 : Int32)).toUInt32.toUInt16.toUInt32.toInt32))])) _
            refine XS.istore X0.here hx rfl (hb hby at_84) rfl (l' := #[.val (.int p0), .val (.int p1), .val (.int p2), .val (.int p3), .val (.int p4), .val (.int ((p4 &&& (3 : Int32)) % (3 : Int32))), .val (.int (0 : Int32)), .val (.int (1 : Int32)), .val (.int (((p4.toUInt32 >>> ((4 : Int32) &&& 31).toUInt32).toInt32) &&& (3 : Int32))), .val (.int ((((p4.toUInt32 >>> ((6 : Int32) &&& 31).toUInt32).toInt32) &&& (3 : Int32)) % (3 : Int32))), .val (.int p1), .val (.int ((p0 &&& (255 : Int32)).toUInt32.toUInt16.toUInt32.toInt32)), .unset, .unset, .unset, .unset, .unset, .unset, .unset, .unset, .unset]) rfl ?_
            show Steps p.tables e below (s₁.setTop (mkF m 86 #[.val (.int p0), .val (.int p1), .val (.int p2), .val (.int p3), .val (.int p4), .val (.int ((p4 &&& (3 : Int32)) % (3 : Int32))), .val (.int (0 : Int32)), .val (.int (1 : Int32)), .val (.int (((p4.toUInt32 >>> ((4 : Int32) &&& 31).toUInt32).toInt32) &&& (3 : Int32))), .val (.int ((((p4.toUInt32 >>> ((6 : Int32) &&& 31).toUInt32).toInt32) &&& (3 : Int32)) % (3 : Int32))), .val (.int p1), .val (.int ((p0 &&& (255 : Int32)).toUInt32.toUInt16.toUInt32.toInt32)), .unset, .unset, .unset, .unset, .unset, .unset, .unset, .unset, .unset] [])) _
            refine XS.iloadN X0.here hx rfl (hb hby at_86) rfl ?_
            show Steps p.tables e below (s₁.setTop (mkF m 87 #[.val (.int p0), .val (.int p1), .val (.int p2), .val (.int p3), .val (.int p4), .val (.int ((p4 &&& (3 : Int32)) % (3 : Int32))), .val (.int (0 : Int32)), .val (.int (1 : Int32)), .val (.int (((p4.toUInt32 >>> ((4 : Int32) &&& 31).toUInt32).toInt32) &&& (3 : Int32))), .val (.int ((((p4.toUInt32 >>> ((6 : Int32) &&& 31).toUInt32).toInt32) &&& (3 : Int32)) % (3 : Int32))), .val (.int p1), .val (.int ((p0 &&& (255 : Int32)).toUInt32.toUInt16.toUInt32.toInt32)), .unset, .unset, .unset, .unset, .unset, .unset, .unset, .unset, .unset] [(.int p0)])) _
            refine XS.bipush X0.here hx rfl (hb hby at_87) ?_
            show Steps p.tables e below (s₁.setTop (mkF m 89 #[.val (.int p0), .val (.int p1), .val (.int p2), .val (.int p3), .val (.int p4), .val (.int ((p4 &&& (3 : Int32)) % (3 : Int32))), .val (.int (0 : Int32)), .val (.int (1 : Int32)), .val (.int (((p4.toUInt32 >>> ((4 : Int32) &&& 31).toUInt32).toInt32) &&& (3 : Int32))), .val (.int ((((p4.toUInt32 >>> ((6 : Int32) &&& 31).toUInt32).toInt32) &&& (3 : Int32)) % (3 : Int32))), .val (.int p1), .val (.int ((p0 &&& (255 : Int32)).toUInt32.toUInt16.toUInt32.toInt32)), .unset, .unset, .unset, .unset, .unset, .unset, .unset, .unset, .unset] [(.int (8 : Int32)), (.int p0)])) _
            refine XS.iushr X0.here hx rfl (hb hby at_89) rfl ?_
            show Steps p.tables e below (s₁.setTop (mkF m 90 #[.val (.int p0), .val (.int p1), .val (.int p2), .val (.int p3), .val (.int p4), .val (.int ((p4 &&& (3 : Int32)) % (3 : Int32))), .val (.int (0 : Int32)), .val (.int (1 : Int32)), .val (.int (((p4.toUInt32 >>> ((4 : Int32) &&& 31).toUInt32).toInt32) &&& (3 : Int32))), .val (.int ((((p4.toUInt32 >>> ((6 : Int32) &&& 31).toUInt32).toInt32) &&& (3 : Int32)) % (3 : Int32))), .val (.int p1), .val (.int ((p0 &&& (255 : Int32)).toUInt32.toUInt16.toUInt32.toInt32)), .unset, .unset, .unset, .unset, .unset, .unset, .unset, .unset, .unset] [(.int ((p0.toUInt32 >>> ((8 : Int32) &&& 31).toUInt32).toInt32))])) _
            refine XS.sipush X0.here hx rfl (hb hby at_90) ?_
            show Steps p.tables e below (s₁.setTop (mkF m 93 #[.val (.int p0), .val (.int p1), .val (.int p2), .val (.int p3), .val (.int p4), .val (.int ((p4 &&& (3 : Int32)) % (3 : Int32))), .val (.int (0 : Int32)), .val (.int (1 : Int32)), .val (.int (((p4.toUInt32 >>> ((4 : Int32) &&& 31).toUInt32).toInt32) &&& (3 : Int32))), .val (.int ((((p4.toUInt32 >>> ((6 : Int32) &&& 31).toUInt32).toInt32) &&& (3 : Int32)) % (3 : Int32))), .val (.int p1), .val (.int ((p0 &&& (255 : Int32)).toUInt32.toUInt16.toUInt32.toInt32)), .unset, .unset, .unset, .unset, .unset, .unset, .unset, .unset, .unset] [(.int (255 : Int32)), (.int ((p0.toUInt32 >>> ((8 : Int32) &&& 31).toUInt32).toInt32))])) _
            refine XS.iand X0.here hx rfl (hb hby at_93) rfl ?_
            show Steps p.tables e below (s₁.setTop (mkF m 94 #[.val (.int p0), .val (.int p1), .val (.int p2), .val (.int p3), .val (.int p4), .val (.int ((p4 &&& (3 : Int32)) % (3 : Int32))), .val (.int (0 : Int32)), .val (.int (1 : Int32)), .val (.int (((p4.toUInt32 >>> ((4 : Int32) &&& 31).toUInt32).toInt32) &&& (3 : Int32))), .val (.int ((((p4.toUInt32 >>> ((6 : Int32) &&& 31).toUInt32).toInt32) &&& (3 : Int32)) % (3 : Int32))), .val (.int p1), .val (.int ((p0 &&& (255 : Int32)).toUInt32.toUInt16.toUInt32.toInt32)), .unset, .unset, .unset, .unset, .unset, .unset, .unset, .unset, .unset] [(.int (((p0.toUInt32 >>> ((8 : Int32) &&& 31).toUInt32).toInt32) &&& (255 : Int32)))])) _
            refine XS.i2c X0.here hx rfl (hb hby at_94) rfl ?_
            show Steps p.tables e below (s₁.setTop (mkF m 95 #[.val (.int p0), .val (.int p1), .val (.int p2), .val (.int p3), .val (.int p4), .val (.int ((p4 &&& (3 : Int32)) % (3 : Int32))), .val (.int (0 : Int32)), .val (.int (1 : Int32)), .val (.int (((p4.toUInt32 >>> ((4 : Int32) &&& 31).toUInt32).toInt32) &&& (3 : Int32))), .val (.int ((((p4.toUInt32 >>> ((6 : Int32) &&& 31).toUInt32).toInt32) &&& (3 : Int32)) % (3 : Int32))), .val (.int p1), .val (.int ((p0 &&& (255 : Int32)).toUInt32.toUInt16.toUInt32.toInt32)), .unset, .unset, .unset, .unset, .unset, .unset, .unset, .unset, .unset] [(.int ((((p0.toUInt32 >>> ((8 : Int32) &&& 31).toUInt32).toInt32) &&& (255 : Int32)).toUInt32.toUInt16.toUInt32.toInt32))])) _
            refine XS.istore X0.here hx rfl (hb hby at_95) rfl (l' := #[.val (.int p0), .val (.int p1), .val (.int p2), .val (.int p3), .val (.int p4), .val (.int ((p4 &&& (3 : Int32)) % (3 : Int32))), .val (.int (0 : Int32)), .val (.int (1 : Int32)), .val (.int (((p4.toUInt32 >>> ((4 : Int32) &&& 31).toUInt32).toInt32) &&& (3 : Int32))), .val (.int ((((p4.toUInt32 >>> ((6 : Int32) &&& 31).toUInt32).toInt32) &&& (3 : Int32)) % (3 : Int32))), .val (.int p1), .val (.int ((p0 &&& (255 : Int32)).toUInt32.toUInt16.toUInt32.toInt32)), .val (.int ((((p0.toUInt32 >>> ((8 : Int32) &&& 31).toUInt32).toInt32) &&& (255 : Int32)).toUInt32.toUInt16.toUInt32.toInt32)), .unset, .unset, .unset, .unset, .unset, .unset, .unset, .unset]) rfl ?_
            show Steps p.tables e below (s₁.setTop (mkF m 97 #[.val (.int p0), .val (.int p1), .val (.int p2), .val (.int p3), .val (.int p4), .val (.int ((p4 &&& (3 : Int32)) % (3 : Int32))), .val (.int (0 : Int32)), .val (.int (1 : Int32)), .val (.int (((p4.toUInt32 >>> ((4 : Int32) &&& 31).toUInt32).toInt32) &&& (3 : Int32))), .val (.int ((((p4.toUInt32 >>> ((6 : Int32) &&& 31).toUInt32).toInt32) &&& (3 : Int32)) % (3 : Int32))), .val (.int p1), .val (.int ((p0 &&& (255 : Int32)).toUInt32.toUInt16.toUInt32.toInt32)), .val (.int ((((p0.toUInt32 >>> ((8 : Int32) &&& 31).toUInt32).toInt32) &&& (255 : Int32)).toUInt32.toUInt16.toUInt32.toInt32)), .unset, .unset, .unset, .unset, .unset, .unset, .unset, .unset] [])) _
            refine XS.iload X0.here hx rfl (hb hby at_97) rfl ?_
            show Steps p.tables e below (s₁.setTop (mkF m 99 #[.val (.int p0), .val (.int p1), .val (.int p2), .val (.int p3), .val (.int p4), .val (.int ((p4 &&& (3 : Int32)) % (3 : Int32))), .val (.int (0 : Int32)), .val (.int (1 : Int32)), .val (.int (((p4.toUInt32 >>> ((4 : Int32) &&& 31).toUInt32).toInt32) &&& (3 : Int32))), .val (.int ((((p4.toUInt32 >>> ((6 : Int32) &&& 31).toUInt32).toInt32) &&& (3 : Int32)) % (3 : Int32))), .val (.int p1), .val (.int ((p0 &&& (255 : Int32)).toUInt32.toUInt16.toUInt32.toInt32)), .val (.int ((((p0.toUInt32 >>> ((8 : Int32) &&& 31).toUInt32).toInt32) &&& (255 : Int32)).toUInt32.toUInt16.toUInt32.toInt32)), .unset, .unset, .unset, .unset, .unset, .unset, .unset, .unset] [(.int p1)])) _
            refine XS.sipush X0.here hx rfl (hb hby at_99) ?_
            show Steps p.tables e below (s₁.setTop (mkF m 102 #[.val (.int p0), .val (.int p1), .val (.int p2), .val (.int p3), .val (.int p4), .val (.int ((p4 &&& (3 : Int32)) % (3 : Int32))), .val (.int (0 : Int32)), .val (.int (1 : Int32)), .val (.int (((p4.toUInt32 >>> ((4 : Int32) &&& 31).toUInt32).toInt32) &&& (3 : Int32))), .val (.int ((((p4.toUInt32 >>> ((6 : Int32) &&& 31).toUInt32).toInt32) &&& (3 : Int32)) % (3 : Int32))), .val (.int p1), .val (.int ((p0 &&& (255 : Int32)).toUInt32.toUInt16.toUInt32.toInt32)), .val (.int ((((p0.toUInt32 >>> ((8 : Int32) &&& 31).toUInt32).toInt32) &&& (255 : Int32)).toUInt32.toUInt16.toUInt32.toInt32)), .unset, .unset, .unset, .unset, .unset, .unset, .unset, .unset] [(.int (255 : Int32)), (.int p1)])) _
            refine XS.iand X0.here hx rfl (hb hby at_102) rfl ?_
            show Steps p.tables e below (s₁.setTop (mkF m 103 #[.val (.int p0), .val (.int p1), .val (.int p2), .val (.int p3), .val (.int p4), .val (.int ((p4 &&& (3 : Int32)) % (3 : Int32))), .val (.int (0 : Int32)), .val (.int (1 : Int32)), .val (.int (((p4.toUInt32 >>> ((4 : Int32) &&& 31).toUInt32).toInt32) &&& (3 : Int32))), .val (.int ((((p4.toUInt32 >>> ((6 : Int32) &&& 31).toUInt32).toInt32) &&& (3 : Int32)) % (3 : Int32))), .val (.int p1), .val (.int ((p0 &&& (255 : Int32)).toUInt32.toUInt16.toUInt32.toInt32)), .val (.int ((((p0.toUInt32 >>> ((8 : Int32) &&& 31).toUInt32).toInt32) &&& (255 : Int32)).toUInt32.toUInt16.toUInt32.toInt32)), .unset, .unset, .unset, .unset, .unset, .unset, .unset, .unset] [(.int (p1 &&& (255 : Int32)))])) _
            refine XS.i2c X0.here hx rfl (hb hby at_103) rfl ?_
            show Steps p.tables e below (s₁.setTop (mkF m 104 #[.val (.int p0), .val (.int p1), .val (.int p2), .val (.int p3), .val (.int p4), .val (.int ((p4 &&& (3 : Int32)) % (3 : Int32))), .val (.int (0 : Int32)), .val (.int (1 : Int32)), .val (.int (((p4.toUInt32 >>> ((4 : Int32) &&& 31).toUInt32).toInt32) &&& (3 : Int32))), .val (.int ((((p4.toUInt32 >>> ((6 : Int32) &&& 31).toUInt32).toInt32) &&& (3 : Int32)) % (3 : Int32))), .val (.int p1), .val (.int ((p0 &&& (255 : Int32)).toUInt32.toUInt16.toUInt32.toInt32)), .val (.int ((((p0.toUInt32 >>> ((8 : Int32) &&& 31).toUInt32).toInt32) &&& (255 : Int32)).toUInt32.toUInt16.toUInt32.toInt32)), .unset, .unset, .unset, .unset, .unset, .unset, .unset, .unset] [(.int ((p1 &&& (255 : Int32)).toUInt32.toUInt16.toUInt32.toInt32))])) _
            refine XS.istore X0.here hx rfl (hb hby at_104) rfl (l' := #[.val (.int p0), .val (.int p1), .val (.int p2), .val (.int p3), .val (.int p4), .val (.int ((p4 &&& (3 : Int32)) % (3 : Int32))), .val (.int (0 : Int32)), .val (.int (1 : Int32)), .val (.int (((p4.toUInt32 >>> ((4 : Int32) &&& 31).toUInt32).toInt32) &&& (3 : Int32))), .val (.int ((((p4.toUInt32 >>> ((6 : Int32) &&& 31).toUInt32).toInt32) &&& (3 : Int32)) % (3 : Int32))), .val (.int p1), .val (.int ((p0 &&& (255 : Int32)).toUInt32.toUInt16.toUInt32.toInt32)), .val (.int ((((p0.toUInt32 >>> ((8 : Int32) &&& 31).toUInt32).toInt32) &&& (255 : Int32)).toUInt32.toUInt16.toUInt32.toInt32)), .val (.int ((p1 &&& (255 : Int32)).toUInt32.toUInt16.toUInt32.toInt32)), .unset, .unset, .unset, .unset, .unset, .unset, .unset]) rfl ?_
            show Steps p.tables e below (s₁.setTop (mkF m 106 #[.val (.int p0), .val (.int p1), .val (.int p2), .val (.int p3), .val (.int p4), .val (.int ((p4 &&& (3 : Int32)) % (3 : Int32))), .val (.int (0 : Int32)), .val (.int (1 : Int32)), .val (.int (((p4.toUInt32 >>> ((4 : Int32) &&& 31).toUInt32).toInt32) &&& (3 : Int32))), .val (.int ((((p4.toUInt32 >>> ((6 : Int32) &&& 31).toUInt32).toInt32) &&& (3 : Int32)) % (3 : Int32))), .val (.int p1), .val (.int ((p0 &&& (255 : Int32)).toUInt32.toUInt16.toUInt32.toInt32)), .val (.int ((((p0.toUInt32 >>> ((8 : Int32) &&& 31).toUInt32).toInt32) &&& (255 : Int32)).toUInt32.toUInt16.toUInt32.toInt32)), .val (.int ((p1 &&& (255 : Int32)).toUInt32.toUInt16.toUInt32.toInt32)), .unset, .unset, .unset, .unset, .unset, .unset, .unset] [])) _
            refine XS.iload X0.here hx rfl (hb hby at_106) rfl ?_
            show Steps p.tables e below (s₁.setTop (mkF m 108 #[.val (.int p0), .val (.int p1), .val (.int p2), .val (.int p3), .val (.int p4), .val (.int ((p4 &&& (3 : Int32)) % (3 : Int32))), .val (.int (0 : Int32)), .val (.int (1 : Int32)), .val (.int (((p4.toUInt32 >>> ((4 : Int32) &&& 31).toUInt32).toInt32) &&& (3 : Int32))), .val (.int ((((p4.toUInt32 >>> ((6 : Int32) &&& 31).toUInt32).toInt32) &&& (3 : Int32)) % (3 : Int32))), .val (.int p1), .val (.int ((p0 &&& (255 : Int32)).toUInt32.toUInt16.toUInt32.toInt32)), .val (.int ((((p0.toUInt32 >>> ((8 : Int32) &&& 31).toUInt32).toInt32) &&& (255 : Int32)).toUInt32.toUInt16.toUInt32.toInt32)), .val (.int ((p1 &&& (255 : Int32)).toUInt32.toUInt16.toUInt32.toInt32)), .unset, .unset, .unset, .unset, .unset, .unset, .unset] [(.int p1)])) _
            refine XS.bipush X0.here hx rfl (hb hby at_108) ?_
            show Steps p.tables e below (s₁.setTop (mkF m 110 #[.val (.int p0), .val (.int p1), .val (.int p2), .val (.int p3), .val (.int p4), .val (.int ((p4 &&& (3 : Int32)) % (3 : Int32))), .val (.int (0 : Int32)), .val (.int (1 : Int32)), .val (.int (((p4.toUInt32 >>> ((4 : Int32) &&& 31).toUInt32).toInt32) &&& (3 : Int32))), .val (.int ((((p4.toUInt32 >>> ((6 : Int32) &&& 31).toUInt32).toInt32) &&& (3 : Int32)) % (3 : Int32))), .val (.int p1), .val (.int ((p0 &&& (255 : Int32)).toUInt32.toUInt16.toUInt32.toInt32)), .val (.int ((((p0.toUInt32 >>> ((8 : Int32) &&& 31).toUInt32).toInt32) &&& (255 : Int32)).toUInt32.toUInt16.toUInt32.toInt32)), .val (.int ((p1 &&& (255 : Int32)).toUInt32.toUInt16.toUInt32.toInt32)), .unset, .unset, .unset, .unset, .unset, .unset, .unset] [(.int (8 : Int32)), (.int p1)])) _
            refine XS.iushr X0.here hx rfl (hb hby at_110) rfl ?_
            show Steps p.tables e below (s₁.setTop (mkF m 111 #[.val (.int p0), .val (.int p1), .val (.int p2), .val (.int p3), .val (.int p4), .val (.int ((p4 &&& (3 : Int32)) % (3 : Int32))), .val (.int (0 : Int32)), .val (.int (1 : Int32)), .val (.int (((p4.toUInt32 >>> ((4 : Int32) &&& 31).toUInt32).toInt32) &&& (3 : Int32))), .val (.int ((((p4.toUInt32 >>> ((6 : Int32) &&& 31).toUInt32).toInt32) &&& (3 : Int32)) % (3 : Int32))), .val (.int p1), .val (.int ((p0 &&& (255 : Int32)).toUInt32.toUInt16.toUInt32.toInt32)), .val (.int ((((p0.toUInt32 >>> ((8 : Int32) &&& 31).toUInt32).toInt32) &&& (255 : Int32)).toUInt32.toUInt16.toUInt32.toInt32)), .val (.int ((p1 &&& (255 : Int32)).toUInt32.toUInt16.toUInt32.toInt32)), .unset, .unset, .unset, .unset, .unset, .unset, .unset] [(.int ((p1.toUInt32 >>> ((8 : Int32) &&& 31).toUInt32).toInt32))])) _
            refine XS.sipush X0.here hx rfl (hb hby at_111) ?_
            show Steps p.tables e below (s₁.setTop (mkF m 114 #[.val (.int p0), .val (.int p1), .val (.int p2), .val (.int p3), .val (.int p4), .val (.int ((p4 &&& (3 : Int32)) % (3 : Int32))), .val (.int (0 : Int32)), .val (.int (1 : Int32)), .val (.int (((p4.toUInt32 >>> ((4 : Int32) &&& 31).toUInt32).toInt32) &&& (3 : Int32))), .val (.int ((((p4.toUInt32 >>> ((6 : Int32) &&& 31).toUInt32).toInt32) &&& (3 : Int32)) % (3 : Int32))), .val (.int p1), .val (.int ((p0 &&& (255 : Int32)).toUInt32.toUInt16.toUInt32.toInt32)), .val (.int ((((p0.toUInt32 >>> ((8 : Int32) &&& 31).toUInt32).toInt32) &&& (255 : Int32)).toUInt32.toUInt16.toUInt32.toInt32)), .val (.int ((p1 &&& (255 : Int32)).toUInt32.toUInt16.toUInt32.toInt32)), .unset, .unset, .unset, .unset, .unset, .unset, .unset] [(.int (255 : Int32)), (.int ((p1.toUInt32 >>> ((8 : Int32) &&& 31).toUInt32).toInt32))])) _
            refine XS.iand X0.here hx rfl (hb hby at_114) rfl ?_
            show Steps p.tables e below (s₁.setTop (mkF m 115 #[.val (.int p0), .val (.int p1), .val (.int p2), .val (.int p3), .val (.int p4), .val (.int ((p4 &&& (3 : Int32)) % (3 : Int32))), .val (.int (0 : Int32)), .val (.int (1 : Int32)), .val (.int (((p4.toUInt32 >>> ((4 : Int32) &&& 31).toUInt32).toInt32) &&& (3 : Int32))), .val (.int ((((p4.toUInt32 >>> ((6 : Int32) &&& 31).toUInt32).toInt32) &&& (3 : Int32)) % (3 : Int32))), .val (.int p1), .val (.int ((p0 &&& (255 : Int32)).toUInt32.toUInt16.toUInt32.toInt32)), .val (.int ((((p0.toUInt32 >>> ((8 : Int32) &&& 31).toUInt32).toInt32) &&& (255 : Int32)).toUInt32.toUInt16.toUInt32.toInt32)), .val (.int ((p1 &&& (255 : Int32)).toUInt32.toUInt16.toUInt32.toInt32)), .unset, .unset, .unset, .unset, .unset, .unset, .unset] [(.int (((p1.toUInt32 >>> ((8 : Int32) &&& 31).toUInt32).toInt32) &&& (255 : Int32)))])) _
            refine XS.i2c X0.here hx rfl (hb hby at_115) rfl ?_
            show Steps p.tables e below (s₁.setTop (mkF m 116 #[.val (.int p0), .val (.int p1), .val (.int p2), .val (.int p3), .val (.int p4), .val (.int ((p4 &&& (3 : Int32)) % (3 : Int32))), .val (.int (0 : Int32)), .val (.int (1 : Int32)), .val (.int (((p4.toUInt32 >>> ((4 : Int32) &&& 31).toUInt32).toInt32) &&& (3 : Int32))), .val (.int ((((p4.toUInt32 >>> ((6 : Int32) &&& 31).toUInt32).toInt32) &&& (3 : Int32)) % (3 : Int32))), .val (.int p1), .val (.int ((p0 &&& (255 : Int32)).toUInt32.toUInt16.toUInt32.toInt32)), .val (.int ((((p0.toUInt32 >>> ((8 : Int32) &&& 31).toUInt32).toInt32) &&& (255 : Int32)).toUInt32.toUInt16.toUInt32.toInt32)), .val (.int ((p1 &&& (255 : Int32)).toUInt32.toUInt16.toUInt32.toInt32)), .unset, .unset, .unset, .unset, .unset, .unset, .unset] [(.int ((((p1.toUInt32 >>> ((8 : Int32) &&& 31).toUInt32).toInt32) &&& (255 : Int32)).toUInt32.toUInt16.toUInt32.toInt32))])) _
            refine XS.istore X0.here hx rfl (hb hby at_116) rfl (l' := #[.val (.int p0), .val (.int p1), .val (.int p2), .val (.int p3), .val (.int p4), .val (.int ((p4 &&& (3 : Int32)) % (3 : Int32))), .val (.int (0 : Int32)), .val (.int (1 : Int32)), .val (.int (((p4.toUInt32 >>> ((4 : Int32) &&& 31).toUInt32).toInt32) &&& (3 : Int32))), .val (.int ((((p4.toUInt32 >>> ((6 : Int32) &&& 31).toUInt32).toInt32) &&& (3 : Int32)) % (3 : Int32))), .val (.int p1), .val (.int ((p0 &&& (255 : Int32)).toUInt32.toUInt16.toUInt32.toInt32)), .val (.int ((((p0.toUInt32 >>> ((8 : Int32) &&& 31).toUInt32).toInt32) &&& (255 : Int32)).toUInt32.toUInt16.toUInt32.toInt32)), .val (.int ((p1 &&& (255 : Int32)).toUInt32.toUInt16.toUInt32.toInt32)), .val (.int ((((p1.toUInt32 >>> ((8 : Int32) &&& 31).toUInt32).toInt32) &&& (255 : Int32)).toUInt32.toUInt16.toUInt32.toInt32)), .unset, .unset, .unset, .unset, .unset, .unset]) rfl ?_
            exact kt)
        exact kk1 ⟨((p4 &&& (3 : Int32)) % (3 : Int32)), (0 : Int32), (1 : Int32), (((p4.toUInt32 >>> ((4 : Int32) &&& 31).toUInt32).toInt32) &&& (3 : Int32)), ((((p4.toUInt32 >>> ((6 : Int32) &&& 31).toUInt32).toInt32) &&& (3 : Int32)) % (3 : Int32)), p1, ((p0 &&& (255 : Int32)).toUInt32.toUInt16.toUInt32.toInt32), ((((p0.toUInt32 >>> ((8 : Int32) &&& 31).toUInt32).toInt32) &&& (255 : Int32)).toUInt32.toUInt16.toUInt32.toInt32), ((p1 &&& (255 : Int32)).toUInt32.toUInt16.toUInt32.toInt32), ((((p1.toUInt32 >>> ((8 : Int32) &&& 31).toUInt32).toInt32) &&& (255 : Int32)).toUInt32.toUInt16.toUInt32.toInt32), ⟨own_l3 _, own_l3 _, own_ch _, own_ch _, own_ch _, own_ch _⟩, pre7⟩
    · skip
      have pre8 : ∀ t, Steps p.tables e below (s₁.setTop (mkF m 27 #[.val (.int p0), .val (.int p1), .val (.int p2), .val (.int p3), .val (.int p4), .val (.int ((p4 &&& (3 : Int32)) % (3 : Int32))), .val (.int (1 : Int32)), .unset, .unset, .unset, .unset, .unset, .unset, .unset, .unset, .unset, .unset, .unset, .unset, .unset, .unset] [(.int (p4 &&& (8 : Int32)))])) t → Steps p.tables e below (s₁.setTop (entryFrame m #[(.int p0), (.int p1), (.int p2), (.int p3), (.int p4)] maxLocals)) t := fun t kt => pre2 t (by
          show Steps p.tables e below (s₁.setTop (mkF m 12 #[.val (.int p0), .val (.int p1), .val (.int p2), .val (.int p3), .val (.int p4), .val (.int ((p4 &&& (3 : Int32)) % (3 : Int32))), .unset, .unset, .unset, .unset, .unset, .unset, .unset, .unset, .unset, .unset, .unset, .unset, .unset, .unset, .unset] [(.int (p4 &&& (4 : Int32)))])) _
          refine XS.ifNo X0.here hx rfl (hb hby at_12) rfl ((if0 _ _).trans (feq hc3).1) ?_
          show Steps p.tables e below (s₁.setTop (mkF m 15 #[.val (.int p0), .val (.int p1), .val (.int p2), .val (.int p3), .val (.int p4), .val (.int ((p4 &&& (3 : Int32)) % (3 : Int32))), .unset, .unset, .unset, .unset, .unset, .unset, .unset, .unset, .unset, .unset, .unset, .unset, .unset, .unset, .unset] [])) _
          refine XS.iconst X0.here hx rfl (hb hby at_15) ?_
          show Steps p.tables e below (s₁.setTop (mkF m 16 #[.val (.int p0), .val (.int p1), .val (.int p2), .val (.int p3), .val (.int p4), .val (.int ((p4 &&& (3 : Int32)) % (3 : Int32))), .unset, .unset, .unset, .unset, .unset, .unset, .unset, .unset, .unset, .unset, .unset, .unset, .unset, .unset, .unset] [(.int (1 : Int32))])) _
          refine XS.goto X0.here hx rfl (pc0 := 16) (pc' := 20) rfl (hb hby at_16) (by decide) (by decide) ?_
          show Steps p.tables e below (s₁.setTop (mkF m 20 #[.val (.int p0), .val (.int p1), .val (.int p2), .val (.int p3), .val (.int p4), .val (.int ((p4 &&& (3 : Int32)) % (3 : Int32))), .unset, .unset, .unset, .unset, .unset, .unset, .unset, .unset, .unset, .unset, .unset, .unset, .unset, .unset, .unset] [(.int (1 : Int32))])) _
          refine XS.istore X0.here hx rfl (hb hby at_20) rfl (l' := #[.val (.int p0), .val (.int p1), .val (.int p2), .val (.int p3), .val (.int p4), .val (.int ((p4 &&& (3 : Int32)) % (3 : Int32))), .val (.int (1 : Int32)), .unset, .unset, .unset, .unset, .unset, .unset, .unset, .unset, .unset, .unset, .unset, .unset, .unset, .unset]) rfl ?_
          show Steps p.tables e below (s₁.setTop (mkF m 22 #[.val (.int p0), .val (.int p1), .val (.int p2), .val (.int p3), .val (.int p4), .val (.int ((p4 &&& (3 : Int32)) % (3 : Int32))), .val (.int (1 : Int32)), .unset, .unset, .unset, .unset, .unset, .unset, .unset, .unset, .unset, .unset, .unset, .unset, .unset, .unset] [])) _
          refine XS.iload X0.here hx rfl (hb hby at_22) rfl ?_
          show Steps p.tables e below (s₁.setTop (mkF m 24 #[.val (.int p0), .val (.int p1), .val (.int p2), .val (.int p3), .val (.int p4), .val (.int ((p4 &&& (3 : Int32)) % (3 : Int32))), .val (.int (1 : Int32)), .unset, .unset, .unset, .unset, .unset, .unset, .unset, .unset, .unset, .unset, .unset, .unset, .unset, .unset] [(.int p4)])) _
          refine XS.bipush X0.here hx rfl (hb hby at_24) ?_
          show Steps p.tables e below (s₁.setTop (mkF m 26 #[.val (.int p0), .val (.int p1), .val (.int p2), .val (.int p3), .val (.int p4), .val (.int ((p4 &&& (3 : Int32)) % (3 : Int32))), .val (.int (1 : Int32)), .unset, .unset, .unset, .unset, .unset, .unset, .unset, .unset, .unset, .unset, .unset, .unset, .unset, .unset] [(.int (8 : Int32)), (.int p4)])) _
          refine XS.iand X0.here hx rfl (hb hby at_26) rfl ?_
          exact kt)
      by_cases hc9 : (p4 &&& (8 : Int32)) = (0 : Int32)
      · skip
        have pre10 : ∀ t, Steps p.tables e below (s₁.setTop (mkF m 118 #[.val (.int p0), .val (.int p1), .val (.int p2), .val (.int p3), .val (.int p4), .val (.int ((p4 &&& (3 : Int32)) % (3 : Int32))), .val (.int (1 : Int32)), .val (.int (0 : Int32)), .val (.int (((p4.toUInt32 >>> ((4 : Int32) &&& 31).toUInt32).toInt32) &&& (3 : Int32))), .val (.int ((p4 &&& (3 : Int32)) % (3 : Int32))), .val (.int p0), .val (.int ((p0 &&& (255 : Int32)).toUInt32.toUInt16.toUInt32.toInt32)), .val (.int ((((p0.toUInt32 >>> ((8 : Int32) &&& 31).toUInt32).toInt32) &&& (255 : Int32)).toUInt32.toUInt16.toUInt32.toInt32)), .val (.int ((p0 &&& (255 : Int32)).toUInt32.toUInt16.toUInt32.toInt32)), .val (.int ((((p0.toUInt32 >>> ((8 : Int32) &&& 31).toUInt32).toInt32) &&& (255 : Int32)).toUInt32.toUInt16.toUInt32.toInt32)), .unset, .unset, .unset, .unset, .unset, .unset] [])) t → Steps p.tables e below (s₁.setTop (entryFrame m #[(.int p0), (.int p1), (.int p2), (.int p3), (.int p4)] maxLocals)) t := fun t kt => pre8 t (by
            show Steps p.tables e below (s₁.setTop (mkF m 27 #[.val (.int p0), .val (.int p1), .val (.int p2), .val (.int p3), .val (.int p4), .val (.int ((p4 &&& (3 : Int32)) % (3 : Int32))), .val (.int (1 : Int32)), .unset, .unset, .unset, .unset, .unset, .unset, .unset, .unset, .unset, .unset, .unset, .unset, .unset, .unset] [(.int (p4 &&& (8 : Int32)))])) _
            refine XS.ifYes X0.here hx rfl (pc0 := 27) (pc' := 34) rfl (hb hby at_27) rfl ((if0 _ _).trans (teq hc9).1) (by decide) (by decide) ?_
            show Steps p.tables e below (s₁.setTop (mkF m 34 #[.val (.int p0), .val (.int p1), .val (.int p2), .val (.int p3), .val (.int p4), .val (.int ((p4 &&& (3 : Int32)) % (3 : Int32))), .val (.int (1 : Int32)), .unset, .unset, .unset, .unset, .unset, .unset, .unset, .unset, .unset, .unset, .unset, .unset, .unset, .unset] [])) _
            refine XS.iconst X0.here hx rfl (hb hby at_34) ?_
            show Steps p.tables e below (s₁.setTop (mkF m 35 #[.val (.int p0), .val (.int p1), .val (.int p2), .val (.int p3), .val (.int p4), .val (.int ((p4 &&& (3 : Int32)) % (3 : Int32))), .val (.int (1 : Int32)), .unset, .unset, .unset, .unset, .unset, .unset, .unset, .unset, .unset, .unset, .unset, .unset, .unset, .unset] [(.int (0 : Int32))])) _
            refine XS.istore X0.here hx rfl (hb hby at_35) rfl (l' := #[.val (.int p0), .val (.int p1), .val (.int p2), .val (.int p3), .val (.int p4), .val (.int ((p4 &&& (3 : Int32)) % (3 : Int32))), .val (.int (1 : Int32)), .val (.int (0 : Int32)), .unset, .unset, .unset, .unset, .unset, .unset, .unset, .unset, .unset, .unset, .unset, .unset, .unset]) rfl ?_
            show Steps p.tables e below (s₁.setTop (mkF m 37 #[.val (.int p0), .val (.int p1), .val (.int p2), .val (.int p3), .val (.int p4), .val (.int ((p4 &&& (3 : Int32)) % (3 : Int32))), .val (.int (1 : Int32)), .val (.int (0 : Int32)), .unset, .unset, .unset, .unset, .unset, .unset, .unset, .unset, .unset, .unset, .unset, .unset, .unset] [])) _
            refine XS.iload X0.here hx rfl (hb hby at_37) rfl ?_
            show Steps p.tables e below (s₁.setTop (mkF m 39 #[.val (.int p0), .val (.int p1), .val (.int p2), .val (.int p3), .val (.int p4), .val (.int ((p4 &&& (3 : Int32)) % (3 : Int32))), .val (.int (1 : Int32)), .val (.int (0 : Int32)), .unset, .unset, .unset, .unset, .unset, .unset, .unset, .unset, .unset, .unset, .unset, .unset, .unset] [(.int p4)])) _
            refine XS.iconst X0.here hx rfl (hb hby at_39) ?_
            show Steps p.tables e below (s₁.setTop (mkF m 40 #[.val (.int p0), .val (.int p1), .val (.int p2), .val (.int p3), .val (.int p4), .val (.int ((p4 &&& (3 : Int32)) % (3 : Int32))), .val (.int (1 : Int32)), .val (.int (0 : Int32)), .unset, .unset, .unset, .unset, .unset, .unset, .unset, .unset, .unset, .unset, .unset, .unset, .unset] [(.int (4 : Int32)), (.int p4)])) _
            refine XS.iushr X0.here hx rfl (hb hby at_40) rfl ?_
            show Steps p.tables e below (s₁.setTop (mkF m 41 #[.val (.int p0), .val (.int p1), .val (.int p2), .val (.int p3), .val (.int p4), .val (.int ((p4 &&& (3 : Int32)) % (3 : Int32))), .val (.int (1 : Int32)), .val (.int (0 : Int32)), .unset, .unset, .unset, .unset, .unset, .unset, .unset, .unset, .unset, .unset, .unset, .unset, .unset] [(.int ((p4.toUInt32 >>> ((4 : Int32) &&& 31).toUInt32).toInt32))])) _
            refine XS.iconst X0.here hx rfl (hb hby at_41) ?_
            show Steps p.tables e below (s₁.setTop (mkF m 42 #[.val (.int p0), .val (.int p1), .val (.int p2), .val (.int p3), .val (.int p4), .val (.int ((p4 &&& (3 : Int32)) % (3 : Int32))), .val (.int (1 : Int32)), .val (.int (0 : Int32)), .unset, .unset, .unset, .unset, .unset, .unset, .unset, .unset, .unset, .unset, .unset, .unset, .unset] [(.int (3 : Int32)), (.int ((p4.toUInt32 >>> ((4 : Int32) &&& 31).toUInt32).toInt32))])) _
            refine XS.iand X0.here hx rfl (hb hby at_42) rfl ?_
            show Steps p.tables e below (s₁.setTop (mkF m 43 #[.val (.int p0), .val (.int p1), .val (.int p2), .val (.int p3), .val (.int p4), .val (.int ((p4 &&& (3 : Int32)) % (3 : Int32))), .val (.int (1 : Int32)), .val (.int (0 : Int32)), .unset, .unset, .unset, .unset, .unset, .unset, .unset, .unset, .unset, .unset, .unset, .unset, .unset] [(.int (((p4.toUInt32 >>> ((4 : Int32) &&& 31).toUInt32).toInt32) &&& (3 : Int32)))])) _
            refine XS.istore X0.here hx rfl (hb hby at_43) rfl (l' := #[.val (.int p0), .val (.int p1), .val (.int p2), .val (.int p3), .val (.int p4), .val (.int ((p4 &&& (3 : Int32)) % (3 : Int32))), .val (.int (1 : Int32)), .val (.int (0 : Int32)), .val (.int (((p4.toUInt32 >>> ((4 : Int32) &&& 31).toUInt32).toInt32) &&& (3 : Int32))), .unset, .unset, .unset, .unset, .unset, .unset, .unset, .unset, .unset, .unset, .unset, .unset]) rfl ?_
            show Steps p.tables e below (s₁.setTop (mkF m 45 #[.val (.int p0), .val (.int p1), .val (.int p2), .val (.int p3), .val (.int p4), .val (.int ((p4 &&& (3 : Int32)) % (3 : Int32))), .val (.int (1 : Int32)), .val (.int (0 : Int32)), .val (.int (((p4.toUInt32 >>> ((4 : Int32) &&& 31).toUInt32).toInt32) &&& (3 : Int32))), .unset, .unset, .unset, .unset, .unset, .unset, .unset, .unset, .unset, .unset, .unset, .unset] [])) _
            refine XS.iload X0.here hx rfl (hb hby at_45) rfl ?_
            show Steps p.tables e below (s₁.setTop (mkF m 47 #[.val (.int p0), .val (.int p1), .val (.int p2), .val (.int p3), .val (.int p4), .val (.int ((p4 &&& (3 : Int32)) % (3 : Int32))), .val (.int (1 : Int32)), .val (.int (0 : Int32)), .val (.int (((p4.toUInt32 >>> ((4 : Int32) &&& 31).toUInt32).toInt32) &&& (3 : Int32))), .unset, .unset, .unset, .unset, .unset, .unset, .unset, .unset, .unset, .unset, .unset, .unset] [(.int (1 : Int32))])) _
            refine XS.ifNo X0.here hx rfl (hb hby at_47) rfl ((if0 _ _).trans (feq (by decide : ¬ ((1 : Int32) = (0 : Int32)))).1) ?_
            show Steps p.tables e below (s₁.setTop (mkF m 50 #[.val (.int p0), .val (.int p1), .val (.int p2), .val (.int p3), .val (.int p4), .val (.int ((p4 &&& (3 : Int32)) % (3 : Int32))), .val (.int (1 : Int32)), .val (.int (0 : Int32)), .val (.int (((p4.toUInt32 >>> ((4 : Int32) &&& 31).toUInt32).toInt32) &&& (3 : Int32))), .unset, .unset, .unset, .unset, .unset, .unset, .unset, .unset, .unset, .unset, .unset, .unset] [])) _
            refine XS.iload X0.here hx rfl (hb hby at_50) rfl ?_
            show Steps p.tables e below (s₁.setTop (mkF m 52 #[.val (.int p0), .val (.int p1), .val (.int p2), .val (.int p3), .val (.int p4), .val (.int ((p4 &&& (3 : Int32)) % (3 : Int32))), .val (.int (1 : Int32)), .val (.int (0 : Int32)), .val (.int (((p4.toUInt32 >>> ((4 : Int32) &&& 31).toUInt32).toInt32) &&& (3 : Int32))), .unset, .unset, .unset, .unset, .unset, .unset, .unset, .unset, .unset, .unset, .unset, .unset] [(.int ((p4 &&& (3 : Int32)) % (3 : Int32)))])) _
            refine XS.goto X0.here hx rfl (pc0 := 52) (pc' := 64) rfl (hb hby at_52) (by decide) (by decide) ?_
            show Steps p.tables e below (s₁.setTop (mkF m 64 #[.val (.int p0), .val (.int p1), .val (.int p2), .val (.int p3), .val (.int p4), .val (.int ((p4 &&& (3 : Int32)) % (3 : Int32))), .val (.int (1 : Int32)), .val (.int (0 : Int32)), .val (.int (((p4.toUInt32 >>> ((4 : Int32) &&& 31).toUInt32).toInt32) &&& (3 : Int32))), .unset, .unset, .unset, .unset, .unset, .unset, .unset, .unset, .unset, .unset, .unset, .unset] [(.int ((p4 &&& (3 : Int32)) % (3 : Int32)))])) _
            refine XS.istore X0.here hx rfl (hb hby at_64) rfl (l' := #[.val (.int p0), .val (.int p1), .val (.int p2), .val (.int p3), .val (.int p4), .val (.int ((p4 &&& (3 : Int32)) % (3 : Int32))), .val (.int (1 : Int32)), .val (.int (0 : Int32)), .val (.int (((p4.toUInt32 >>> ((4 : Int32) &&& 31).toUInt32).toInt32) &&& (3 : Int32))), .val (.int ((p4 &&& (3 : Int32)) % (3 : Int32))), .unset, .unset, .unset, .unset, .unset, .unset, .unset, .unset, .unset, .unset, .unset]) rfl ?_
            show Steps p.tables e below (s₁.setTop (mkF m 66 #[.val (.int p0), .val (.int p1), .val (.int p2), .val (.int p3), .val (.int p4), .val (.int ((p4 &&& (3 : Int32)) % (3 : Int32))), .val (.int (1 : Int32)), .val (.int (0 : Int32)), .val (.int (((p4.toUInt32 >>> ((4 : Int32) &&& 31).toUInt32).toInt32) &&& (3 : Int32))), .val (.int ((p4 &&& (3 : Int32)) % (3 : Int32))), .unset, .unset, .unset, .unset, .unset, .unset, .unset, .unset, .unset, .unset, .unset] [])) _
            refine XS.iload X0.here hx rfl (hb hby at_66) rfl ?_
            show Steps p.tables e below (s₁.setTop (mkF m 68 #[.val (.int p0), .val (.int p1), .val (.int p2), .val (.int p3), .val (.int p4), .val (.int ((p4 &&& (3 : Int32)) % (3 : Int32))), .val (.int (1 : Int32)), .val (.int (0 : Int32)), .val (.int (((p4.toUInt32 >>> ((4 : Int32) &&& 31).toUInt32).toInt32) &&& (3 : Int32))), .val (.int ((p4 &&& (3 : Int32)) % (3 : Int32))), .unset, .unset, .unset, .unset, .unset, .unset, .unset, .unset, .unset, .unset, .unset] [(.int (1 : Int32))])) _
            refine XS.ifNo X0.here hx rfl (hb hby at_68) rfl ((if0 _ _).trans (feq (by decide : ¬ ((1 : Int32) = (0 : Int32)))).1) ?_
            show Steps p.tables e below (s₁.setTop (mkF m 71 #[.val (.int p0), .val (.int p1), .val (.int p2), .val (.int p3), .val (.int p4), .val (.int ((p4 &&& (3 : Int32)) % (3 : Int32))), .val (.int (1 : Int32)), .val (.int (0 : Int32)), .val (.int (((p4.toUInt32 >>> ((4 : Int32) &&& 31).toUInt32).toInt32) &&& (3 : Int32))), .val (.int ((p4 &&& (3 : Int32)) % (3 : Int32))), .unset, .unset, .unset, .unset, .unset, .unset, .unset, .unset, .unset, .unset, .unset] [])) _
            refine XS.iloadN X0.here hx rfl (hb hby at_71) rfl ?_
            show Steps p.tables e below (s₁.setTop (mkF m 72 #[.val (.int p0), .val (.int p1), .val (.int p2), .val (.int p3), .val (.int p4), .val (.int ((p4 &&& (3 : Int32)) % (3 : Int32))), .val (.int (1 : Int32)), .val (.int (0 : Int32)), .val (.int (((p4.toUInt32 >>> ((4 : Int32) &&& 31).toUInt32).toInt32) &&& (3 : Int32))), .val (.int ((p4 &&& (3 : Int32)) % (3 : Int32))), .unset, .unset, .unset, .unset, .unset, .unset, .unset, .unset, .unset, .unset, .unset] [(.int p0)])) _
            refine XS.goto X0.here hx rfl (pc0 := 72) (pc' := 76) rfl (hb hby at_72) (by decide) (by decide) ?_
            show Steps p.tables e below (s₁.setTop (mkF m 76 #[.val (.int p0), .val (.int p1), .val (.int p2), .val (.int p3), .val (.int p4), .val (.int ((p4 &&& (3 : Int32)) % (3 : Int32))), .val (.int (1 : Int32)), .val (.int (0 : Int32)), .val (.int (((p4.toUInt32 >>> ((4 : Int32) &&& 31).toUInt32).toInt32) &&& (3 : Int32))), .val (.int ((p4 &&& (3 : Int32)) % (3 : Int32))), .unset, .unset, .unset, .unset, .unset, .unset, .unset, .unset, .unset, .unset, .unset] [(.int p0)])) _
            refine XS.istore X0.here hx rfl (hb hby at_76) rfl (l' := #[.val (.int p0), .val (.int p1), .val (.int p2), .val (.int p3), .val (.int p4), .val (.int ((p4 &&& (3 : Int32)) % (3 : Int32))), .val (.int (1 : Int32)), .val (.int (0 : Int32)), .val (.int (((p4.toUInt32 >>> ((4 : Int32) &&& 31).toUInt32).toInt32) &&& (3 : Int32))), .val (.int ((p4 &&& (3 : Int32)) % (3 : Int32))), .val (.int p0), .unset, .unset, .unset, .unset, .unset, .unset, .unset, .unset, .unset, .unset]) rfl ?_
            show Steps p.tables e below (s₁.setTop (mkF m 78 #[.val (.int p0), .val (.int p1), .val (.int p2), .val (.int p3), .val (.int p4), .val (.int ((p4 &&& (3 : Int32)) % (3 : Int32))), .val (.int (1 : Int32)), .val (.int (0 : Int32)), .val (.int (((p4.toUInt32 >>> ((4 : Int32) &&& 31).toUInt32).toInt32) &&& (3 : Int32))), .val (.int ((p4 &&& (3 : Int32)) % (3 : Int32))), .val (.int p0), .unset, .unset, .unset, .unset, .unset, .unset, .unset, .unset, .unset, .unset] [])) _
            refine XS.iloadN X0.here hx rfl (hb hby at_78) rfl ?_
            show Steps p.tables e below (s₁.setTop (mkF m 79 #[.val (.int p0), .val (.int p1), .val (.int p2), .val (.int p3), .val (.int p4), .val (.int ((p4 &&& (3 : Int32)) % (3 : Int32))), .val (.int (1 : Int32)), .val (.int (0 : Int32)), .val (.int (((p4.toUInt32 >>> ((4 : Int32) &&& 31).toUInt32).toInt32) &&& (3 : Int32))), .val (.int ((p4 &&& (3 : Int32)) % (3 : Int32))), .val (.int p0), .unset, .unset, .unset, .unset, .unset, .unset, .unset, .unset, .unset, .unset] [(.int p0)])) _
            refine XS.sipush X0.here hx rfl (hb hby at_79) ?_
            show Steps p.tables e below (s₁.setTop (mkF m 82 #[.val (.int p0), .val (.int p1), .val (.int p2), .val (.int p3), .val (.int p4), .val (.int ((p4 &&& (3 : Int32)) % (3 : Int32))), .val (.int (1 : Int32)), .val (.int (0 : Int32)), .val (.int (((p4.toUInt32 >>> ((4 : Int32) &&& 31).toUInt32).toInt32) &&& (3 : Int32))), .val (.int ((p4 &&& (3 : Int32)) % (3 : Int32))), .val (.int p0), .unset, .unset, .unset, .unset, .unset, .unset, .unset, .unset, .unset, .unset] [(.int (255 : Int32)), (.int p0)])) _
            refine XS.iand X0.here hx rfl (hb hby at_82) rfl ?_
            show Steps p.tables e below (s₁.setTop (mkF m 83 #[.val (.int p0), .val (.int p1), .val (.int p2), .val (.int p3), .val (.int p4), .val (.int ((p4 &&& (3 : Int32)) % (3 : Int32))), .val (.int (1 : Int32)), .val (.int (0 : Int32)), .val (.int (((p4.toUInt32 >>> ((4 : Int32) &&& 31).toUInt32).toInt32) &&& (3 : Int32))), .val (.int ((p4 &&& (3 : Int32)) % (3 : Int32))), .val (.int p0), .unset, .unset, .unset, .unset, .unset, .unset, .unset, .unset, .unset, .unset] [(.int (p0 &&& (255 : Int32)))])) _
            refine XS.i2c X0.here hx rfl (hb hby at_83) rfl ?_
            show Steps p.tables e below (s₁.setTop (mkF m 84 #[.val (.int p0), .val (.int p1), .val (.int p2), .val (.int p3), .val (.int p4), .val (.int ((p4 &&& (3 : Int32)) % (3 : Int32))), .val (.int (1 : Int32)), .val (.int (0 : Int32)), .val (.int (((p4.toUInt32 >>> ((4 : Int32) &&& 31).toUInt32).toInt32) &&& (3 : Int32))), .val (.int ((p4 &&& (3 : Int32)) % (3 : Int32))), .val (.int p0), .unset, .unset, .unset, .unset, .unset, .unset, .unset, .unset, .unset, .unset] [(.int ((p0 &&& (255 : Int32)).toUInt32.toUInt16.toUInt32.toInt32))])) _
            refine XS.istore X0.here hx rfl (hb hby at_84) rfl (l' := #[.val (.int p0), .val (.int p1), .val (.int p2), .val (.int p3), .val (.int p4), .val (.int ((p4 &&& (3 : Int32)) % (3 : Int32))), .val (.int (1 : Int32)), .val (.int (0 : Int32)), .val (.int (((p4.toUInt32 >>> ((4 : Int32) &&& 31).toUInt32).toInt32) &&& (3 : Int32))), .val (.int ((p4 &&& (3 : Int32)) % (3 : Int32))), .val (.int p0), .val (.int ((p0 &&& (255 : Int32)).toUInt32.toUInt16.toUInt32.toInt32)), .unset, .unset, .unset, .unset, .unset, .unset, .unset, .unset, .unset]) rfl ?_
            show Steps p.tables e below (s₁.setTop (mkF m 86 #[.val (.int p0), .val (.int p1), .val (.int p2), .val (.int p3), .val (.int p4), .val (.int ((p4 &&& (3 : Int32)) % (3 : Int32))), .val (.int (1 : Int32)), .val (.int (0 : Int32)), .val (.int (((p4.toUInt32 >>> ((4 : Int32) &&& 31).toUInt32).toInt32) &&& (3 : Int32))), .val (.int ((p4 &&& (3 : Int32)) % (3 : Int32))), .val (.int p0), .val (.int ((p0 &&& (255 : Int32)).toUInt32.toUInt16.toUInt32.toInt32)), .unset, .unset, .unset, .unset, .unset, .unset, .unset, .unset, .unset] [])) _
            refine XS.iloadN X0.here hx rfl (hb hby at_86) rfl ?_
            show Steps p.tables e below (s₁.setTop (mkF m 87 #[.val (.int p0), .val (.int p1), .val (.int p2), .val (.int p3), .val (.int p4), .val (.int ((p4 &&& (3 : Int32)) % (3 : Int32))), .val (.int (1 : Int32)), .val (.int (0 : Int32)), .val (.int (((p4.toUInt32 >>> ((4 : Int32) &&& 31).toUInt32).toInt32) &&& (3 : Int32))), .val (.int ((p4 &&& (3 : Int32)) % (3 : Int32))), .val (.int p0), .val (.int ((p0 &&& (255 : Int32)).toUInt32.toUInt16.toUInt32.toInt32)), .unset, .unset, .unset, .unset, .unset, .unset, .unset, .unset, .unset] [(.int p0)])) _
            refine XS.bipush X0.here hx rfl (hb hby at_87) ?_
            show Steps p.tables e below (s₁.setTop (mkF m 89 #[.val (.int p0), .val (.int p1), .val (.int p2), .val (.int p3), .val (.int p4), .val (.int ((p4 &&& (3 : Int32)) % (3 : Int32))), .val (.int (1 : Int32)), .val (.int (0 : Int32)), .val (.int (((p4.toUInt32 >>> ((4 : Int32) &&& 31).toUInt32).toInt32) &&& (3 : Int32))), .val (.int ((p4 &&& (3 : Int32)) % (3 : Int32))), .val (.int p0), .val (.int ((p0 &&& (255 : Int32)).toUInt32.toUInt16.toUInt32.toInt32)), .unset, .unset, .unset, .unset, .unset, .unset, .unset, .unset, .unset] [(.int (8 : Int32)), (.int p0)])) _
            refine XS.iushr X0.here hx rfl (hb hby at_89) rfl ?_
            show Steps p.tables e below (s₁.setTop (mkF m 90 #[.val (.int p0), .val (.int p1), .val (.int p2), .val (.int p3), .val (.int p4), .val (.int ((p4 &&& (3 : Int32)) % (3 : Int32))), .val (.int (1 : Int32)), .val (.int (0 : Int32)), .val (.int (((p4.toUInt32 >>> ((4 : Int32) &&& 31).toUInt32).toInt32) &&& (3 : Int32))), .val (.int ((p4 &&& (3 : Int32)) % (3 : Int32))), .val (.int p0), .val (.int ((p0 &&& (255 : Int32)).toUInt32.toUInt16.toUInt32.toInt32)), .unset, .unset, .unset, .unset, .unset, .unset, .unset, .unset, .unset] [(.int ((p0.toUInt32 >>> ((8 : Int32) &&& 31).toUInt32).toInt32))])) _
            refine XS.sipush X0.here hx rfl (hb hby at_90) ?_
            show Steps p.tables e below (s₁.setTop (mkF m 93 #[.val (.int p0), .val (.int p1), .val (.int p2), .val (.int p3), .val (.int p4), .val (.int ((p4 &&& (3 : Int32)) % (3 : Int32))), .val (.int (1 : Int32)), .val (.int (0 : Int32)), .val (.int (((p4.toUInt32 >>> ((4 : Int32) &&& 31).toUInt32).toInt32) &&& (3 : Int32))), .val (.int ((p4 &&& (3 : Int32)) % (3 : Int32))), .val (.int p0), .val (.int ((p0 &&& (255 : Int32)).toUInt32.toUInt16.toUInt32.toInt32)), .unset, .unset, .unset, .unset, .unset, .unset, .unset, .unset, .unset] [(.int (255 : Int32)), (.int ((p0.toUInt32 >>> ((8 : Int32) &&& 31).toUInt32).toInt32))])) _
            refine XS.iand X0.here hx rfl (hb hby at_93) rfl ?_
            show Steps p.tables e below (s₁.setTop (mkF m 94 #[.val (.int p0), .val (.int p1), .val (.int p2), .val (.int p3), .val (.int p4), .val (.int ((p4 &&& (3 : Int32)) % (3 : Int32))), .val (.int (1 : Int32)), .val (.int (0 : Int32)), .val (.int (((p4.toUInt32 >>> ((4 : Int32) &&& 31).toUInt32).toInt32) &&& (3 : Int32))), .val (.int ((p4 &&& (3 : Int32)) % (3 : Int32))), .val (.int p0), .val (.int ((p0 &&& (255 : Int32)).toUInt32.toUInt16.toUInt32.toInt32)), .unset, .unset, .unset, .unset, .unset, .unset, .unset, .unset, .unset] [(.int (((p0.toUInt32 >>> ((8 : Int32) &&& 31).toUInt32).toInt32) &&& (255 : Int32)))])) _
            refine XS.i2c X0.here hx rfl (hb hby at_94) rfl ?_
            show Steps p.tables e below (s₁.setTop (mkF m 95 #[.val (.int p0), .val (.int p1), .val (.int p2), .val (.int p3), .val (.int p4), .val (.int ((p4 &&& (3 : Int32)) % (3 : Int32))), .val (.int (1 : Int32)), .val (.int (0 : Int32)), .val (.int (((p4.toUInt32 >>> ((4 : Int32) &&& 31).toUInt32).toInt32) &&& (3 : Int32))), .val (.int ((p4 &&& (3 : Int32)) % (3 : Int32))), .val (.int p0), .val (.int ((p0 &&& (255 : Int32)).toUInt32.toUInt16.toUInt32.toInt32)), .unset, .unset, .unset, .unset, .unset, .unset, .unset, .unset, .unset] [(.int ((((p0.toUInt32 >>> ((8 : Int32) &&& 31).toUInt32).toInt32) &&& (255 : Int32)).toUInt32.toUInt16.toUInt32.toInt32))])) _
            refine XS.istore X0.here hx rfl (hb hby at_95) rfl (l' := #[.val (.int p0), .val (.int p1), .val (.int p2), .val (.int p3), .val (.int p4), .val (.int ((p4 &&& (3 : Int32)) % (3 : Int32))), .val (.int (1 : Int32)), .val (.int (0 : Int32)), .val (.int (((p4.toUInt32 >>> ((4 : Int32) &&& 31).toUInt32).toInt32) &&& (3 : Int32))), .val (.int ((p4 &&& (3 : Int32)) % (3 : Int32))), .val (.int p0), .val (.int ((p0 &&& (255 : Int32)).toUInt32.toUInt16.toUInt32.toInt32)), .val (.int ((((p0.toUInt32 >>> ((8 : Int32) &&& 31).toUInt32).toInt32) &&& (255 : Int32)).toUInt32.toUInt16.toUInt32.toInt32)), .unset, .unset, .unset, .unset, .unset, .unset, .unset, .unset]) rfl ?_
            show Steps p.tables e below (s₁.setTop (mkF m 97 #[.val (.int p0), .val (.int p1), .val (.int p2), .val (.int p3), .val (.int p4), .val (.int ((p4 &&& (3 : Int32)) % (3 : Int32))), .val (.int (1 : Int32)), .val (.int (0 : Int32)), .val (.int (((p4.toUInt32 >>> ((4 : Int32) &&& 31).toUInt32).toInt32) &&& (3 : Int32))), .val (.int ((p4 &&& (3 : Int32)) % (3 : Int32))), .val (.int p0), .val (.int ((p0 &&& (255 : Int32)).toUInt32.toUInt16.toUInt32.toInt32)), .val (.int ((((p0.toUInt32 >>> ((8 : Int32) &&& 31).toUInt32).toInt32) &&& (255 : Int32)).toUInt32.toUInt16.toUInt32.toInt32)), .unset, .unset, .unset, .unset, .unset, .unset, .unset, .unset] [])) _
            refine XS.iload X0.here hx rfl (hb hby at_97) rfl ?_
            show Steps p.tables e below (s₁.setTop (mkF m 99 #[.val (.int p0), .val (.int p1), .val (.int p2), .val (.int p3), .val (.int p4), .val (.int ((p4 &&& (3 : Int32)) % (3 : Int32))), .val (.int (1 : Int32)), .val (.int (0 : Int32)), .val (.int (((p4.toUInt32 >>> ((4 : Int32) &&& 31).toUInt32).toInt32) &&& (3 : Int32))), .val (.int ((p4 &&& (3 : Int32)) % (3 : Int32))), .val (.int p0), .val (.int ((p0 &&& (255 : Int32)).toUInt32.toUInt16.toUInt32.toInt32)), .val (.int ((((p0.toUInt32 >>> ((8 : Int32) &&& 31).toUInt32).toInt32) &&& (255 : Int32)).toUInt32.toUInt16.toUInt32.toInt32)), .unset, .unset, .unset, .unset, .unset, .unset, .unset, .unset] [(.int p0)])) _
            refine XS.sipush X0.here hx rfl (hb hby at_99) ?_
            show Steps p.tables e below (s₁.setTop (mkF m 102 #[.val (.int p0), .val (.int p1), .val (.int p2), .val (.int p3), .val (.int p4), .val (.int ((p4 &&& (3 : Int32)) % (3 : Int32))), .val (.int (1 : Int32)), .val (.int (0 : Int32)), .val (.int (((p4.toUInt32 >>> ((4 : Int32) &&& 31).toUInt32).toInt32) &&& (3 : Int32))), .val (.int ((p4 &&& (3 : Int32)) % (3 : Int32))), .val (.int p0), .val (.int ((p0 &&& (255 : Int32)).toUInt32.toUInt16.toUInt32.toInt32)), .val (.int ((((p0.toUInt32 >>> ((8 : Int32) &&& 31).toUInt32).toInt32) &&& (255 : Int32)).toUInt32.toUInt16.toUInt32.toInt32)), .unset, .unset, .unset, .unset, .unset, .unset, .unset, .unset] [(.int (255 : Int32)), (.int p0)])) _
            refine XS.iand X0.here hx rfl (hb hby at_102) rfl ?_
            show Steps p.tables e below (s₁.setTop (mkF m 103 #[.val (.int p0), .val (.int p1), .val (.int p2), .val (.int p3), .val (.int p4), .val (.int ((p4 &&& (3 : Int32)) % (3 : Int32))), .val (.int (1 : Int32)), .val (.int (0 : Int32)), .val (.int (((p4.toUInt32 >>> ((4 : Int32) &&& 31).toUInt32).toInt32) &&& (3 : Int32))), .val (.int ((p4 &&& (3 : Int32)) % (3 : Int32))), .val (.int p0), .val (.int ((p0 &&& (255 : Int32)).toUInt32.toUInt16.toUInt32.toInt32)), .val (.int ((((p0.toUInt32 >>> ((8 : Int32) &&& 31).toUInt32).toInt32) &&& (255 : Int32)).toUInt32.toUInt16.toUInt32.toInt32)), .unset, .unset, .unset, .unset, .unset, .unset, .unset, .unset] [(.int (p0 &&& (255 : Int32)))])) _
            refine XS.i2c X0.here hx rfl (hb hby at_103) rfl ?_
            show Steps p.tables e below (s₁.setTop (mkF m 104 #[.val (.int p0), .val (.int p1), .val (.int p2), .val (.int p3), .val (.int p4), .val (.int ((p4 &&& (3 : Int32)) % (3 : Int32))), .val (.int (1 : Int32)), .val (.int (0 : Int32)), .val (.int (((p4.toUInt32 >>> ((4 : Int32) &&& 31).toUInt32).toInt32) &&& (3 : Int32))), .val (.int ((p4 &&& (3 : Int32)) % (3 : Int32))), .val (.int p0), .val (.int ((p0 &&& (255 : Int32)).toUInt32.toUInt16.toUInt32.toInt32)), .val (.int ((((p0.toUInt32 >>> ((8 : Int32) &&& 31).toUInt32).toInt32) &&& (255 : Int32)).toUInt32.toUInt16.toUInt32.toInt32)), .unset, .unset, .unset, .unset, .unset, .unset, .unset, .unset] [(.int ((p0 &&& (255 : Int32)).toUInt32.toUInt16.toUInt32.toInt32))])) _
            refine XS.istore X0.here hx rfl (hb hby at_104) rfl (l' := #[.val (.int p0), .val (.int p1), .val (.int p2), .val (.int p3), .val (.int p4), .val (.int ((p4 &&& (3 : Int32)) % (3 : Int32))), .val (.int (1 : Int32)), .val (.int (0 : Int32)), .val (.int (((p4.toUInt32 >>> ((4 : Int32) &&& 31).toUInt32).toInt32) &&& (3 : Int32))), .val (.int ((p4 &&& (3 : Int32)) % (3 : Int32))), .val (.int p0), .val (.int ((p0 &&& (255 : Int32)).toUInt32.toUInt16.toUInt32.toInt32)), .val (.int ((((p0.toUInt32 >>> ((8 : Int32) &&& 31).toUInt32).toInt32) &&& (255 : Int32)).toUInt32.toUInt16.toUInt32.toInt32)), .val (.int ((p0 &&& (255 : Int32)).toUInt32.toUInt16.toUInt32.toInt32)), .unset, .unset, .unset, .unset, .unset, .unset, .unset]) rfl ?_
            show Steps p.tables e below (s₁.setTop (mkF m 106 #[.val (.int p0), .val (.int p1), .val (.int p2), .val (.int p3), .val (.int p4), .val (.int ((p4 &&& (3 : Int32)) % (3 : Int32))), .val (.int (1 : Int32)), .val (.int (0 : Int32)), .val (.int (((p4.toUInt32 >>> ((4 : Int32) &&& 31).toUInt32).toInt32) &&& (3 : Int32))), .val (.int ((p4 &&& (3 : Int32)) % (3 : Int32))), .val (.int p0), .val (.int ((p0 &&& (255 : Int32)).toUInt32.toUInt16.toUInt32.toInt32)), .val (.int ((((p0.toUInt32 >>> ((8 : Int32) &&& 31).toUInt32).toInt32) &&& (255 : Int32)).toUInt32.toUInt16.toUInt32.toInt32)), .val (.int ((p0 &&& (255 : Int32)).toUInt32.toUInt16.toUInt32.toInt32)), .unset, .unset, .unset, .unset, .unset, .unset, .unset] [])) _
            refine XS.iload X0.here hx rfl (hb hby at_106) rfl ?_
            show Steps p.tables e below (s₁.setTop (mkF m 108 #[.val (.int p0), .val (.int p1), .val (.int p2), .val (.int p3), .val (.int p4), .val (.int ((p4 &&& (3 : Int32)) % (3 : Int32))), .val (.int (1 : Int32)), .val (.int (0 : Int32)), .val (.int (((p4.toUInt32 >>> ((4 : Int32) &&& 31).toUInt32).toInt32) &&& (3 : Int32))), .val (.int ((p4 &&& (3 : Int32)) % (3 : Int32))), .val (.int p0), .val (.int ((p0 &&& (255 : Int32)).toUInt32.toUInt16.toUInt32.toInt32)), .val (.int ((((p0.toUInt32 >>> ((8 : Int32) &&& 31).toUInt32).toInt32) &&& (255 : Int32)).toUInt32.toUInt16.toUInt32.toInt32)), .val (.int ((p0 &&& (255 : Int32)).toUInt32.toUInt16.toUInt32.toInt32)), .unset, .unset, .unset, .unset, .unset, .unset, .unset] [(.int p0)])) _
            refine XS.bipush X0.here hx rfl (hb hby at_108) ?_
            show Steps p.tables e below (s₁.setTop (mkF m 110 #[.val (.int p0), .val (.int p1), .val (.int p2), .val (.int p3), .val (.int p4), .val (.int ((p4 &&& (3 : Int32)) % (3 : Int32))), .val (.int (1 : Int32)), .val (.int (0 : Int32)), .val (.int (((p4.toUInt32 >>> ((4 : Int32) &&& 31).toUInt32).toInt32) &&& (3 : Int32))), .val (.int ((p4 &&& (3 : Int32)) % (3 : Int32))), .val (.int p0), .val (.int ((p0 &&& (255 : Int32)).toUInt32.toUInt16.toUInt32.toInt32)), .val (.int ((((p0.toUInt32 >>> ((8 : Int32) &&& 31).toUInt32).toInt32) &&& (255 : Int32)).toUInt32.toUInt16.toUInt32.toInt32)), .val (.int ((p0 &&& (255 : Int32)).toUInt32.toUInt16.toUInt32.toInt32)), .unset, .unset, .unset, .unset, .unset, .unset, .unset] [(.int (8 : Int32)), (.int p0)])) _
            refine XS.iushr X0.here hx rfl (hb hby at_110) rfl ?_
            show Steps p.tables e below (s₁.setTop (mkF m 111 #[.val (.int p0), .val (.int p1), .val (.int p2), .val (.int p3), .val (.int p4), .val (.int ((p4 &&& (3 : Int32)) % (3 : Int32))), .val (.int (1 : Int32)), .val (.int (0 : Int32)), .val (.int (((p4.toUInt32 >>> ((4 : Int32) &&& 31).toUInt32).toInt32) &&& (3 : Int32))), .val (.int ((p4 &&& (3 : Int32)) % (3 : Int32))), .val (.int p0), .val (.int ((p0 &&& (255 : Int32)).toUInt32.toUInt16.toUInt32.toInt32)), .val (.int ((((p0.toUInt32 >>> ((8 : Int32) &&& 31).toUInt32).toInt32) &&& (255 : Int32)).toUInt32.toUInt16.toUInt32.toInt32)), .val (.int ((p0 &&& (255 : Int32)).toUInt32.toUInt16.toUInt32.toInt32)), .unset, .unset, .unset, .unset, .unset, .unset, .unset] [(.int ((p0.toUInt32 >>> ((8 : Int32) &&& 31).toUInt32).toInt32))])) _
            refine XS.sipush X0.here hx rfl (hb hby at_111) ?_
            show Steps p.tables e below (s₁.setTop (mkF m 114 #[.val (.int p0), .val (.int p1), .val (.int p2), .val (.int p3), .val (.int p4), .val (.int ((p4 &&& (3 : Int32)) % (3 : Int32))), .val (.int (1 : Int32)), .val (.int (0 : Int32)), .val (.int (((p4.toUInt32 >>> ((4 : Int32) &&& 31).toUInt32).toInt32) &&& (3 : Int32))), .val (.int ((p4 &&& (3 : Int32)) % (3 : Int32))), .val (.int p0), .val (.int ((p0 &&& (255 : Int32)).toUInt32.toUInt16.toUInt32.toInt32)), .val (.int ((((p0.toUInt32 >>> ((8 : Int32) &&& 31).toUInt32).toInt32) &&& (255 : Int32)).toUInt32.toUInt16.toUInt32.toInt32)), .val (.int ((p0 &&& (255 : Int32)).toUInt32.toUInt16.toUInt32.toInt32)), .unset, .unset, .unset, .unset, .unset, .unset, .unset] [(.int (255 : Int32)), (.int ((p0.toUInt32 >>> ((8 : Int32) &&& 31).toUInt32).toInt32))])) _
            refine XS.iand X0.here hx rfl (hb hby at_114) rfl ?_
            show Steps p.tables e below (s₁.setTop (mkF m 115 #[.val (.int p0), .val (.int p1), .val (.int p2), .val (.int p3), .val (.int p4), .val (.int ((p4 &&& (3 : Int32)) % (3 : Int32))), .val (.int (1 : Int32)), .val (.int (0 : Int32)), .val (.int (((p4.toUInt32 >>> ((4 : Int32) &&& 31).toUInt32).toInt32) &&& (3 : Int32))), .val (.int ((p4 &&& (3 : Int32)) % (3 : Int32))), .val (.int p0), .val (.int ((p0 &&& (255 : Int32)).toUInt32.toUInt16.toUInt32.toInt32)), .val (.int ((((p0.toUInt32 >>> ((8 : Int32) &&& 31).toUInt32).toInt32) &&& (255 : Int32)).toUInt32.toUInt16.toUInt32.toInt32)), .val (.int ((p0 &&& (255 : Int32)).toUInt32.toUInt16.toUInt32.toInt32)), .unset, .unset, .unset, .unset, .unset, .unset, .unset] [(.int (((p0.toUInt32 >>> ((8 : Int32) &&& 31).toUInt32).toInt32) &&& (255 : Int32)))])) _
            refine XS.i2c X0.here hx rfl (hb hby at_115) rfl ?_
            show Steps p.tables e below (s₁.setTop (mkF m 116 #[.val (.int p0), .val (.int p1), .val (.int p2), .val (.int p3), .val (.int p4), .val (.int ((p4 &&& (3 : Int32)) % (3 : Int32))), .val (.int (1 : Int32)), .val (.int (0 : Int32)), .val (.int (((p4.toUInt32 >>> ((4 : Int32) &&& 31).toUInt32).toInt32) &&& (3 : Int32))), .val (.int ((p4 &&& (3 : Int32)) % (3 : Int32))), .val (.int p0), .val (.int ((p0 &&& (255 : Int32)).toUInt32.toUInt16.toUInt32.toInt32)), .val (.int ((((p0.toUInt32 >>> ((8 : Int32) &&& 31).toUInt32).toInt32) &&& (255 : Int32)).toUInt32.toUInt16.toUInt32.toInt32)), .val (.int ((p0 &&& (255 : Int32)).toUInt32.toUInt16.toUInt32.toInt32)), .unset, .unset, .unset, .unset, .unset, .unset, .unset] [(.int ((((p0.toUInt32 >>> ((8 : Int32) &&& 31).toUInt32).toInt32) &&& (255 : Int32)).toUInt32.toUInt16.toUInt32.toInt32))])) _
            refine XS.istore X0.here hx rfl (hb hby at_116) rfl (l' := #[.val (.int p0), .val (.int p1), .val (.int p2), .val (.int p3), .val (.int p4), .val (.int ((p4 &&& (3 : Int32)) % (3 : Int32))), .val (.int (1 : Int32)), .val (.int (0 : Int32)), .val (.int (((p4.toUInt32 >>> ((4 : Int32) &&& 31).toUInt32).toInt32) &&& (3 : Int32))), .val (.int ((p4 &&& (3 : Int32)) % (3 : Int32))), .val (.int p0), .val (.int ((p0 &&& (255 : Int32)).toUInt32.toUInt16.toUInt32.toInt32)), .val (.int ((((p0.toUInt32 >>> ((8 : Int32) &&& 31).toUInt32).toInt32) &&& (255 : Int32)).toUInt32.toUInt16.toUInt32.toInt32)), .val (.int ((p0 &&& (255 : Int32)).toUInt32.toUInt16.toUInt32.toInt32)), .val (.int ((((p0.toUInt32 >>> ((8 : Int32) &&& 31).toUInt32).toInt32) &&& (255 : Int32)).toUInt32.toUInt16.toUInt32.toInt32)), .unset, .unset, .unset, .unset, .unset, .unset]) rfl ?_
            exact kt)
        exact kk1 ⟨((p4 &&& (3 : Int32)) % (3 : Int32)), (1 : Int32), (0 : Int32), (((p4.toUInt32 >>> ((4 : Int32) &&& 31).toUInt32).toInt32) &&& (3 : Int32)), ((p4 &&& (3 : Int32)) % (3 : Int32)), p0, ((p0 &&& (255 : Int32)).toUInt32.toUInt16.toUInt32.toInt32), ((((p0.toUInt32 >>> ((8 : Int32) &&& 31).toUInt32).toInt32) &&& (255 : Int32)).toUInt32.toUInt16.toUInt32.toInt32), ((p0 &&& (255 : Int32)).toUInt32.toUInt16.toUInt32.toInt32), ((((p0.toUInt32 >>> ((8 : Int32) &&& 31).toUInt32).toInt32) &&& (255 : Int32)).toUInt32.toUInt16.toUInt32.toInt32), ⟨own_l3 _, own_l3 _, own_ch _, own_ch _, own_ch _, own_ch _⟩, pre10⟩
      · skip
        have pre11 : ∀ t, Steps p.tables e below (s₁.setTop (mkF m 118 #[.val (.int p0), .val (.int p1), .val (.int p2), .val (.int p3), .val (.int p4), .val (.int ((p4 &&& (3 : Int32)) % (3 : Int32))), .val (.int (1 : Int32)), .val (.int (1 : Int32)), .val (.int (((p4.toUInt32 >>> ((4 : Int32) &&& 31).toUInt32).toInt32) &&& (3 : Int32))), .val (.int ((p4 &&& (3 : Int32)) % (3 : Int32))), .val (.int p0), .val (.int ((p0 &&& (255 : Int32)).toUInt32.toUInt16.toUInt32.toInt32)), .val (.int ((((p0.toUInt32 >>> ((8 : Int32) &&& 31).toUInt32).toInt32) &&& (255 : Int32)).toUInt32.toUInt16.toUInt32.toInt32)), .val (.int ((p0 &&& (255 : Int32)).toUInt32.toUInt16.toUInt32.toInt32)), .val (.int ((((p0.toUInt32 >>> ((8 : Int32) &&& 31).toUInt32).toInt32) &&& (255 : Int32)).toUInt32.toUInt16.toUInt32.toInt32)), .unset, .unset, .unset, .unset, .unset, .unset] [])) t → Steps p.tables e below (s₁.setTop (entryFrame m #[(.int p0), (.int p1), (.int p2), (.int p3), (.int p4)] maxLocals)) t := fun t kt => pre8 t (by
            show Steps p.tables e below (s₁.setTop (mkF m 27 #[.val (.int p0), .val (.int p1), .val (.int p2), .val (.int p3), .val (.int p4), .val (.int ((p4 &&& (3 : Int32)) % (3 : Int32))), .val (.int (1 : Int32)), .unset, .unset, .unset, .unset, .unset, .unset, .unset, .unset, .unset, .unset, .unset, .unset, .unset, .unset] [(.int (p4 &&& (8 : Int32)))])) _
            refine XS.ifNo X0.here hx rfl (hb hby at_27) rfl ((if0 _ _).trans (feq hc9).1) ?_
            show Steps p.tables e below (s₁.setTop (mkF m 30 #[.val (.int p0), .val (.int p1), .val (.int p2), .val (.int p3), .val (.int p4), .val (.int ((p4 &&& (3 : Int32)) % (3 : Int32))), .val (.int (1 : Int32)), .unset, .unset, .unset, .unset, .unset, .unset, .unset, .unset, .unset, .unset, .unset, .unset, .unset, .unset] [])) _
            refine XS.iconst X0.here hx rfl (hb hby at_30) ?_
            show Steps p.tables e below (s₁.setTop (mkF m 31 #[.val (.int p0), .val (.int p1), .val (.int p2), .val (.int p3), .val (.int p4), .val (.int ((p4 &&& (3 : Int32)) % (3 : Int32))), .val (.int (1 : Int32)), .unset, .unset, .unset, .unset, .unset, .unset, .unset, .unset, .unset, .unset, .unset, .unset, .unset, .unset] [(.int (1 : Int32))])) _
            refine XS.goto X0.here hx rfl (pc0 := 31) (pc' := 35) rfl (hb hby at_31) (by decide) (by decide) ?_
            show Steps p.tables e below (s₁.setTop (mkF m 35 #[.val (.int p0), .val (.int p1), .val (.int p2), .val (.int p3), .val (.int p4), .val (.int ((p4 &&& (3 : Int32)) % (3 : Int32))), .val (.int (1 : Int32)), .unset, .unset, .unset, .unset, .unset, .unset, .unset, .unset, .unset, .unset, .unset, .unset, .unset, .unset] [(.int (1 : Int32))])) _
            refine XS.istore X0.here hx rfl (hb hby at_35) rfl (l' := #[.val (.int p0), .val (.int p1), .val (.int p2), .val (.int p3), .val (.int p4), .val (.int ((p4 &&& (3 : Int32)) % (3 : Int32))), .val (.int (1 : Int32)), .val (.int (1 : Int32)), .unset, .unset, .unset, .unset, .unset, .unset, .unset, .unset, .unset, .unset, .unset, .unset, .unset]) rfl ?_
            show Steps p.tables e below (s₁.setTop (mkF m 37 #[.val (.int p0), .val (.int p1), .val (.int p2), .val (.int p3), .val (.int p4), .val (.int ((p4 &&& (3 : Int32)) % (3 : Int32))), .val (.int (1 : Int32)), .val (.int (1 : Int32)), .unset, .unset, .unset, .unset, .unset, .unset, .unset, .unset, .unset, .unset, .unset, .unset, .unset] [])) _
            refine XS.iload X0.here hx rfl (hb hby at_37) rfl ?_
            show Steps p.tables e below (s₁.setTop (mkF m 39 #[.val (.int p0), .val (.int p1), .val (.int p2), .val (.int p3), .val (.int p4), .val (.int ((p4 &&& (3 : Int32)) % (3 : Int32))), .val (.int (1 : Int32)), .val (.int (1 : Int32)), .unset, .unset, .unset, .unset, .unset, .unset, .unset, .unset, .unset, .unset, .unset, .unset, .unset] [(.int p4)])) _
            refine XS.iconst X0.here hx rfl (hb hby at_39) ?_
            show Steps p.tables e below (s₁.setTop (mkF m 40 #[.val (.int p0), .val (.int p1), .val (.int p2), .val (.int p3), .val (.int p4), .val (.int ((p4 &&& (3 : Int32)) % (3 : Int32))), .val (.int (1 : Int32)), .val (.int (1 : Int32)), .unset, .unset, .unset, .unset, .unset, .unset, .unset, .unset, .unset, .unset, .unset, .unset, .unset] [(.int (4 : Int32)), (.int p4)])) _
            refine XS.iushr X0.here hx rfl (hb hby at_40) rfl ?_
            show Steps p.tables e below (s₁.setTop (mkF m 41 #[.val (.int p0), .val (.int p1), .val (.int p2), .val (.int p3), .val (.int p4), .val (.int ((p4 &&& (3 : Int32)) % (3 : Int32))), .val (.int (1 : Int32)), .val (.int (1 : Int32)), .unset, .unset, .unset, .unset, .unset, .unset, .unset, .unset, .unset, .unset, .unset, .unset, .unset] [(.int ((p4.toUInt32 >>> ((4 : Int32) &&& 31).toUInt32).toInt32))])) _
            refine XS.iconst X0.here hx rfl (hb hby at_41) ?_
            show Steps p.tables e below (s₁.setTop (mkF m 42 #[.val (.int p0), .val (.int p1), .val (.int p2), .val (.int p3), .val (.int p4), .val (.int ((p4 &&& (3 : Int32)) % (3 : Int32))), .val (.int (1 : Int32)), .val (.int (1 : Int32)), .unset, .unset, .unset, .unset, .unset, .unset, .unset, .unset, .unset, .unset, .unset, .unset, .unset] [(.int (3 : Int32)), (.int ((p4.toUInt32 >>> ((4 : Int32) &&& 31).toUInt32).toInt32))])) _
            refine XS.iand X0.here hx rfl (hb hby at_42) rfl ?_
            show Steps p.tables e below (s₁.setTop (mkF m 43 #[.val (.int p0), .val (.int p1), .val (.int p2), .val (.int p3), .val (.int p4), .val (.int ((p4 &&& (3 : Int32)) % (3 : Int32))), .val (.int (1 : Int32)), .val (.int (1 : Int32)), .unset, .unset, .unset, .unset, .unset, .unset, .unset, .unset, .unset, .unset, .unset, .unset, .unset] [(.int (((p4.toUInt32 >>> ((4 : Int32) &&& 31).toUInt32).toInt32) &&& (3 : Int32)))])) _
            refine XS.istore X0.here hx rfl (hb hby at_43) rfl (l' := #[.val (.int p0), .val (.int p1), .val (.int p2), .val (.int p3), .val (.int p4), .val (.int ((p4 &&& (3 : Int32)) % (3 : Int32))), .val (.int (1 : Int32)), .val (.int (1 : Int32)), .val (.int (((p4.toUInt32 >>> ((4 : Int32) &&& 31).toUInt32).toInt32) &&& (3 : Int32))), .unset, .unset, .unset, .unset, .unset, .unset, .unset, .unset, .unset, .unset, .unset, .unset]) rfl ?_
            show Steps p.tables e below (s₁.setTop (mkF m 45 #[.val (.int p0), .val (.int p1), .val (.int p2), .val (.int p3), .val (.int p4), .val (.int ((p4 &&& (3 : Int32)) % (3 : Int32))), .val (.int (1 : Int32)), .val (.int (1 : Int32)), .val (.int (((p4.toUInt32 >>> ((4 : Int32) &&& 31).toUInt32).toInt32) &&& (3 : Int32))), .unset, .unset, .unset, .unset, .unset, .unset, .unset, .unset, .unset, .unset, .unset, .unset] [])) _
            refine XS.iload X0.here hx rfl (hb hby at_45) rfl ?_
            show Steps p.tables e below (s₁.setTop (mkF m 47 #[.val (.int p0), .val (.int p1), .val (.int p2), .val (.int p3), .val (.int p4), .val (.int ((p4 &&& (3 : Int32)) % (3 : Int32))), .val (.int (1 : Int32)), .val (.int (1 : Int32)), .val (.int (((p4.toUInt32 >>> ((4 : Int32) &&& 31).toUInt32).toInt32) &&& (3 : Int32))), .unset, .unset, .unset, .unset, .unset, .unset, .unset, .unset, .unset, .unset, .unset, .unset] [(.int (1 : Int32))])) _
            refine XS.ifNo X0.here hx rfl (hb hby at_47) rfl ((if0 _ _).trans (feq (by decide : ¬ ((1 : Int32) = (0 : Int32)))).1) ?_
            show Steps p.tables e below (s₁.setTop (mkF m 50 #[.val (.int p0), .val (.int p1), .val (.int p2), .val (.int p3), .val (.int p4), .val (.int ((p4 &&& (3 : Int32)) % (3 : Int32))), .val (.int (1 : Int32)), .val (.int (1 : Int32)), .val (.int (((p4.toUInt32 >>> ((4 : Int32) &&& 31).toUInt32).toInt32) &&& (3 : Int32))), .unset, .unset, .unset, .unset, .unset, .unset, .unset, .unset, .unset, .unset, .unset, .unset] [])) _
            refine XS.iload X0.here hx rfl (hb hby at_50) rfl ?_
            show Steps p.tables e below (s₁.setTop (mkF m 52 #[.val (.int p0), .val (.int p1), .val (.int p2), .val (.int p3), .val (.int p4), .val (.int ((p4 &&& (3 : Int32)) % (3 : Int32))), .val (.int (1 : Int32)), .val (.int (1 : Int32)), .val (.int (((p4.toUInt32 >>> ((4 : Int32) &&& 31).toUInt32).toInt32) &&& (3 : Int32))), .unset, .unset, .unset, .unset, .unset, .unset, .unset, .unset, .unset, .unset, .unset, .unset] [(.int ((p4 &&& (3 : Int32)) % (3 : Int32)))])) _
            refine XS.goto X0.here hx rfl (pc0 := 52) (pc' := 64) rfl (hb hby at_52) (by decide) (by decide) ?_
            show Steps p.tables e below (s₁.setTop (mkF m 64 #[.val (.int p0), .val (.int p1), .val (.int p2), .val (.int p3), .val (.int p4), .val (.int ((p4 &&& (3 : Int32)) % (3 : Int32))), .val (.int (1 : Int32)), .val (.int (1 : Int32)), .val (.int (((p4.toUInt32 >>> ((4 : Int32) &&& 31).toUInt32).toInt32) &&& (3 : Int32))), .unset, .unset, .unset, .unset, .unset, .unset, .unset, .unset, .unset, .unset, .unset, .unset] [(.int ((p4 &&& (3 : Int32)) % (3 : Int32)))])) _
            refine XS.istore X0.here hx rfl (hb hby at_64) rfl (l' := #[.val (.int p0), .val (.int p1), .val (.int p2), .val (.int p3), .val (.int p4), .val (.int ((p4 &&& (3 : Int32)) % (3 : Int32))), .val (.int (1 : Int32)), .val (.int (1 : Int32)), .val (.int (((p4.toUInt32 >>> ((4 : Int32) &&& 31).toUInt32).toInt32) &&& (3 : Int32))), .val (.int ((p4 &&& (3 : Int32)) % (3 : Int32))), .unset, .unset, .unset, .unset, .unset, .unset, .unset, .unset, .unset, .unset, .unset]) rfl ?_
            show Steps p.tables e below (s₁.setTop (mkF m 66 #[.val (.int p0), .val (.int p1), .val (.int p2), .val (.int p3), .val (.int p4), .val (.int ((p4 &&& (3 : Int32)) % (3 : Int32))), .val (.int (1 : Int32)), .val (.int (1 : Int32)), .val (.int (((p4.toUInt32 >>> ((4 : Int32) &&& 31).toUInt32).toInt32) &&& (3 : Int32))), .val (.int ((p4 &&& (3 : Int32)) % (3 : Int32))), .unset, .unset, .unset, .unset, .unset, .unset, .unset, .unset, .unset, .unset, .unset] [])) _
            refine XS.iload X0.here hx rfl (hb hby at_66) rfl ?_
            show Steps p.tables e below (s₁.setTop (mkF m 68 #[.val (.int p0), .val (.int p1), .val (.int p2), .val (.int p3), .val (.int p4), .val (.int ((p4 &&& (3 : Int32)) % (3 : Int32))), .val (.int (1 : Int32)), .val (.int (1 : Int32)), .val (.int (((p4.toUInt32 >>> ((4 : Int32) &&& 31).toUInt32).toInt32) &&& (3 : Int32))), .val (.int ((p4 &&& (3 : Int32)) % (3 : Int32))), .unset, .unset, .unset, .unset, .unset, .unset, .unset, .unset, .unset, .unset, .unset] [(.int (1 : Int32))])) _
            refine XS.ifNo X0.here hx rfl (hb hby at_68) rfl ((if0 _ _).trans (feq (by decide : ¬ ((1 : Int32) = (0 : Int32)))).1) ?_
            show Steps p.tables e below (s₁.setTop (mkF m 71 #[.val (.int p0), .val (.int p1), .val (.int p2), .val (.int p3), .val (.int p4), .val (.int ((p4 &&& (3 : Int32)) % (3 : Int32))), .val (.int (1 : Int32)), .val (.int (1 : Int32)), .val (.int (((p4.toUInt32 >>> ((4 : Int32) &&& 31).toUInt32).toInt32) &&& (3 : Int32))), .val (.int ((p4 &&& (3 : Int32)) % (3 : Int32))), .unset, .unset, .unset, .unset, .unset, .unset, .unset, .unset, .unset, .unset, .unset] [])) _
            refine XS.iloadN X0.here hx rfl (hb hby at_71) rfl ?_
            show Steps p.tables e below (s₁.setTop (mkF m 72 #[.val (.int p0), .val (.int p1), .val (.int p2), .val (.int p3), .val (.int p4), .val (.int ((p4 &&& (3 : Int32)) % (3 : Int32))), .val (.int (1 : Int32)), .val (.int (1 : Int32)), .val (.int (((p4.toUInt32 >>> ((4 : Int32) &&& 31).toUInt32).toInt32) &&& (3 : Int32))), .val (.int ((p4 &&& (3 : Int32)) % (3 : Int32))), .unset, .unset, .unset, .unset, .unset, .unset, .unset, .unset, .unset, .unset, .unset] [(.int p0)])) _
            refine XS.goto X0.here hx rfl (pc0 := 72) (pc' := 76) rfl (hb hby at_72) (by decide) (by decide) ?_
            show Steps p.tables e below (s₁.setTop (mkF m 76 #[.val (.int p0), .val (.int p1), .val (.int p2), .val (.int p3), .val (.int p4), .val (.int ((p4 &&& (3 : Int32)) % (3 : Int32))), .val (.int (1 : Int32)), .val (.int (1 : Int32)), .val (.int (((p4.toUInt32 >>> ((4 : Int32) &&& 31).toUInt32).toInt32) &&& (3 : Int32))), .val (.int ((p4 &&& (3 : Int32)) % (3 : Int32))), .unset, .unset, .unset, .unset, .unset, .unset, .unset, .unset, .unset, .unset, .unset] [(.int p0)])) _
            refine XS.istore X0.here hx rfl (hb hby at_76) rfl (l' := #[.val (.int p0), .val (.int p1), .val (.int p2), .val (.int p3), .val (.int p4), .val (.int ((p4 &&& (3 : Int32)) % (3 : Int32))), .val (.int (1 : Int32)), .val (.int (1 : Int32)), .val (.int (((p4.toUInt32 >>> ((4 : Int32) &&& 31).toUInt32).toInt32) &&& (3 : Int32))), .val (.int ((p4 &&& (3 : Int32)) % (3 : Int32))), .val (.int p0), .unset, .unset, .unset, .unset, .unset, .unset, .unset, .unset, .unset, .unset]) rfl ?_
            show Steps p.tables e below (s₁.setTop (mkF m 78 #[.val (.int p0), .val (.int p1), .val (.int p2), .val (.int p3), .val (.int p4), .val (.int ((p4 &&& (3 : Int32)) % (3 : Int32))), .val (.int (1 : Int32)), .val (.int (1 : Int32)), .val (.int (((p4.toUInt32 >>> ((4 : Int32) &&& 31).toUInt32).toInt32) &&& (3 : Int32))), .val (.int ((p4 &&& (3 : Int32)) % (3 : Int32))), .val (.int p0), .unset, .unset, .unset, .unset, .unset, .unset, .unset, .unset, .unset, .unset] [])) _
            refine XS.iloadN X0.here hx rfl (hb hby at_78) rfl ?_
            show Steps p.tables e below (s₁.setTop (mkF m 79 #[.val (.int p0), .val (.int p1), .val (.int p2), .val (.int p3), .val (.int p4), .val (.int ((p4 &&& (3 : Int32)) % (3 : Int32))), .val (.int (1 : Int32)), .val (.int (1 : Int32)), .val (.int (((p4.toUInt32 >>> ((4 : Int32) &&& 31).toUInt32).toInt32) &&& (3 : Int32))), .val (.int ((p4 &&& (3 : Int32)) % (3 : Int32))), .val (.int p0), .unset, .unset, .unset, .unset, .unset, .unset, .unset, .unset, .unset, .unset] [(.int p0)])) _
            refine XS.sipush X0.here hx rfl (hb hby at_79) ?_
            show Steps p.tables e below (s₁.setTop (mkF m 82 #[.val (.int p0), .val (.int p1), .val (.int p2), .val (.int p3), .val (.int p4), .val (.int ((p4 &&& (3 : Int32)) % (3 : Int32))), .val (.int (1 : Int32)), .val (.int (1 : Int32)), .val (.int (((p4.toUInt32 >>> ((4 : Int32) &&& 31).toUInt32).toInt32) &&& (3 : Int32))), .val (.int ((p4 &&& (3 : Int32)) % (3 : Int32))), .val (.int p0), .unset, .unset, .unset, .unset, .unset, .unset, .unset, .unset, .unset, .unset] [(.int (255 : Int32)), (.int p0)])) _
            refine XS.iand X0.here hx rfl (hb hby at_82) rfl ?_
            show Steps p.tables e below (s₁.setTop (mkF m 83 #[.val (.int p0), .val (.int p1), .val (.int p2), .val (.int p3), .val (.int p4), .val (.int ((p4 &&& (3 : Int32)) % (3 : Int32))), .val (.int (1 : Int32)), .val (.int (1 : Int32)), .val (.int (((p4.toUInt32 >>> ((4 : Int32) &&& 31).toUInt32).toInt32) &&& (3 : Int32))), .val (.int ((p4 &&& (3 : Int32)) % (3 : Int32))), .val (.int p0), .unset, .unset, .unset, .unset, .unset, .unset, .unset, .unset, .unset, .unset] [(.int (p0 &&& (255 : Int32)))])) _
            refine XS.i2c X0.here hx rfl (hb hby at_83) rfl ?_
            show Steps p.tables e below (s₁.setTop (mkF m 84 #[.val (.int p0), .val (.int p1), .val (.int p2), .val (.int p3), .val (.int p4), .val (.int ((p4 &&& (3 : Int32)) % (3 : Int32))), .val (.int (1 : Int32)), .val (.int (1 : Int32)), .val (.int (((p4.toUInt32 >>> ((4 : Int32) &&& 31).toUInt32).toInt32) &&& (3 : Int32))), .val (.int ((p4 &&& (3 : Int32)) % (3 : Int32))), .val (.int p0), .unset, .unset, .unset, .unset, .unset, .unset, .unset, .unset, .unset, .unset] [(.int ((p0 &&& (255 : Int32)).toUInt32.toUInt16.toUInt32.toInt32))])) _
            refine XS.istore X0.here hx rfl (hb hby at_84) rfl (l' := #[.val (.int p0), .val (.int p1), .val (.int p2), .val (.int p3), .val (.int p4), .val (.int ((p4 &&& (3 : Int32)) % (3 : Int32))), .val (.int (1 : Int32)), .val (.int (1 : Int32)), .val (.int (((p4.toUInt32 >>> ((4 : Int32) &&& 31).toUInt32).toInt32) &&& (3 : Int32))), .val (.int ((p4 &&& (3 : Int32)) % (3 : Int32))), .val (.int p0), .val (.int ((p0 &&& (255 : Int32)).toUInt32.toUInt16.toUInt32.toInt32)), .unset, .unset, .unset, .unset, .unset, .unset, .unset, .unset, .unset]) rfl ?_
            show Steps p.tables e below (s₁.setTop (mkF m 86 #[.val (.int p0), .val (.int p1), .val (.int p2), .val (.int p3), .val (.int p4), .val (.int ((p4 &&& (3 : Int32)) % (3 : Int32))), .val (.int (1 : Int32)), .val (.int (1 : Int32)), .val (.int (((p4.toUInt32 >>> ((4 : Int32) &&& 31).toUInt32).toInt32) &&& (3 : Int32))), .val (.int ((p4 &&& (3 : Int32)) % (3 : Int32))), .val (.int p0), .val (.int ((p0 &&& (255 : Int32)).toUInt32.toUInt16.toUInt32.toInt32)), .unset, .unset, .unset, .unset, .unset, .unset, .unset, .unset, .unset] [])) _
            refine XS.iloadN X0.here hx rfl (hb hby at_86) rfl ?_
            show Steps p.tables e below (s₁.setTop (mkF m 87 #[.val (.int p0), .val (.int p1), .val (.int p2), .val (.int p3), .val (.int p4), .val (.int ((p4 &&& (3 : Int32)) % (3 : Int32))), .val (.int (1 : Int32)), .val (.int (1 : Int32)), .val (.int (((p4.toUInt32 >>> ((4 : Int32) &&& 31).toUInt32).toInt32) &&& (3 : Int32))), .val (.int ((p4 &&& (3 : Int32)) % (3 : Int32))), .val (.int p0), .val (.int ((p0 &&& (255 : Int32)).toUInt32.toUInt16.toUInt32.toInt32)), .unset, .unset, .unset, .unset, .unset, .unset, .unset, .unset, .unset] [(.int p0)])) _
            refine XS.bipush X0.here hx rfl (hb hby at_87) ?_
            show Steps p.tables e below (s₁.setTop (mkF m 89 #[.val (.int p0), .val (.int p1), .val (.int p2), .val (.int p3), .val (.int p4), .val (.int ((p4 &&& (3 : Int32)) % (3 : Int32))), .val (.int (1 : Int32)), .val (.int (1 : Int32)), .val (.int (((p4.toUInt32 >>> ((4 : Int32) &&& 31).toUInt32).toInt32) &&& (3 : Int32))), .val (.int ((p4 &&& (3 : Int32)) % (3 : Int32))), .val (.int p0), .val (.int ((p0 &&& (255 : Int32)).toUInt32.toUInt16.toUInt32.toInt32)), .unset, .unset, .unset, .unset, .unset, .unset, .unset, .unset, .unset] [(.int (8 : Int32)), (.int p0)])) _
            refine XS.iushr X0.here hx rfl (hb hby at_89) rfl ?_
            show Steps p.tables e below (s₁.setTop (mkF m 90 #[.val (.int p0), .val (.int p1), .val (.int p2), .val (.int p3), .val (.int p4), .val (.int ((p4 &&& (3 : Int32)) % (3 : Int32))), .val (.int (1 : Int32)), .val (.int (1 : Int32)), .val (.int (((p4.toUInt32 >>> ((4 : Int32) &&& 31).toUInt32).toInt32) &&& (3 : Int32))), .val (.int ((p4 &&& (3 : Int32)) % (3 : Int32))), .val (.int p0), .val (.int ((p0 &&& (255 : Int32)).toUInt32.toUInt16.toUInt32.toInt32)), .unset, .unset, .unset, .unset, .unset, .unset, .unset, .unset, .unset] [(.int ((p0.toUInt32 >>> ((8 : Int32) &&& 31).toUInt32).toInt32))])) _
            refine XS.sipush X0.here hx rfl (hb hby at_90) ?_
            show Steps p.tables e below (s₁.setTop (mkF m 93 #[.val (.int p0), .val (.int p1), .val (.int p2), .val (.int p3), .val (.int p4), .val (.int ((p4 &&& (3 : Int32)) % (3 : Int32))), .val (.int (1 : Int32)), .val (.int (1 : Int32)), .val (.int (((p4.toUInt32 >>> ((4 : Int32) &&& 31).toUInt32).toInt32) &&& (3 : Int32))), .val (.int ((p4 &&& (3 : Int32)) % (3 : Int32))), .val (.int p0), .val (.int ((p0 &&& (255 : Int32)).toUInt32.toUInt16.toUInt32.toInt32)), .unset, .unset, .unset, .unset, .unset, .unset, .unset, .unset, .unset] [(.int (255 : Int32)), (.int ((p0.toUInt32 >>> ((8 : Int32) &&& 31).toUInt32).toInt32))])) _
            refine XS.iand X0.here hx rfl (hb hby at_93) rfl ?_
            show Steps p.tables e below (s₁.setTop (mkF m 94 #[.val (.int p0), .val (.int p1), .val (.int p2), .val (.int p3), .val (.int p4), .val (.int ((p4 &&& (3 : Int32)) % (3 : Int32))), .val (.int (1 : Int32)), .val (.int (1 : Int32)), .val (.int (((p4.toUInt32 >>> ((4 : Int32) &&& 31).toUInt32).toInt32) &&& (3 : Int32))), .val (.int ((p4 &&& (3 : Int32)) % (3 : Int32))), .val (.int p0), .val (.int ((p0 &&& (255 : Int32)).toUInt32.toUInt16.toUInt32.toInt32)), .unset, .unset, .unset, .unset, .unset, .unset, .unset, .unset, .unset] [(.int (((p0.toUInt32 >>> ((8 : Int32) &&& 31).toUInt32).toInt32) &&& (255 : Int32)))])) _
            refine XS.i2c X0.here hx rfl (hb hby at_94) rfl ?_
            show Steps p.tables e below (s₁.setTop (mkF m 95 #[.val (.int p0), .val (.int p1), .val (.int p2), .val (.int p3), .val (.int p4), .val (.int ((p4 &&& (3 : Int32)) % (3 : Int32))), .val (.int (1 : Int32)), .val (.int (1 : Int32)), .val (.int (((p4.toUInt32 >>> ((4 : Int32) &&& 31).toUInt32).toInt32) &&& (3 : Int32))), .val (.int ((p4 &&& (3 : Int32)) % (3 : Int32))), .val (.int p0), .val (.int ((p0 &&& (255 : Int32)).toUInt32.toUInt16.toUInt32.toInt32)), .unset, .unset, .unset, .unset, .unset, .unset, .unset, .unset, .unset] [(.int ((((p0.toUInt32 >>> ((8 : Int32) &&& 31).toUInt32).toInt32) &&& (255 : Int32)).toUInt32.toUInt16.toUInt32.toInt32))])) _
            refine XS.istore X0.here hx rfl (hb hby at_95) rfl (l' := #[.val (.int p0), .val (.int p1), .val (.int p2), .val (.int p3), .val (.int p4), .val (.int ((p4 &&& (3 : Int32)) % (3 : Int32))), .val (.int (1 : Int32)), .val (.int (1 : Int32)), .val (.int (((p4.toUInt32 >>> ((4 : Int32) &&& 31).toUInt32).toInt32) &&& (3 : Int32))), .val (.int ((p4 &&& (3 : Int32)) % (3 : Int32))), .val (.int p0), .val (.int ((p0 &&& (255 : Int32)).toUInt32.toUInt16.toUInt32.toInt32)), .val (.int ((((p0.toUInt32 >>> ((8 : Int32) &&& 31).toUInt32).toInt32) &&& (255 : Int32)).toUInt32.toUInt16.toUInt32.toInt32)), .unset, .unset, .unset, .unset, .unset, .unset, .unset, .unset]) rfl ?_
            show Steps p.tables e below (s₁.setTop (mkF m 97 #[.val (.int p0), .val (.int p1), .val (.int p2), .val (.int p3), .val (.int p4), .val (.int ((p4 &&& (3 : Int32)) % (3 : Int32))), .val (.int (1 : Int32)), .val (.int (1 : Int32)), .val (.int (((p4.toUInt32 >>> ((4 : Int32) &&& 31).toUInt32).toInt32) &&& (3 : Int32))), .val (.int ((p4 &&& (3 : Int32)) % (3 : Int32))), .val (.int p0), .val (.int ((p0 &&& (255 : Int32)).toUInt32.toUInt16.toUInt32.toInt32)), .val (.int ((((p0.toUInt32 >>> ((8 : Int32) &&& 31).toUInt32).toInt32) &&& (255 : Int32)).toUInt32.toUInt16.toUInt32.toInt32)), .unset, .unset, .unset, .unset, .unset, .unset, .unset, .unset] [])) _
            refine XS.iload X0.here hx rfl (hb hby at_97) rfl ?_
            show Steps p.tables e below (s₁.setTop (mkF m 99 #[.val (.int p0), .val (.int p1), .val (.int p2), .val (.int p3), .val (.int p4), .val (.int ((p4 &&& (3 : Int32)) % (3 : Int32))), .val (.int (1 : Int32)), .val (.int (1 : Int32)), .val (.int (((p4.toUInt32 >>> ((4 : Int32) &&& 31).toUInt32).toInt32) &&& (3 : Int32))), .val (.int ((p4 &&& (3 : Int32)) % (3 : Int32))), .val (.int p0), .val (.int ((p0 &&& (255 : Int32)).toUInt32.toUInt16.toUInt32.toInt32)), .val (.int ((((p0.toUInt32 >>> ((8 : Int32) &&& 31).toUInt32).toInt32) &&& (255 : Int32)).toUInt32.toUInt16.toUInt32.toInt32)), .unset, .unset, .unset, .unset, .unset, .unset, .unset, .unset] [(.int p0)])) _
            refine XS.sipush X0.here hx rfl (hb hby at_99) ?_
            show Steps p.tables e below (s₁.setTop (mkF m 102 #[.val (.int p0), .val (.int p1), .val (.int p2), .val (.int p3), .val (.int p4), .val (.int ((p4 &&& (3 : Int32)) % (3 : Int32))), .val (.int (1 : Int32)), .val (.int (1 : Int32)), .val (.int (((p4.toUInt32 >>> ((4 : Int32) &&& 31).toUInt32).toInt32) &&& (3 : Int32))), .val (.int ((p4 &&& (3 : Int32)) % (3 : Int32))), .val (.int p0), .val (.int ((p0 &&& (255 : Int32)).toUInt32.toUInt16.toUInt32.toInt32)), .val (.int ((((p0.toUInt32 >>> ((8 : Int32) &&& 31).toUInt32).toInt32) &&& (255 : Int32)).toUInt32.toUInt16.toUInt32.toInt32)), .unset, .unset, .unset, .unset, .unset, .unset, .unset, .unset] [(.int (255 : Int32)), (.int p0)])) _
            refine XS.iand X0.here hx rfl (hb hby at_102) rfl ?_
            show Steps p.tables e below (s₁.setTop (mkF m 103 #[.val (.int p0), .val (.int p1), .val (.int p2), .val (.int p3), .val (.int p4), .val (.int ((p4 &&& (3 : Int32)) % (3 : Int32))), .val (.int (1 : Int32)), .val (.int (1 : Int32)), .val (.int (((p4.toUInt32 >>> ((4 : Int32) &&& 31).toUInt32).toInt32) &&& (3 : Int32))), .val (.int ((p4 &&& (3 : Int32)) % (3 : Int32))), .val (.int p0), .val (.int ((p0 &&& (255 : Int32)).toUInt32.toUInt16.toUInt32.toInt32)), .val (.int ((((p0.toUInt32 >>> ((8 : Int32) &&& 31).toUInt32).toInt32) &&& (255 : Int32)).toUInt32.toUInt16.toUInt32.toInt32)), .unset, .unset, .unset, .unset, .unset, .unset, .unset, .unset] [(.int (p0 &&& (255 : Int32)))])) _
            refine XS.i2c X0.here hx rfl (hb hby at_103) rfl ?_
            show Steps p.tables e below (s₁.setTop (mkF m 104 #[.val (.int p0), .val (.int p1), .val (.int p2), .val (.int p3), .val (.int p4), .val (.int ((p4 &&& (3 : Int32)) % (3 : Int32))), .val (.int (1 : Int32)), .val (.int (1 : Int32)), .val (.int (((p4.toUInt32 >>> ((4 : Int32) &&& 31).toUInt32).toInt32) &&& (3 : Int32))), .val (.int ((p4 &&& (3 : Int32)) % (3 : Int32))), .val (.int p0), .val (.int ((p0 &&& (255 : Int32)).toUInt32.toUInt16.toUInt32.toInt32)), .val (.int ((((p0.toUInt32 >>> ((8 : Int32) &&& 31).toUInt32).toInt32) &&& (255 : Int32)).toUInt32.toUInt16.toUInt32.toInt32)), .unset, .unset, .unset, .unset, .unset, .unset, .unset, .unset] [(.int ((p0 &&& (255 : Int32)).toUInt32.toUInt16.toUInt32.toInt32))])) _
            refine XS.istore X0.here hx rfl (hb hby at_104) rfl (l' := #[.val (.int p0), .val (.int p1), .val (.int p2), .val (.int p3), .val (.int p4), .val (.int ((p4 &&& (3 : Int32)) % (3 : Int32))), .val (.int (1 : Int32)), .val (.int (1 : Int32)), .val (.int (((p4.toUInt32 >>> ((4 : Int32) &&& 31).toUInt32).toInt32) &&& (3 : Int32))), .val (.int ((p4 &&& (3 : Int32)) % (3 : Int32))), .val (.int p0), .val (.int ((p0 &&& (255 : Int32)).toUInt32.toUInt16.toUInt32.toInt32)), .val (.int ((((p0.toUInt32 >>> ((8 : Int32) &&& 31).toUInt32).toInt32) &&& (255 : Int32)).toUInt32.toUInt16.toUInt32.toInt32)), .val (.int ((p0 &&& (255 : Int32)).toUInt32.toUInt16.toUInt32.toInt32)), .unset, .unset, .unset, .unset, .unset, .unset, .unset]) rfl ?_
            show Steps p.tables e below (s₁.setTop (mkF m 106 #[.val (.int p0), .val (.int p1), .val (.int p2), .val (.int p3), .val (.int p4), .val (.int ((p4 &&& (3 : Int32)) % (3 : Int32))), .val (.int (1 : Int32)), .val (.int (1 : Int32)), .val (.int (((p4.toUInt32 >>> ((4 : Int32) &&& 31).toUInt32).toInt32) &&& (3 : Int32))), .val (.int ((p4 &&& (3 : Int32)) % (3 : Int32))), .val (.int p0), .val (.int ((p0 &&& (255 : Int32)).toUInt32.toUInt16.toUInt32.toInt32)), .val (.int ((((p0.toUInt32 >>> ((8 : Int32) &&& 31).toUInt32).toInt32) &&& (255 : Int32)).toUInt32.toUInt16.toUInt32.toInt32)), .val (.int ((p0 &&& (255 : Int32)).toUInt32.toUInt16.toUInt32.toInt32)), .unset, .unset, .unset, .unset, .unset, .unset, .unset] [])) _
            refine XS.iload X0.here hx rfl (hb hby at_106) rfl ?_
            show Steps p.tables e below (s₁.setTop (mkF m 108 #[.val (.int p0), .val (.int p1), .val (.int p2), .val (.int p3), .val (.int p4), .val (.int ((p4 &&& (3 : Int32)) % (3 : Int32))), .val (.int (1 : Int32)), .val (.int (1 : Int32)), .val (.int (((p4.toUInt32 >>> ((4 : Int32) &&& 31).toUInt32).toInt32) &&& (3 : Int32))), .val (.int ((p4 &&& (3 : Int32)) % (3 : Int32))), .val (.int p0), .val (.int ((p0 &&& (255 : Int32)).toUInt32.toUInt16.toUInt32.toInt32)), .val (.int ((((p0.toUInt32 >>> ((8 : Int32) &&& 31).toUInt32).toInt32) &&& (255 : Int32)).toUInt32.toUInt16.toUInt32.toInt32)), .val (.int ((p0 &&& (255 : Int32)).toUInt32.toUInt16.toUInt32.toInt32)), .unset, .unset, .unset, .unset, .unset, .unset, .unset] [(.int p0)])) _
            refine XS.bipush X0.here hx rfl (hb hby at_108) ?_
            show Steps p.tables e below (s₁.setTop (mkF m 110 #[.val (.int p0), .val (.int p1), .val (.int p2), .val (.int p3), .val (.int p4), .val (.int ((p4 &&& (3 : Int32)) % (3 : Int32))), .val (.int (1 : Int32)), .val (.int (1 : Int32)), .val (.int (((p4.toUInt32 >>> ((4 : Int32) &&& 31).toUInt32).toInt32) &&& (3 : Int32))), .val (.int ((p4 &&& (3 : Int32)) % (3 : Int32))), .val (.int p0), .val (.int ((p0 &&& (255 : Int32)).toUInt32.toUInt16.toUInt32.toInt32)), .val (.int ((((p0.toUInt32 >>> ((8 : Int32) &&& 31).toUInt32).toInt32) &&& (255 : Int32)).toUInt32.toUInt16.toUInt32.toInt32)), .val (.int ((p0 &&& (255 : Int32)).toUInt32.toUInt16.toUInt32.toInt32)), .unset, .unset, .unset, .unset, .unset, .unset, .unset] [(.int (8 : Int32)), (.int p0)])) _
            refine XS.iushr X0.here hx rfl (hb hby at_110) rfl ?_
            show Steps p.tables e below (s₁.setTop (mkF m 111 #[.val (.int p0), .val (.int p1), .val (.int p2), .val (.int p3), .val (.int p4), .val (.int ((p4 &&& (3 : Int32)) % (3 : Int32))), .val (.int (1 : Int32)), .val (.int (1 : Int32)), .val (.int (((p4.toUInt32 >>> ((4 : Int32) &&& 31).toUInt32).toInt32) &&& (3 : Int32))), .val (.int ((p4 &&& (3 : Int32)) % (3 : Int32))), .val (.int p0), .val (.int ((p0 &&& (255 : Int32)).toUInt32.toUInt16.toUInt32.toInt32)), .val (.int ((((p0.toUInt32 >>> ((8 : Int32) &&& 31).toUInt32).toInt32) &&& (255 : Int32)).toUInt32.toUInt16.toUInt32.toInt32)), .val (.int ((p0 &&& (255 : Int32)).toUInt32.toUInt16.toUInt32.toInt32)), .unset, .unset, .unset, .unset, .unset, .unset, .unset] [(.int ((p0.toUInt32 >>> ((8 : Int32) &&& 31).toUInt32).toInt32))])) _
            refine XS.sipush X0.here hx rfl (hb hby at_111) ?_
            show Steps p.tables e below (s₁.setTop (mkF m 114 #[.val (.int p0), .val (.int p1), .val (.int p2), .val (.int p3), .val (.int p4), .val (.int ((p4 &&& (3 : Int32)) % (3 : Int32))), .val (.int (1 : Int32)), .val (.int (1 : Int32)), .val (.int (((p4.toUInt32 >>> ((4 : Int32) &&& 31).toUInt32).toInt32) &&& (3 : Int32))), .val (.int ((p4 &&& (3 : Int32)) % (3 : Int32))), .val (.int p0), .val (.int ((p0 &&& (255 : Int32)).toUInt32.toUInt16.toUInt32.toInt32)), .val (.int ((((p0.toUInt32 >>> ((8 : Int32) &&& 31).toUInt32).toInt32) &&& (255 : Int32)).toUInt32.toUInt16.toUInt32.toInt32)), .val (.int ((p0 &&& (255 : Int32)).toUInt32.toUInt16.toUInt32.toInt32)), .unset, .unset, .unset, .unset, .unset, .unset, .unset] [(.int (255 : Int32)), (.int ((p0.toUInt32 >>> ((8 : Int32) &&& 31).toUInt32).toInt32))])) _
            refine XS.iand X0.here hx rfl (hb hby at_114) rfl ?_
            show Steps p.tables e below (s₁.setTop (mkF m 115 #[.val (.int p0), .val (.int p1), .val (.int p2), .val (.int p3), .val (.int p4), .val (.int ((p4 &&& (3 : Int32)) % (3 : Int32))), .val (.int (1 : Int32)), .val (.int (1 : Int32)), .val (.int (((p4.toUInt32 >>> ((4 : Int32) &&& 31).toUInt32).toInt32) &&& (3 : Int32))), .val (.int ((p4 &&& (3 : Int32)) % (3 : Int32))), .val (.int p0), .val (.int ((p0 &&& (255 : Int32)).toUInt32.toUInt16.toUInt32.toInt32)), .val (.int ((((p0.toUInt32 >>> ((8 : Int32) &&& 31).toUInt32).toInt32) &&& (255 : Int32)).toUInt32.toUInt16.toUInt32.toInt32)), .val (.int ((p0 &&& (255 : Int32)).toUInt32.toUInt16.toUInt32.toInt32)), .unset, .unset, .unset, .unset, .unset, .unset, .unset] [(.int (((p0.toUInt32 >>> ((8 : Int32) &&& 31).toUInt32).toInt32) &&& (255 : Int32)))])) _
            refine XS.i2c X0.here hx rfl (hb hby at_115) rfl ?_
            show Steps p.tables e below (s₁.setTop (mkF m 116 #[.val (.int p0), .val (.int p1), .val (.int p2), .val (.int p3), .val (.int p4), .val (.int ((p4 &&& (3 : Int32)) % (3 : Int32))), .val (.int (1 : Int32)), .val (.int (1 : Int32)), .val (.int (((p4.toUInt32 >>> ((4 : Int32) &&& 31).toUInt32).toInt32) &&& (3 : Int32))), .val (.int ((p4 &&& (3 : Int32)) % (3 : Int32))), .val (.int p0), .val (.int ((p0 &&& (255 : Int32)).toUInt32.toUInt16.toUInt32.toInt32)), .val (.int ((((p0.toUInt32 >>> ((8 : Int32) &&& 31).toUInt32).toInt32) &&& (255 : Int32)).toUInt32.toUInt16.toUInt32.toInt32)), .val (.int ((p0 &&& (255 : Int32)).toUInt32.toUInt16.toUInt32.toInt32)), .unset, .unset, .unset, .unset, .unset, .unset, .unset] [(.int ((((p0.toUInt32 >>> ((8 : Int32) &&& 31).toUInt32).toInt32) &&& (255 : Int32)).toUInt32.toUInt16.toUInt32.toInt32))])) _
            refine XS.istore X0.here hx rfl (hb hby at_116) rfl (l' := #[.val (.int p0), .val (.int p1), .val (.int p2), .val (.int p3), .val (.int p4), .val (.int ((p4 &&& (3 : Int32)) % (3 : Int32))), .val (.int (1 : Int32)), .val (.int (1 : Int32)), .val (.int (((p4.toUInt32 >>> ((4 : Int32) &&& 31).toUInt32).toInt32) &&& (3 : Int32))), .val (.int ((p4 &&& (3 : Int32)) % (3 : Int32))), .val (.int p0), .val (.int ((p0 &&& (255 : Int32)).toUInt32.toUInt16.toUInt32.toInt32)), .val (.int ((((p0.toUInt32 >>> ((8 : Int32) &&& 31).toUInt32).toInt32) &&& (255 : Int32)).toUInt32.toUInt16.toUInt32.toInt32)), .val (.int ((p0 &&& (255 : Int32)).toUInt32.toUInt16.toUInt32.toInt32)), .val (.int ((((p0.toUInt32 >>> ((8 : Int32) &&& 31).toUInt32).toInt32) &&& (255 : Int32)).toUInt32.toUInt16.toUInt32.toInt32)), .unset, .unset, .unset, .unset, .unset, .unset]) rfl ?_
            exact kt)
        exact kk1 ⟨((p4 &&& (3 : Int32)) % (3 : Int32)), (1 : Int32), (1 : Int32), (((p4.toUInt32 >>> ((4 : Int32) &&& 31).toUInt32).toInt32) &&& (3 : Int32)), ((p4 &&& (3 : Int32)) % (3 : Int32)), p0, ((p0 &&& (255 : Int32)).toUInt32.toUInt16.toUInt32.toInt32), ((((p0.toUInt32 >>> ((8 : Int32) &&& 31).toUInt32).toInt32) &&& (255 : Int32)).toUInt32.toUInt16.toUInt32.toInt32), ((p0 &&& (255 : Int32)).toUInt32.toUInt16.toUInt32.toInt32), ((((p0.toUInt32 >>> ((8 : Int32) &&& 31).toUInt32).toInt32) &&& (255 : Int32)).toUInt32.toUInt16.toUInt32.toInt32), ⟨own_l3 _, own_l3 _, own_ch _, own_ch _, own_ch _, own_ch _⟩, pre11⟩
  · skip
    obtain ⟨l1, sd, sc, md, l2, bb, xa, xb, ya, yb, hrel, pre12⟩ := hA
    obtain ⟨hl1, hl2, hxa, hxb, hya, hyb⟩ := hrel
    obtain ⟨_, _, ⟨T13, L13, k13, n13⟩, -, X13, hSi13, hgr13, ⟨Lc13, hQ13, l13, y13, z13, hCq13⟩, st13⟩ := callSS X0 hx (y := (⟨"com/example/gibbon/gibbon/search/OccurrencesEqualsPinLaw", "mk", "(ICC)Ljava/lang/String;"⟩ : MethodName)) hown (mvT hZ (hw _ (List.mem_of_getElem? (i := 0) rfl))) (mvT hZ (hw _ (List.mem_of_getElem? (i := 1) rfl))) (mvT hZ (hw _ (List.mem_of_getElem? (i := 2) rfl))) (mvT hZ (hw _ (List.mem_of_getElem? (i := 3) rfl))) (by decide) (backOfSH (W := 0) (rm1 l Z aw hw [] l1 xa xb w_COMPACT_STRINGS_1 h0 n0 Z0 hl1 hxa hxb S_COMPACT_STRINGS_0 hne_1) hZ (hw _ (List.mem_of_getElem? (i := 3) rfl)) (hw _ (List.mem_of_getElem? (i := 2) rfl)) (by decide) (by decide) hEL H0) (g := (mkF m 124 #[.val (.int p0), .val (.int p1), .val (.int p2), .val (.int p3), .val (.int p4), .val (.int l1), .val (.int sd), .val (.int sc), .val (.int md), .val (.int l2), .val (.int bb), .val (.int xa), .val (.int xb), .val (.int ya), .val (.int yb), .unset, .unset, .unset, .unset, .unset, .unset] [(.int xb), (.int xa), (.int l1)])) rfl (by rw [hml]; rfl) (argsL := [(.int l1), (.int xa), (.int xb)]) (rest := []) (lenOf pd_12 rfl) rfl (by show 2 * 0 + _ ≤ _; exact Nat.le_of_eq rfl) (hb hby at_124) (fun _ _ => ⟨rfl, e0, (by decide : 0 + 6 ≤ _), (by decide : 0 + 12 ≤ _)⟩)
    dsimp only [Pt.U, Pt.locs, Pt.cells, Pt.slots] at X13 l13 y13 z13 st13 hQ13 hSi13 hgr13 hCq13
    subst l13 y13 z13
    obtain ⟨Xr13, hS13, hZ13, hown13⟩ := rebS hS0 (by rw [e0]; exact (Nat.zero_le _)) X13 hSi13 hgr13 hZ hown
    have CR13 := CHr.trans (CHr.refl H0) hCq13
    obtain ⟨⟨r14, vb15, kb16, rfl, m13_0, m13_1, m13_2, m13_3, m13_4⟩, Nq13, c13_0⟩ := hQ13
    have N13 := Fr.app N0 Nq13
    have f17 := (own_sta_keep S_COMPACT_STRINGS_0 c13_0 all0)
    have K18 : Keep h0 T13.heap [] := Keep.trans (Keep.refl h0 []) c13_0 all0
    obtain ⟨_, _, ⟨T19, L19, k19, n19⟩, -, X19, hSi19, hgr19, ⟨Lc19, hQ19, l19, y19, z19, hCq19⟩, st19⟩ := callSS Xr13 hx (y := (⟨"com/example/gibbon/gibbon/search/OccurrencesEqualsPinLaw", "mk", "(ICC)Ljava/lang/String;"⟩ : MethodName)) hown13 (mvT hZ13 (hw _ (List.mem_of_getElem? (i := 0) rfl))) (mvT hZ13 (hw _ (List.mem_of_getElem? (i := 1) rfl))) (mvT hZ13 (hw _ (List.mem_of_getElem? (i := 2) rfl))) (mvT hZ13 (hw _ (List.mem_of_getElem? (i := 3) rfl))) (by decide) (backOfSH (W := 0) (rm1 l Z aw hw [] l2 ya yb w_COMPACT_STRINGS_1 T13.heap n0 (Nat.le_trans Z0 c13_0.1) hl2 hya hyb f17 hne_1) hZ13 (hw _ (List.mem_of_getElem? (i := 3) rfl)) (hw _ (List.mem_of_getElem? (i := 2) rfl)) (by decide) (by decide) hEL hCq13.1) (g := (mkF m 135 #[.val (.int p0), .val (.int p1), .val (.int p2), .val (.int p3), .val (.int p4), .val (.int l1), .val (.int sd), .val (.int sc), .val (.int md), .val (.int l2), .val (.int bb), .val (.int xa), .val (.int xb), .val (.int ya), .val (.int yb), .val (.ref r14), .unset, .unset, .unset, .unset, .unset] [(.int yb), (.int ya), (.int l2)])) rfl (by rw [hml]; rfl) (argsL := [(.int l2), (.int ya), (.int yb)]) (rest := []) (lenOf pd_12 rfl) rfl (by show 2 * 0 + _ ≤ _; exact Nat.le_of_eq rfl) (hb hby at_135) (fun _ _ => ⟨rfl, rfl, (by decide : 6 + 6 ≤ _), (by decide : 12 + 12 ≤ _)⟩)
    dsimp only [Pt.U, Pt.locs, Pt.cells, Pt.slots] at X19 l19 y19 z19 st19 hQ19 hSi19 hgr19 hCq19
    subst l19 y19 z19
    obtain ⟨Xr19, hS19, hZ19, hown19⟩ := rebS hS13 (Nat.le_refl _) X19 hSi19 hgr19 hZ13 hown13
    have CR19 := CHr.trans CR13 hCq19
    obtain ⟨⟨r20, vb21, kb22, rfl, m19_0, m19_1, m19_2, m19_3, m19_4⟩, Nq19, c19_0⟩ := hQ19
    have N19 := Fr.app N13 Nq19
    have f23 := (own_sta_keep f17 c19_0 all0)
    have f24 := (m13_1.keep c19_0)
    have f25 := (m13_2.keep c19_0 nin0)
    have f26 := (m13_3.keep c19_0 nin0)
    have f27 := (m13_4.keep c19_0 nin0)
    have K28 : Keep h0 T19.heap [] := Keep.trans K18 c19_0 all0
    have pre29 : ∀ t, Steps p.tables e below (T19.setTop (mkF m 140 #[.val (.int p0), .val (.int p1), .val (.int p2), .val (.int p3), .val (.int p4), .val (.int l1), .val (.int sd), .val (.int sc), .val (.int md), .val (.int l2), .val (.int bb), .val (.int xa), .val (.int xb), .val (.int ya), .val (.int yb), .val (.ref r14), .val (.ref r20), .unset, .unset, .unset, .unset] [])) t → Steps p.tables e below (s₁.setTop (entryFrame m #[(.int p0), (.int p1), (.int p2), (.int p3), (.int p4)] maxLocals)) t := fun t kt => pre12 t (by
        show Steps p.tables e below (s₁.setTop (mkF m 118 #[.val (.int p0), .val (.int p1), .val (.int p2), .val (.int p3), .val (.int p4), .val (.int l1), .val (.int sd), .val (.int sc), .val (.int md), .val (.int l2), .val (.int bb), .val (.int xa), .val (.int xb), .val (.int ya), .val (.int yb), .unset, .unset, .unset, .unset, .unset, .unset] [])) _
        refine XS.iload X0.here hx rfl (hb hby at_118) rfl ?_
        show Steps p.tables e below (s₁.setTop (mkF m 120 #[.val (.int p0), .val (.int p1), .val (.int p2), .val (.int p3), .val (.int p4), .val (.int l1), .val (.int sd), .val (.int sc), .val (.int md), .val (.int l2), .val (.int bb), .val (.int xa), .val (.int xb), .val (.int ya), .val (.int yb), .unset, .unset, .unset, .unset, .unset, .unset] [(.int l1)])) _
        refine XS.iload X0.here hx rfl (hb hby at_120) rfl ?_
        show Steps p.tables e below (s₁.setTop (mkF m 122 #[.val (.int p0), .val (.int p1), .val (.int p2), .val (.int p3), .val (.int p4), .val (.int l1), .val (.int sd), .val (.int sc), .val (.int md), .val (.int l2), .val (.int bb), .val (.int xa), .val (.int xb), .val (.int ya), .val (.int yb), .unset, .unset, .unset, .unset, .unset, .unset] [(.int xa), (.int l1)])) _
        refine XS.iload X0.here hx rfl (hb hby at_122) rfl ?_
        show Steps p.tables e below (s₁.setTop (mkF m 124 #[.val (.int p0), .val (.int p1), .val (.int p2), .val (.int p3), .val (.int p4), .val (.int l1), .val (.int sd), .val (.int sc), .val (.int md), .val (.int l2), .val (.int bb), .val (.int xa), .val (.int xb), .val (.int ya), .val (.int yb), .unset, .unset, .unset, .unset, .unset, .unset] [(.int xb), (.int xa), (.int l1)])) _
        refine st13.trans ?_
        show Steps p.tables e below (T13.setTop (mkF m 127 #[.val (.int p0), .val (.int p1), .val (.int p2), .val (.int p3), .val (.int p4), .val (.int l1), .val (.int sd), .val (.int sc), .val (.int md), .val (.int l2), .val (.int bb), .val (.int xa), .val (.int xb), .val (.int ya), .val (.int yb), .unset, .unset, .unset, .unset, .unset, .unset] [(.ref r14)])) _
        refine XS.astore Xr13.here hx rfl (hb hby at_127) rfl rfl (l' := #[.val (.int p0), .val (.int p1), .val (.int p2), .val (.int p3), .val (.int p4), .val (.int l1), .val (.int sd), .val (.int sc), .val (.int md), .val (.int l2), .val (.int bb), .val (.int xa), .val (.int xb), .val (.int ya), .val (.int yb), .val (.ref r14), .unset, .unset, .unset, .unset, .unset]) rfl ?_
        show Steps p.tables e below (T13.setTop (mkF m 129 #[.val (.int p0), .val (.int p1), .val (.int p2), .val (.int p3), .val (.int p4), .val (.int l1), .val (.int sd), .val (.int sc), .val (.int md), .val (.int l2), .val (.int bb), .val (.int xa), .val (.int xb), .val (.int ya), .val (.int yb), .val (.ref r14), .unset, .unset, .unset, .unset, .unset] [])) _
        refine XS.iload Xr13.here hx rfl (hb hby at_129) rfl ?_
        show Steps p.tables e below (T13.setTop (mkF m 131 #[.val (.int p0), .val (.int p1), .val (.int p2), .val (.int p3), .val (.int p4), .val (.int l1), .val (.int sd), .val (.int sc), .val (.int md), .val (.int l2), .val (.int bb), .val (.int xa), .val (.int xb), .val (.int ya), .val (.int yb), .val (.ref r14), .unset, .unset, .unset, .unset, .unset] [(.int l2)])) _
        refine XS.iload Xr13.here hx rfl (hb hby at_131) rfl ?_
        show Steps p.tables e below (T13.setTop (mkF m 133 #[.val (.int p0), .val (.int p1), .val (.int p2), .val (.int p3), .val (.int p4), .val (.int l1), .val (.int sd), .val (.int sc), .val (.int md), .val (.int l2), .val (.int bb), .val (.int xa), .val (.int xb), .val (.int ya), .val (.int yb), .val (.ref r14), .unset, .unset, .unset, .unset, .unset] [(.int ya), (.int l2)])) _
        refine XS.iload Xr13.here hx rfl (hb hby at_133) rfl ?_
        show Steps p.tables e below (T13.setTop (mkF m 135 #[.val (.int p0), .val (.int p1), .val (.int p2), .val (.int p3), .val (.int p4), .val (.int l1), .val (.int sd), .val (.int sc), .val (.int md), .val (.int l2), .val (.int bb), .val (.int xa), .val (.int xb), .val (.int ya), .val (.int yb), .val (.ref r14), .unset, .unset, .unset, .unset, .unset] [(.int yb), (.int ya), (.int l2)])) _
        refine st19.trans ?_
        show Steps p.tables e below (T19.setTop (mkF m 138 #[.val (.int p0), .val (.int p1), .val (.int p2), .val (.int p3), .val (.int p4), .val (.int l1), .val (.int sd), .val (.int sc), .val (.int md), .val (.int l2), .val (.int bb), .val (.int xa), .val (.int xb), .val (.int ya), .val (.int yb), .val (.ref r14), .unset, .unset, .unset, .unset, .unset] [(.ref r20)])) _
        refine XS.astore Xr19.here hx rfl (hb hby at_138) rfl rfl (l' := #[.val (.int p0), .val (.int p1), .val (.int p2), .val (.int p3), .val (.int p4), .val (.int l1), .val (.int sd), .val (.int sc), .val (.int md), .val (.int l2), .val (.int bb), .val (.int xa), .val (.int xb), .val (.int ya), .val (.int yb), .val (.ref r14), .val (.ref r20), .unset, .unset, .unset, .unset]) rfl ?_
        exact kt)
    refine cps (A := ∃ (mm : Int32), ∀ t, Steps p.tables e below (T19.setTop (mkF m 152 #[.val (.int p0), .val (.int p1), .val (.int p2), .val (.int p3), .val (.int p4), .val (.int l1), .val (.int sd), .val (.int sc), .val (.int md), .val (.int l2), .val (.int bb), .val (.int xa), .val (.int xb), .val (.int ya), .val (.int yb), .val (.ref r14), .val (.ref r20), .val (.int mm), .unset, .unset, .unset] [])) t → Steps p.tables e below (s₁.setTop (entryFrame m #[(.int p0), (.int p1), (.int p2), (.int p3), (.int p4)] maxLocals)) t) (fun kk30 => ?_) (fun hA => ?_)
    · skip
      have pre31 : ∀ t, Steps p.tables e below (T19.setTop (mkF m 142 #[.val (.int p0), .val (.int p1), .val (.int p2), .val (.int p3), .val (.int p4), .val (.int l1), .val (.int sd), .val (.int sc), .val (.int md), .val (.int l2), .val (.int bb), .val (.int xa), .val (.int xb), .val (.int ya), .val (.int yb), .val (.ref r14), .val (.ref r20), .unset, .unset, .unset, .unset] [(.int sc)])) t → Steps p.tables e below (s₁.setTop (entryFrame m #[(.int p0), (.int p1), (.int p2), (.int p3), (.int p4)] maxLocals)) t := fun t kt => pre29 t (by
          show Steps p.tables e below (T19.setTop (mkF m 140 #[.val (.int p0), .val (.int p1), .val (.int p2), .val (.int p3), .val (.int p4), .val (.int l1), .val (.int sd), .val (.int sc), .val (.int md), .val (.int l2), .val (.int bb), .val (.int xa), .val (.int xb), .val (.int ya), .val (.int yb), .val (.ref r14), .val (.ref r20), .unset, .unset, .unset, .unset] [])) _
          refine XS.iload Xr19.here hx rfl (hb hby at_140) rfl ?_
          exact kt)
      by_cases hc32 : sc = (0 : Int32)
      · skip
        have pre33 : ∀ t, Steps p.tables e below (T19.setTop (mkF m 152 #[.val (.int p0), .val (.int p1), .val (.int p2), .val (.int p3), .val (.int p4), .val (.int l1), .val (.int sd), .val (.int sc), .val (.int md), .val (.int l2), .val (.int bb), .val (.int xa), .val (.int xb), .val (.int ya), .val (.int yb), .val (.ref r14), .val (.ref r20), .val (.int p3), .unset, .unset, .unset] [])) t → Steps p.tables e below (s₁.setTop (entryFrame m #[(.int p0), (.int p1), (.int p2), (.int p3), (.int p4)] maxLocals)) t := fun t kt => pre31 t (by
            show Steps p.tables e below (T19.setTop (mkF m 142 #[.val (.int p0), .val (.int p1), .val (.int p2), .val (.int p3), .val (.int p4), .val (.int l1), .val (.int sd), .val (.int sc), .val (.int md), .val (.int l2), .val (.int bb), .val (.int xa), .val (.int xb), .val (.int ya), .val (.int yb), .val (.ref r14), .val (.ref r20), .unset, .unset, .unset, .unset] [(.int sc)])) _
            refine XS.ifYes Xr19.here hx rfl (pc0 := 142) (pc' := 149) rfl (hb hby at_142) rfl ((if0 _ _).trans (teq hc32).1) (by decide) (by decide) ?_
            show Steps p.tables e below (T19.setTop (mkF m 149 #[.val (.int p0), .val (.int p1), .val (.int p2), .val (.int p3), .val (.int p4), .val (.int l1), .val (.int sd), .val (.int sc), .val (.int md), .val (.int l2), .val (.int bb), .val (.int xa), .val (.int xb), .val (.int ya), .val (.int yb), .val (.ref r14), .val (.ref r20), .unset, .unset, .unset, .unset] [])) _
            refine XS.iloadN Xr19.here hx rfl (hb hby at_149) rfl ?_
            show Steps p.tables e below (T19.setTop (mkF m 150 #[.val (.int p0), .val (.int p1), .val (.int p2), .val (.int p3), .val (.int p4), .val (.int l1), .val (.int sd), .val (.int sc), .val (.int md), .val (.int l2), .val (.int bb), .val (.int xa), .val (.int xb), .val (.int ya), .val (.int yb), .val (.ref r14), .val (.ref r20), .unset, .unset, .unset, .unset] [(.int p3)])) _
            refine XS.istore Xr19.here hx rfl (hb hby at_150) rfl (l' := #[.val (.int p0), .val (.int p1), .val (.int p2), .val (.int p3), .val (.int p4), .val (.int l1), .val (.int sd), .val (.int sc), .val (.int md), .val (.int l2), .val (.int bb), .val (.int xa), .val (.int xb), .val (.int ya), .val (.int yb), .val (.ref r14), .val (.ref r20), .val (.int p3), .unset, .unset, .unset]) rfl ?_
            exact kt)
        exact kk30 ⟨p3, pre33⟩
      · skip
        have pre34 : ∀ t, Steps p.tables e below (T19.setTop (mkF m 152 #[.val (.int p0), .val (.int p1), .val (.int p2), .val (.int p3), .val (.int p4), .val (.int l1), .val (.int sd), .val (.int sc), .val (.int md), .val (.int l2), .val (.int bb), .val (.int xa), .val (.int xb), .val (.int ya), .val (.int yb), .val (.ref r14), .val (.ref r20), .val (.int p2), .unset, .unset, .unset] [])) t → Steps p.tables e below (s₁.setTop (entryFrame m #[(.int p0), (.int p1), (.int p2), (.int p3), (.int p4)] maxLocals)) t := fun t kt => pre31 t (by
            show Steps p.tables e below (T19.setTop (mkF m 142 #[.val (.int p0), .val (.int p1), .val (.int p2), .val (.int p3), .val (.int p4), .val (.int l1), .val (.int sd), .val (.int sc), .val (.int md), .val (.int l2), .val (.int bb), .val (.int xa), .val (.int xb), .val (.int ya), .val (.int yb), .val (.ref r14), .val (.ref r20), .unset, .unset, .unset, .unset] [(.int sc)])) _
            refine XS.ifNo Xr19.here hx rfl (hb hby at_142) rfl ((if0 _ _).trans (feq hc32).1) ?_
            show Steps p.tables e below (T19.setTop (mkF m 145 #[.val (.int p0), .val (.int p1), .val (.int p2), .val (.int p3), .val (.int p4), .val (.int l1), .val (.int sd), .val (.int sc), .val (.int md), .val (.int l2), .val (.int bb), .val (.int xa), .val (.int xb), .val (.int ya), .val (.int yb), .val (.ref r14), .val (.ref r20), .unset, .unset, .unset, .unset] [])) _
            refine XS.iloadN Xr19.here hx rfl (hb hby at_145) rfl ?_
            show Steps p.tables e below (T19.setTop (mkF m 146 #[.val (.int p0), .val (.int p1), .val (.int p2), .val (.int p3), .val (.int p4), .val (.int l1), .val (.int sd), .val (.int sc), .val (.int md), .val (.int l2), .val (.int bb), .val (.int xa), .val (.int xb), .val (.int ya), .val (.int yb), .val (.ref r14), .val (.ref r20), .unset, .unset, .unset, .unset] [(.int p2)])) _
            refine XS.goto Xr19.here hx rfl (pc0 := 146) (pc' := 150) rfl (hb hby at_146) (by decide) (by decide) ?_
            show Steps p.tables e below (T19.setTop (mkF m 150 #[.val (.int p0), .val (.int p1), .val (.int p2), .val (.int p3), .val (.int p4), .val (.int l1), .val (.int sd), .val (.int sc), .val (.int md), .val (.int l2), .val (.int bb), .val (.int xa), .val (.int xb), .val (.int ya), .val (.int yb), .val (.ref r14), .val (.ref r20), .unset, .unset, .unset, .unset] [(.int p2)])) _
            refine XS.istore Xr19.here hx rfl (hb hby at_150) rfl (l' := #[.val (.int p0), .val (.int p1), .val (.int p2), .val (.int p3), .val (.int p4), .val (.int l1), .val (.int sd), .val (.int sc), .val (.int md), .val (.int l2), .val (.int bb), .val (.int xa), .val (.int xb), .val (.int ya), .val (.int yb), .val (.ref r14), .val (.ref r20), .val (.int p2), .unset, .unset, .unset]) rfl ?_
            exact kt)
        exact kk30 ⟨p2, pre34⟩
    · skip
      obtain ⟨mm, pre35⟩ := hA
      obtain ⟨T36, h36, X36, e36, E36, A36, D36, -, st36⟩ := newO Xr19 hx hZ19 hown19 (hw _ (List.mem_of_getElem? (i := 26) rfl)) (hw _ (List.mem_of_getElem? (i := 27) rfl)) (hw _ (List.mem_of_getElem? (i := 28) rfl)) rfl (g := (mkF m 152 #[.val (.int p0), .val (.int p1), .val (.int p2), .val (.int p3), .val (.int p4), .val (.int l1), .val (.int sd), .val (.int sc), .val (.int md), .val (.int l2), .val (.int bb), .val (.int xa), .val (.int xb), .val (.int ya), .val (.int yb), .val (.ref r14), .val (.ref r20), .val (.int mm), .unset, .unset, .unset] [])) rfl (hb hby at_152) (by decide) (by decide)
      obtain ⟨b36, g36⟩ : ∃ z, z = T19.heap.size := ⟨_, rfl⟩
      rw [← g36] at A36 D36 st36
      have Sn36 : Safe Z consts_1 T19.vm T19.heap b36 := Safe.new (Nat.le_of_eq g36.symm)
      have CR36 := CHr.trans CR19 (CHr.ext E36 hCq19.1)
      have CH36 := CHv.ext E36 hCq19.1
      have f37 := (f23.ext E36)
      have f38 := (f24.ext E36)
      have f39 := (f25.ext E36)
      have f40 := (f26.ext E36)
      have f41 := (f27.ext E36)
      have f42 := (m19_1.ext E36)
      have f43 := (m19_2.ext E36)
      have f44 := (m19_3.ext E36)
      have f45 := (m19_4.ext E36)
      have ne46 : r14 ≠ b36 := Nat.ne_of_lt (Nat.lt_of_lt_of_le f24.lt (Nat.le_of_eq g36.symm))
      have ne47 : vb15 ≠ b36 := Nat.ne_of_lt (Nat.lt_of_lt_of_le f27.lt (Nat.le_of_eq g36.symm))
      have ne48 : r20 ≠ b36 := Nat.ne_of_lt (Nat.lt_of_lt_of_le m19_1.lt (Nat.le_of_eq g36.symm))
      have ne49 : vb21 ≠ b36 := Nat.ne_of_lt (Nat.lt_of_lt_of_le m19_4.lt (Nat.le_of_eq g36.symm))
      have ge_b36 : n0 ≤ b36 := Nat.le_trans (Nat.le_trans (Nat.le_trans Z0 c13_0.1) c19_0.1) (Nat.le_of_eq g36.symm)
      have sz_b36 : h0.size ≤ b36 := Nat.le_trans K28.1 (Nat.le_of_eq g36.symm)
      have K36 : Keep h0 h36 [] := Keep.ext K28 E36
      have F36_document : Fld Z h36 b36 "com/example/gibbon/gibbon/search/Occurrences" "document" "Ljava/lang/String;" .null := D36 (Or.inr (hw _ (List.mem_of_getElem? (i := 40) rfl))) (ty := (.object "java/lang/String")) (by decide)
      have F36_count : Fld Z h36 b36 "com/example/gibbon/gibbon/search/Occurrences" "count" "I" (.int (0 : Int32)) := D36 (Or.inr (hw _ (List.mem_of_getElem? (i := 42) rfl))) (ty := .int) (by decide)
      obtain ⟨_, _, ⟨T50, L50, k50, n50⟩, -, X50, hSi50, hgr50, ⟨Lc50, hQ50, l50, y50, z50, hCq50⟩, st50⟩ := X36.specialBackS hx (y := (⟨"com/example/gibbon/gibbon/search/Occurrences", "<init>", "(Ljava/lang/String;I)V"⟩ : MethodName)) rfl hown19 (mvT hZ19 (hw _ (List.mem_of_getElem? (i := 29) rfl))) (mvT hZ19 (hw _ (List.mem_of_getElem? (i := 30) rfl))) (mvT hZ19 (hw _ (List.mem_of_getElem? (i := 31) rfl))) (by decide) (backOfSH (W := 1) (rm5 l Z aw hw [] b36 r14 p2 .null (.int (0 : Int32)) h36 n0 (Nat.le_trans (Nat.le_trans (Nat.le_trans Z0 c13_0.1) c19_0.1) E36.1) f38 A36 F36_document ge_b36 F36_count) hZ19 (hw _ (List.mem_of_getElem? (i := 31) rfl)) (hw _ (List.mem_of_getElem? (i := 28) rfl)) (by decide) (by decide) hEL CH36) (g := (mkF m 159 #[.val (.int p0), .val (.int p1), .val (.int p2), .val (.int p3), .val (.int p4), .val (.int l1), .val (.int sd), .val (.int sc), .val (.int md), .val (.int l2), .val (.int bb), .val (.int xa), .val (.int xb), .val (.int ya), .val (.int yb), .val (.ref r14), .val (.ref r20), .val (.int mm), .unset, .unset, .unset] [(.int p2), (.ref r14), (.ref b36), (.ref b36)])) rfl (by rw [hml]; rfl) (Steps.refl _) (a := b36) (argsL := [(.ref r14), (.int p2)]) (rest := [(.ref b36)]) (lenOf pd_13 rfl) rfl (by show 2 * 0 + _ ≤ _; exact Nat.le_of_eq rfl) (hb hby at_159) (fun _ _ => ⟨rfl, e36, (by decide : 13 + 2 ≤ _), (by decide : 26 + 36 ≤ _)⟩)
      dsimp only [Pt.U, Pt.locs, Pt.cells, Pt.slots] at X50 l50 y50 z50 st50 hQ50 hSi50 hgr50 hCq50
      subst l50 y50 z50
      obtain ⟨Xr50, hS50, hZ50, hown50⟩ := rebS hS19 (by rw [e36]; exact (Nat.le_trans (Nat.le_refl _) E36.1)) X50 hSi50 hgr50 hZ19 hown19
      have CR50 := CHr.trans CR36 hCq50
      obtain ⟨rfl, Nq50, c50_0, c50_1, c50_2, c50_3⟩ := hQ50
      have N50 := Fr.app N19 Nq50
      have f51 := (own_sta_keep f37 c50_0 (allS (own_exa_ns A36) all0))
      have f52 := (f38.keep c50_0)
      have f53 := (f39.keep c50_0 (ninS ne46 nin0))
      have f54 := (f40.keep c50_0 (ninS ne46 nin0))
      have f55 := (f41.keep c50_0 (ninS ne47 nin0))
      have f56 := (f42.keep c50_0)
      have f57 := (f43.keep c50_0 (ninS ne48 nin0))
      have f58 := (f44.keep c50_0 (ninS ne48 nin0))
      have f59 := (f45.keep c50_0 (ninS ne49 nin0))
      have f60 := (A36.keep c50_0)
      have K61 : Keep h0 T50.heap [] := Keep.trans K36 c50_0 (allS (Or.inr sz_b36) all0)
      obtain ⟨T62, h62, X62, e62, E62, A62, D62, -, st62⟩ := newO Xr50 hx hZ50 hown50 (hw _ (List.mem_of_getElem? (i := 26) rfl)) (hw _ (List.mem_of_getElem? (i := 27) rfl)) (hw _ (List.mem_of_getElem? (i := 28) rfl)) rfl (g := (mkF m 164 #[.val (.int p0), .val (.int p1), .val (.int p2), .val (.int p3), .val (.int p4), .val (.int l1), .val (.int sd), .val (.int sc), .val (.int md), .val (.int l2), .val (.int bb), .val (.int xa), .val (.int xb), .val (.int ya), .val (.int yb), .val (.ref r14), .val (.ref r20), .val (.int mm), .val (.ref b36), .unset, .unset] [])) rfl (hb hby at_164) (by decide) (by decide)
      obtain ⟨b62, g62⟩ : ∃ z, z = T50.heap.size := ⟨_, rfl⟩
      rw [← g62] at A62 D62 st62
      have Sn62 : Safe Z consts_1 T50.vm T50.heap b62 := Safe.new (Nat.le_of_eq g62.symm)
      have CR62 := CHr.trans CR50 (CHr.ext E62 hCq50.1)
      have CH62 := CHv.ext E62 hCq50.1
      have f63 := (f51.ext E62)
      have f64 := (f52.ext E62)
      have f65 := (f53.ext E62)
      have f66 := (f54.ext E62)
      have f67 := (f55.ext E62)
      have f68 := (f56.ext E62)
      have f69 := (f57.ext E62)
      have f70 := (f58.ext E62)
      have f71 := (f59.ext E62)
      have f72 := (c50_1.ext E62)
      have f73 := (c50_2.ext E62)
      have f74 := (c50_3.ext E62)
      have ne75 : r14 ≠ b62 := Nat.ne_of_lt (Nat.lt_of_lt_of_le f52.lt (Nat.le_of_eq g62.symm))
      have ne76 : vb15 ≠ b62 := Nat.ne_of_lt (Nat.lt_of_lt_of_le f55.lt (Nat.le_of_eq g62.symm))
      have ne77 : r20 ≠ b62 := Nat.ne_of_lt (Nat.lt_of_lt_of_le f56.lt (Nat.le_of_eq g62.symm))
      have ne78 : vb21 ≠ b62 := Nat.ne_of_lt (Nat.lt_of_lt_of_le f59.lt (Nat.le_of_eq g62.symm))
      have ne79 : b36 ≠ b62 := Nat.ne_of_lt (Nat.lt_of_lt_of_le c50_1.lt (Nat.le_of_eq g62.symm))
      have ge_b62 : n0 ≤ b62 := Nat.le_trans (Nat.le_trans (Nat.le_trans (Nat.le_trans (Nat.le_trans Z0 c13_0.1) c19_0.1) E36.1) c50_0.1) (Nat.le_of_eq g62.symm)
      have sz_b62 : h0.size ≤ b62 := Nat.le_trans K61.1 (Nat.le_of_eq g62.symm)
      have K62 : Keep h0 h62 [] := Keep.ext K61 E62
      have F62_document : Fld Z h62 b62 "com/example/gibbon/gibbon/search/Occurrences" "document" "Ljava/lang/String;" .null := D62 (Or.inr (hw _ (List.mem_of_getElem? (i := 40) rfl))) (ty := (.object "java/lang/String")) (by decide)
      have F62_count : Fld Z h62 b62 "com/example/gibbon/gibbon/search/Occurrences" "count" "I" (.int (0 : Int32)) := D62 (Or.inr (hw _ (List.mem_of_getElem? (i := 42) rfl))) (ty := .int) (by decide)
      obtain ⟨_, _, ⟨T80, L80, k80, n80⟩, -, X80, hSi80, hgr80, ⟨Lc80, hQ80, l80, y80, z80, hCq80⟩, st80⟩ := X62.specialBackS hx (y := (⟨"com/example/gibbon/gibbon/search/Occurrences", "<init>", "(Ljava/lang/String;I)V"⟩ : MethodName)) rfl hown50 (mvT hZ50 (hw _ (List.mem_of_getElem? (i := 29) rfl))) (mvT hZ50 (hw _ (List.mem_of_getElem? (i := 30) rfl))) (mvT hZ50 (hw _ (List.mem_of_getElem? (i := 31) rfl))) (by decide) (backOfSH (W := 1) (rm5 l Z aw hw [] b62 r20 mm .null (.int (0 : Int32)) h62 n0 (Nat.le_trans (Nat.le_trans (Nat.le_trans (Nat.le_trans (Nat.le_trans Z0 c13_0.1) c19_0.1) E36.1) c50_0.1) E62.1) f68 A62 F62_document ge_b62 F62_count) hZ50 (hw _ (List.mem_of_getElem? (i := 31) rfl)) (hw _ (List.mem_of_getElem? (i := 28) rfl)) (by decide) (by decide) hEL CH62) (g := (mkF m 172 #[.val (.int p0), .val (.int p1), .val (.int p2), .val (.int p3), .val (.int p4), .val (.int l1), .val (.int sd), .val (.int sc), .val (.int md), .val (.int l2), .val (.int bb), .val (.int xa), .val (.int xb), .val (.int ya), .val (.int yb), .val (.ref r14), .val (.ref r20), .val (.int mm), .val (.ref b36), .unset, .unset] [(.int mm), (.ref r20), (.ref b62), (.ref b62)])) rfl (by rw [hml]; rfl) (Steps.refl _) (a := b62) (argsL := [(.ref r20), (.int mm)]) (rest := [(.ref b62)]) (lenOf pd_13 rfl) rfl (by show 2 * 0 + _ ≤ _; exact Nat.le_of_eq rfl) (hb hby at_172) (fun _ _ => ⟨rfl, e62, (by decide : 16 + 2 ≤ _), (by decide : 64 + 36 ≤ _)⟩)
      dsimp only [Pt.U, Pt.locs, Pt.cells, Pt.slots] at X80 l80 y80 z80 st80 hQ80 hSi80 hgr80 hCq80
      subst l80 y80 z80
      obtain ⟨Xr80, hS80, hZ80, hown80⟩ := rebS hS50 (by rw [e62]; exact (Nat.le_trans (Nat.le_refl _) E62.1)) X80 hSi80 hgr80 hZ50 hown50
      have CR80 := CHr.trans CR62 hCq80
      obtain ⟨rfl, Nq80, c80_0, c80_1, c80_2, c80_3⟩ := hQ80
      have N80 := Fr.app N50 Nq80
      have f81 := (own_sta_keep f63 c80_0 (allS (own_exa_ns A62) all0))
      have f82 := (f64.keep c80_0)
      have f83 := (f65.keep c80_0 (ninS ne75 nin0))
      have f84 := (f66.keep c80_0 (ninS ne75 nin0))
      have f85 := (f67.keep c80_0 (ninS ne76 nin0))
      have f86 := (f68.keep c80_0)
      have f87 := (f69.keep c80_0 (ninS ne77 nin0))
      have f88 := (f70.keep c80_0 (ninS ne77 nin0))
      have f89 := (f71.keep c80_0 (ninS ne78 nin0))
      have f90 := (f72.keep c80_0)
      have f91 := (f73.keep c80_0 (ninS ne79 nin0))
      have f92 := (f74.keep c80_0 (ninS ne79 nin0))
      have f93 := (A62.keep c80_0)
      have K94 : Keep h0 T80.heap [] := Keep.trans K62 c80_0 (allS (Or.inr sz_b62) all0)
      have pre95 : ∀ t, Steps p.tables e below (T80.setTop (mkF m 180 #[.val (.int p0), .val (.int p1), .val (.int p2), .val (.int p3), .val (.int p4), .val (.int l1), .val (.int sd), .val (.int sc), .val (.int md), .val (.int l2), .val (.int bb), .val (.int xa), .val (.int xb), .val (.int ya), .val (.int yb), .val (.ref r14), .val (.ref r20), .val (.int mm), .val (.ref b36), .val (.ref b62), .unset] [(.int (1 : Int32)), (.int md)])) t → Steps p.tables e below (s₁.setTop (entryFrame m #[(.int p0), (.int p1), (.int p2), (.int p3), (.int p4)] maxLocals)) t := fun t kt => pre35 t (by
          show Steps p.tables e below (T19.setTop (mkF m 152 #[.val (.int p0), .val (.int p1), .val (.int p2), .val (.int p3), .val (.int p4), .val (.int l1), .val (.int sd), .val (.int sc), .val (.int md), .val (.int l2), .val (.int bb), .val (.int xa), .val (.int xb), .val (.int ya), .val (.int yb), .val (.ref r14), .val (.ref r20), .val (.int mm), .unset, .unset, .unset] [])) _
          refine st36 _ ?_
          show Steps p.tables e below (T36.setTop (mkF m 155 #[.val (.int p0), .val (.int p1), .val (.int p2), .val (.int p3), .val (.int p4), .val (.int l1), .val (.int sd), .val (.int sc), .val (.int md), .val (.int l2), .val (.int bb), .val (.int xa), .val (.int xb), .val (.int ya), .val (.int yb), .val (.ref r14), .val (.ref r20), .val (.int mm), .unset, .unset, .unset] [(.ref b36)])) _
          refine XS.dup X36.here hx rfl (hb hby at_155) rfl rfl ?_
          show Steps p.tables e below (T36.setTop (mkF m 156 #[.val (.int p0), .val (.int p1), .val (.int p2), .val (.int p3), .val (.int p4), .val (.int l1), .val (.int sd), .val (.int sc), .val (.int md), .val (.int l2), .val (.int bb), .val (.int xa), .val (.int xb), .val (.int ya), .val (.int yb), .val (.ref r14), .val (.ref r20), .val (.int mm), .unset, .unset, .unset] [(.ref b36), (.ref b36)])) _
          refine XS.aload X36.here hx rfl (hb hby at_156) rfl rfl ?_
          show Steps p.tables e below (T36.setTop (mkF m 158 #[.val (.int p0), .val (.int p1), .val (.int p2), .val (.int p3), .val (.int p4), .val (.int l1), .val (.int sd), .val (.int sc), .val (.int md), .val (.int l2), .val (.int bb), .val (.int xa), .val (.int xb), .val (.int ya), .val (.int yb), .val (.ref r14), .val (.ref r20), .val (.int mm), .unset, .unset, .unset] [(.ref r14), (.ref b36), (.ref b36)])) _
          refine XS.iloadN X36.here hx rfl (hb hby at_158) rfl ?_
          show Steps p.tables e below (T36.setTop (mkF m 159 #[.val (.int p0), .val (.int p1), .val (.int p2), .val (.int p3), .val (.int p4), .val (.int l1), .val (.int sd), .val (.int sc), .val (.int md), .val (.int l2), .val (.int bb), .val (.int xa), .val (.int xb), .val (.int ya), .val (.int yb), .val (.ref r14), .val (.ref r20), .val (.int mm), .unset, .unset, .unset] [(.int p2), (.ref r14), (.ref b36), (.ref b36)])) _
          refine st50.trans ?_
          show Steps p.tables e below (T50.setTop (mkF m 162 #[.val (.int p0), .val (.int p1), .val (.int p2), .val (.int p3), .val (.int p4), .val (.int l1), .val (.int sd), .val (.int sc), .val (.int md), .val (.int l2), .val (.int bb), .val (.int xa), .val (.int xb), .val (.int ya), .val (.int yb), .val (.ref r14), .val (.ref r20), .val (.int mm), .unset, .unset, .unset] [(.ref b36)])) _
          refine XS.astore Xr50.here hx rfl (hb hby at_162) rfl rfl (l' := #[.val (.int p0), .val (.int p1), .val (.int p2), .val (.int p3), .val (.int p4), .val (.int l1), .val (.int sd), .val (.int sc), .val (.int md), .val (.int l2), .val (.int bb), .val (.int xa), .val (.int xb), .val (.int ya), .val (.int yb), .val (.ref r14), .val (.ref r20), .val (.int mm), .val (.ref b36), .unset, .unset]) rfl ?_
          show Steps p.tables e below (T50.setTop (mkF m 164 #[.val (.int p0), .val (.int p1), .val (.int p2), .val (.int p3), .val (.int p4), .val (.int l1), .val (.int sd), .val (.int sc), .val (.int md), .val (.int l2), .val (.int bb), .val (.int xa), .val (.int xb), .val (.int ya), .val (.int yb), .val (.ref r14), .val (.ref r20), .val (.int mm), .val (.ref b36), .unset, .unset] [])) _
          refine st62 _ ?_
          show Steps p.tables e below (T62.setTop (mkF m 167 #[.val (.int p0), .val (.int p1), .val (.int p2), .val (.int p3), .val (.int p4), .val (.int l1), .val (.int sd), .val (.int sc), .val (.int md), .val (.int l2), .val (.int bb), .val (.int xa), .val (.int xb), .val (.int ya), .val (.int yb), .val (.ref r14), .val (.ref r20), .val (.int mm), .val (.ref b36), .unset, .unset] [(.ref b62)])) _
          refine XS.dup X62.here hx rfl (hb hby at_167) rfl rfl ?_
          show Steps p.tables e below (T62.setTop (mkF m 168 #[.val (.int p0), .val (.int p1), .val (.int p2), .val (.int p3), .val (.int p4), .val (.int l1), .val (.int sd), .val (.int sc), .val (.int md), .val (.int l2), .val (.int bb), .val (.int xa), .val (.int xb), .val (.int ya), .val (.int yb), .val (.ref r14), .val (.ref r20), .val (.int mm), .val (.ref b36), .unset, .unset] [(.ref b62), (.ref b62)])) _
          refine XS.aload X62.here hx rfl (hb hby at_168) rfl rfl ?_
          show Steps p.tables e below (T62.setTop (mkF m 170 #[.val (.int p0), .val (.int p1), .val (.int p2), .val (.int p3), .val (.int p4), .val (.int l1), .val (.int sd), .val (.int sc), .val (.int md), .val (.int l2), .val (.int bb), .val (.int xa), .val (.int xb), .val (.int ya), .val (.int yb), .val (.ref r14), .val (.ref r20), .val (.int mm), .val (.ref b36), .unset, .unset] [(.ref r20), (.ref b62), (.ref b62)])) _
          refine XS.iload X62.here hx rfl (hb hby at_170) rfl ?_
          show Steps p.tables e below (T62.setTop (mkF m 172 #[.val (.int p0), .val (.int p1), .val (.int p2), .val (.int p3), .val (.int p4), .val (.int l1), .val (.int sd), .val (.int sc), .val (.int md), .val (.int l2), .val (.int bb), .val (.int xa), .val (.int xb), .val (.int ya), .val (.int yb), .val (.ref r14), .val (.ref r20), .val (.int mm), .val (.ref b36), .unset, .unset] [(.int mm), (.ref r20), (.ref b62), (.ref b62)])) _
          refine st80.trans ?_
          show Steps p.tables e below (T80.setTop (mkF m 175 #[.val (.int p0), .val (.int p1), .val (.int p2), .val (.int p3), .val (.int p4), .val (.int l1), .val (.int sd), .val (.int sc), .val (.int md), .val (.int l2), .val (.int bb), .val (.int xa), .val (.int xb), .val (.int ya), .val (.int yb), .val (.ref r14), .val (.ref r20), .val (.int mm), .val (.ref b36), .unset, .unset] [(.ref b62)])) _
          refine XS.astore Xr80.here hx rfl (hb hby at_175) rfl rfl (l' := #[.val (.int p0), .val (.int p1), .val (.int p2), .val (.int p3), .val (.int p4), .val (.int l1), .val (.int sd), .val (.int sc), .val (.int md), .val (.int l2), .val (.int bb), .val (.int xa), .val (.int xb), .val (.int ya), .val (.int yb), .val (.ref r14), .val (.ref r20), .val (.int mm), .val (.ref b36), .val (.ref b62), .unset]) rfl ?_
          show Steps p.tables e below (T80.setTop (mkF m 177 #[.val (.int p0), .val (.int p1), .val (.int p2), .val (.int p3), .val (.int p4), .val (.int l1), .val (.int sd), .val (.int sc), .val (.int md), .val (.int l2), .val (.int bb), .val (.int xa), .val (.int xb), .val (.int ya), .val (.int yb), .val (.ref r14), .val (.ref r20), .val (.int mm), .val (.ref b36), .val (.ref b62), .unset] [])) _
          refine XS.iload Xr80.here hx rfl (hb hby at_177) rfl ?_
          show Steps p.tables e below (T80.setTop (mkF m 179 #[.val (.int p0), .val (.int p1), .val (.int p2), .val (.int p3), .val (.int p4), .val (.int l1), .val (.int sd), .val (.int sc), .val (.int md), .val (.int l2), .val (.int bb), .val (.int xa), .val (.int xb), .val (.int ya), .val (.int yb), .val (.ref r14), .val (.ref r20), .val (.int mm), .val (.ref b36), .val (.ref b62), .unset] [(.int md)])) _
          refine XS.iconst Xr80.here hx rfl (hb hby at_179) ?_
          exact kt)
      by_cases hc96 : md = (1 : Int32)
      · skip
        obtain ⟨cq97, kq97, q97a, q97b, q97c⟩ := isOf hZ80 rfl f90
        obtain ⟨_, _, ⟨T97, L97, k97, n97⟩, -, X97, ⟨Lc97, hQ97, l97, y97, z97⟩, st97⟩ := Xr80.virtualBack hx (y := (⟨"com/example/gibbon/gibbon/search/Occurrences", "equals", "(Ljava/lang/Object;)Z"⟩ : MethodName)) (z := (⟨"com/example/gibbon/gibbon/search/Occurrences", "equals", "(Ljava/lang/Object;)Z"⟩ : MethodName)) hown80 (mvT hZ80 (hw _ (List.mem_of_getElem? (i := 43) rfl))) (mvT hZ80 (hw _ (List.mem_of_getElem? (i := 44) rfl))) (notFace_of_selects (args := #[]) (mvT hZ80 (hw _ (List.mem_of_getElem? (i := 46) rfl)))) (mvT hZ80 (hw _ (List.mem_of_getElem? (i := 46) rfl))) (mvT hZ80 (hw _ (List.mem_of_getElem? (i := 45) rfl))) (by decide) (backOf (W := 0) (rmEN l Z aw hw [] b36 T80.heap n0 (Nat.le_trans (Nat.le_trans (Nat.le_trans (Nat.le_trans (Nat.le_trans (Nat.le_trans Z0 c13_0.1) c19_0.1) E36.1) c50_0.1) E62.1) c80_0.1) ) hZ80 (hw _ (List.mem_of_getElem? (i := 47) rfl)) (hw _ (List.mem_of_getElem? (i := 28) rfl)) (by decide) (by decide)) q97a q97c (g := (mkF m 186 #[.val (.int p0), .val (.int p1), .val (.int p2), .val (.int p3), .val (.int p4), .val (.int l1), .val (.int sd), .val (.int sc), .val (.int md), .val (.int l2), .val (.int bb), .val (.int xa), .val (.int xb), .val (.int ya), .val (.int yb), .val (.ref r14), .val (.ref r20), .val (.int mm), .val (.ref b36), .val (.ref b62), .unset] [.null, (.ref b36)])) rfl (by rw [hml]; rfl) (Steps.refl _) (argsL := [.null]) (rest := []) (lenOf pd_11 rfl) rfl (by show 2 * 0 + _ ≤ _; exact Nat.le_of_eq rfl) (hb hby at_186) (fun _ _ => ⟨rfl, rfl, (by decide : 18 + 0 ≤ _), (by decide : 100 + 0 ≤ _)⟩)
        dsimp only [Pt.U, Pt.locs, Pt.cells, Pt.slots] at X97 l97 y97 z97 st97 hQ97
        subst l97 y97 z97
        obtain ⟨rfl, Nq97, e97⟩ := hQ97
        have N97 := Fr.app N80 Nq97
        have pre98 : ∀ t, Steps p.tables e below (T97.setTop (mkF m 197 #[.val (.int p0), .val (.int p1), .val (.int p2), .val (.int p3), .val (.int p4), .val (.int l1), .val (.int sd), .val (.int sc), .val (.int md), .val (.int l2), .val (.int bb), .val (.int xa), .val (.int xb), .val (.int ya), .val (.int yb), .val (.ref r14), .val (.ref r20), .val (.int mm), .val (.ref b36), .val (.ref b62), .unset] [(.int (1 : Int32))])) t → Steps p.tables e below (s₁.setTop (entryFrame m #[(.int p0), (.int p1), (.int p2), (.int p3), (.int p4)] maxLocals)) t := fun t kt => pre95 t (by
            show Steps p.tables e below (T80.setTop (mkF m 180 #[.val (.int p0), .val (.int p1), .val (.int p2), .val (.int p3), .val (.int p4), .val (.int l1), .val (.int sd), .val (.int sc), .val (.int md), .val (.int l2), .val (.int bb), .val (.int xa), .val (.int xb), .val (.int ya), .val (.int yb), .val (.ref r14), .val (.ref r20), .val (.int mm), .val (.ref b36), .val (.ref b62), .unset] [(.int (1 : Int32)), (.int md)])) _
            refine XS.icmpNo Xr80.here hx rfl (hb hby at_180) rfl (teq hc96).2 ?_
            show Steps p.tables e below (T80.setTop (mkF m 183 #[.val (.int p0), .val (.int p1), .val (.int p2), .val (.int p3), .val (.int p4), .val (.int l1), .val (.int sd), .val (.int sc), .val (.int md), .val (.int l2), .val (.int bb), .val (.int xa), .val (.int xb), .val (.int ya), .val (.int yb), .val (.ref r14), .val (.ref r20), .val (.int mm), .val (.ref b36), .val (.ref b62), .unset] [])) _
            refine XS.aload Xr80.here hx rfl (hb hby at_183) rfl rfl ?_
            show Steps p.tables e below (T80.setTop (mkF m 185 #[.val (.int p0), .val (.int p1), .val (.int p2), .val (.int p3), .val (.int p4), .val (.int l1), .val (.int sd), .val (.int sc), .val (.int md), .val (.int l2), .val (.int bb), .val (.int xa), .val (.int xb), .val (.int ya), .val (.int yb), .val (.ref r14), .val (.ref r20), .val (.int mm), .val (.ref b36), .val (.ref b62), .unset] [(.ref b36)])) _
            refine XS.aconstNull Xr80.here hx rfl (hb hby at_185) ?_
            show Steps p.tables e below (T80.setTop (mkF m 186 #[.val (.int p0), .val (.int p1), .val (.int p2), .val (.int p3), .val (.int p4), .val (.int l1), .val (.int sd), .val (.int sc), .val (.int md), .val (.int l2), .val (.int bb), .val (.int xa), .val (.int xb), .val (.int ya), .val (.int yb), .val (.ref r14), .val (.ref r20), .val (.int mm), .val (.ref b36), .val (.ref b62), .unset] [.null, (.ref b36)])) _
            refine st97.trans ?_
            show Steps p.tables e below (T97.setTop (mkF m 189 #[.val (.int p0), .val (.int p1), .val (.int p2), .val (.int p3), .val (.int p4), .val (.int l1), .val (.int sd), .val (.int sc), .val (.int md), .val (.int l2), .val (.int bb), .val (.int xa), .val (.int xb), .val (.int ya), .val (.int yb), .val (.ref r14), .val (.ref r20), .val (.int mm), .val (.ref b36), .val (.ref b62), .unset] [(.int (0 : Int32))])) _
            refine XS.ifNo X97.here hx rfl (hb hby at_189) rfl ((if0 _ _).trans (teq (rfl : (0 : Int32) = (0 : Int32))).2) ?_
            show Steps p.tables e below (T97.setTop (mkF m 192 #[.val (.int p0), .val (.int p1), .val (.int p2), .val (.int p3), .val (.int p4), .val (.int l1), .val (.int sd), .val (.int sc), .val (.int md), .val (.int l2), .val (.int bb), .val (.int xa), .val (.int xb), .val (.int ya), .val (.int yb), .val (.ref r14), .val (.ref r20), .val (.int mm), .val (.ref b36), .val (.ref b62), .unset] [])) _
            refine XS.iconst X97.here hx rfl (hb hby at_192) ?_
            show Steps p.tables e below (T97.setTop (mkF m 193 #[.val (.int p0), .val (.int p1), .val (.int p2), .val (.int p3), .val (.int p4), .val (.int l1), .val (.int sd), .val (.int sc), .val (.int md), .val (.int l2), .val (.int bb), .val (.int xa), .val (.int xb), .val (.int ya), .val (.int yb), .val (.ref r14), .val (.ref r20), .val (.int mm), .val (.ref b36), .val (.ref b62), .unset] [(.int (1 : Int32))])) _
            refine XS.goto X97.here hx rfl (pc0 := 193) (pc' := 197) rfl (hb hby at_193) (by decide) (by decide) ?_
            exact kt)
        obtain ⟨fs, hr, hrun, hended, hRE⟩ := X97.leaveW hS80 (by rw [e97]; exact (Nat.le_refl _)) (v := some (.int (1 : Int32))) (fun h => by rw [Bd.returns] at h; cases h)
        have hCR : CHr Z consts_1 s.vm s.heap T97.vm T97.heap := by rw [e97, hh]; exact CHr.trans CR80 (CHv.at X97 hZ80 hEL hCq80.1)
        refine ⟨_, _, pre98 _ ?_, hrun, hended, _, _, rfl, ?_, hCR, own_mono hRE (by decide) (by decide)⟩
        · show Steps p.tables e below (T97.setTop (mkF m 197 #[.val (.int p0), .val (.int p1), .val (.int p2), .val (.int p3), .val (.int p4), .val (.int l1), .val (.int sd), .val (.int sc), .val (.int md), .val (.int l2), .val (.int bb), .val (.int xa), .val (.int xb), .val (.int ya), .val (.int yb), .val (.ref r14), .val (.ref r20), .val (.int mm), .val (.ref b36), .val (.ref b62), .unset] [(.int (1 : Int32))])) _
          exact retN X97 hx (t := .boolean) Bd.returns (by simp) (hb hby at_197) hr
        · show Q0 Z _ _ _ _ _ _ h0 n0 _ T97.heap _
          rw [e97]
          exact ⟨rfl, N97, trivial⟩
      · skip
        have pre99 : ∀ t, Steps p.tables e below (T80.setTop (mkF m 201 #[.val (.int p0), .val (.int p1), .val (.int p2), .val (.int p3), .val (.int p4), .val (.int l1), .val (.int sd), .val (.int sc), .val (.int md), .val (.int l2), .val (.int bb), .val (.int xa), .val (.int xb), .val (.int ya), .val (.int yb), .val (.ref r14), .val (.ref r20), .val (.int mm), .val (.ref b36), .val (.ref b62), .unset] [(.int (2 : Int32)), (.int md)])) t → Steps p.tables e below (s₁.setTop (entryFrame m #[(.int p0), (.int p1), (.int p2), (.int p3), (.int p4)] maxLocals)) t := fun t kt => pre95 t (by
            show Steps p.tables e below (T80.setTop (mkF m 180 #[.val (.int p0), .val (.int p1), .val (.int p2), .val (.int p3), .val (.int p4), .val (.int l1), .val (.int sd), .val (.int sc), .val (.int md), .val (.int l2), .val (.int bb), .val (.int xa), .val (.int xb), .val (.int ya), .val (.int yb), .val (.ref r14), .val (.ref r20), .val (.int mm), .val (.ref b36), .val (.ref b62), .unset] [(.int (1 : Int32)), (.int md)])) _
            refine XS.icmpYes Xr80.here hx rfl (pc0 := 180) (pc' := 198) rfl (hb hby at_180) rfl (feq hc96).2 (by decide) (by decide) ?_
            show Steps p.tables e below (T80.setTop (mkF m 198 #[.val (.int p0), .val (.int p1), .val (.int p2), .val (.int p3), .val (.int p4), .val (.int l1), .val (.int sd), .val (.int sc), .val (.int md), .val (.int l2), .val (.int bb), .val (.int xa), .val (.int xb), .val (.int ya), .val (.int yb), .val (.ref r14), .val (.ref r20), .val (.int mm), .val (.ref b36), .val (.ref b62), .unset] [])) _
            refine XS.iload Xr80.here hx rfl (hb hby at_198) rfl ?_
            show Steps p.tables e below (T80.setTop (mkF m 200 #[.val (.int p0), .val (.int p1), .val (.int p2), .val (.int p3), .val (.int p4), .val (.int l1), .val (.int sd), .val (.int sc), .val (.int md), .val (.int l2), .val (.int bb), .val (.int xa), .val (.int xb), .val (.int ya), .val (.int yb), .val (.ref r14), .val (.ref r20), .val (.int mm), .val (.ref b36), .val (.ref b62), .unset] [(.int md)])) _
            refine XS.iconst Xr80.here hx rfl (hb hby at_200) ?_
            exact kt)
        by_cases hc100 : md = (2 : Int32)
        · skip
          obtain ⟨cq101, kq101, q101a, q101b, q101c⟩ := isOf hZ80 rfl f90
          obtain ⟨_, _, ⟨T101, L101, k101, n101⟩, -, X101, ⟨Lc101, hQ101, l101, y101, z101⟩, st101⟩ := Xr80.virtualBack hx (y := (⟨"com/example/gibbon/gibbon/search/Occurrences", "equals", "(Ljava/lang/Object;)Z"⟩ : MethodName)) (z := (⟨"com/example/gibbon/gibbon/search/Occurrences", "equals", "(Ljava/lang/Object;)Z"⟩ : MethodName)) hown80 (mvT hZ80 (hw _ (List.mem_of_getElem? (i := 43) rfl))) (mvT hZ80 (hw _ (List.mem_of_getElem? (i := 44) rfl))) (notFace_of_selects (args := #[]) (mvT hZ80 (hw _ (List.mem_of_getElem? (i := 46) rfl)))) (mvT hZ80 (hw _ (List.mem_of_getElem? (i := 46) rfl))) (mvT hZ80 (hw _ (List.mem_of_getElem? (i := 45) rfl))) (by decide) (backOf (W := 0) (rmES l Z aw hw [] b36 r14 T80.heap n0 (Nat.le_trans (Nat.le_trans (Nat.le_trans (Nat.le_trans (Nat.le_trans (Nat.le_trans Z0 c13_0.1) c19_0.1) E36.1) c50_0.1) E62.1) c80_0.1) f82) hZ80 (hw _ (List.mem_of_getElem? (i := 47) rfl)) (hw _ (List.mem_of_getElem? (i := 28) rfl)) (by decide) (by decide)) q101a q101c (g := (mkF m 208 #[.val (.int p0), .val (.int p1), .val (.int p2), .val (.int p3), .val (.int p4), .val (.int l1), .val (.int sd), .val (.int sc), .val (.int md), .val (.int l2), .val (.int bb), .val (.int xa), .val (.int xb), .val (.int ya), .val (.int yb), .val (.ref r14), .val (.ref r20), .val (.int mm), .val (.ref b36), .val (.ref b62), .unset] [(.ref r14), (.ref b36)])) rfl (by rw [hml]; rfl) (Steps.refl _) (argsL := [(.ref r14)]) (rest := []) (lenOf pd_11 rfl) rfl (by show 2 * 0 + _ ≤ _; exact Nat.le_of_eq rfl) (hb hby at_208) (fun _ _ => ⟨rfl, rfl, (by decide : 18 + 0 ≤ _), (by decide : 100 + 0 ≤ _)⟩)
          dsimp only [Pt.U, Pt.locs, Pt.cells, Pt.slots] at X101 l101 y101 z101 st101 hQ101
          subst l101 y101 z101
          obtain ⟨rfl, Nq101, e101⟩ := hQ101
          have N101 := Fr.app N80 Nq101
          have pre102 : ∀ t, Steps p.tables e below (T101.setTop (mkF m 219 #[.val (.int p0), .val (.int p1), .val (.int p2), .val (.int p3), .val (.int p4), .val (.int l1), .val (.int sd), .val (.int sc), .val (.int md), .val (.int l2), .val (.int bb), .val (.int xa), .val (.int xb), .val (.int ya), .val (.int yb), .val (.ref r14), .val (.ref r20), .val (.int mm), .val (.ref b36), .val (.ref b62), .unset] [(.int (1 : Int32))])) t → Steps p.tables e below (s₁.setTop (entryFrame m #[(.int p0), (.int p1), (.int p2), (.int p3), (.int p4)] maxLocals)) t := fun t kt => pre99 t (by
              show Steps p.tables e below (T80.setTop (mkF m 201 #[.val (.int p0), .val (.int p1), .val (.int p2), .val (.int p3), .val (.int p4), .val (.int l1), .val (.int sd), .val (.int sc), .val (.int md), .val (.int l2), .val (.int bb), .val (.int xa), .val (.int xb), .val (.int ya), .val (.int yb), .val (.ref r14), .val (.ref r20), .val (.int mm), .val (.ref b36), .val (.ref b62), .unset] [(.int (2 : Int32)), (.int md)])) _
              refine XS.icmpNo Xr80.here hx rfl (hb hby at_201) rfl (teq hc100).2 ?_
              show Steps p.tables e below (T80.setTop (mkF m 204 #[.val (.int p0), .val (.int p1), .val (.int p2), .val (.int p3), .val (.int p4), .val (.int l1), .val (.int sd), .val (.int sc), .val (.int md), .val (.int l2), .val (.int bb), .val (.int xa), .val (.int xb), .val (.int ya), .val (.int yb), .val (.ref r14), .val (.ref r20), .val (.int mm), .val (.ref b36), .val (.ref b62), .unset] [])) _
              refine XS.aload Xr80.here hx rfl (hb hby at_204) rfl rfl ?_
              show Steps p.tables e below (T80.setTop (mkF m 206 #[.val (.int p0), .val (.int p1), .val (.int p2), .val (.int p3), .val (.int p4), .val (.int l1), .val (.int sd), .val (.int sc), .val (.int md), .val (.int l2), .val (.int bb), .val (.int xa), .val (.int xb), .val (.int ya), .val (.int yb), .val (.ref r14), .val (.ref r20), .val (.int mm), .val (.ref b36), .val (.ref b62), .unset] [(.ref b36)])) _
              refine XS.aload Xr80.here hx rfl (hb hby at_206) rfl rfl ?_
              show Steps p.tables e below (T80.setTop (mkF m 208 #[.val (.int p0), .val (.int p1), .val (.int p2), .val (.int p3), .val (.int p4), .val (.int l1), .val (.int sd), .val (.int sc), .val (.int md), .val (.int l2), .val (.int bb), .val (.int xa), .val (.int xb), .val (.int ya), .val (.int yb), .val (.ref r14), .val (.ref r20), .val (.int mm), .val (.ref b36), .val (.ref b62), .unset] [(.ref r14), (.ref b36)])) _
              refine st101.trans ?_
              show Steps p.tables e below (T101.setTop (mkF m 211 #[.val (.int p0), .val (.int p1), .val (.int p2), .val (.int p3), .val (.int p4), .val (.int l1), .val (.int sd), .val (.int sc), .val (.int md), .val (.int l2), .val (.int bb), .val (.int xa), .val (.int xb), .val (.int ya), .val (.int yb), .val (.ref r14), .val (.ref r20), .val (.int mm), .val (.ref b36), .val (.ref b62), .unset] [(.int (0 : Int32))])) _
              refine XS.ifNo X101.here hx rfl (hb hby at_211) rfl ((if0 _ _).trans (teq (rfl : (0 : Int32) = (0 : Int32))).2) ?_
              show Steps p.tables e below (T101.setTop (mkF m 214 #[.val (.int p0), .val (.int p1), .val (.int p2), .val (.int p3), .val (.int p4), .val (.int l1), .val (.int sd), .val (.int sc), .val (.int md), .val (.int l2), .val (.int bb), .val (.int xa), .val (.int xb), .val (.int ya), .val (.int yb), .val (.ref r14), .val (.ref r20), .val (.int mm), .val (.ref b36), .val (.ref b62), .unset] [])) _
              refine XS.iconst X101.here hx rfl (hb hby at_214) ?_
              show Steps p.tables e below (T101.setTop (mkF m 215 #[.val (.int p0), .val (.int p1), .val (.int p2), .val (.int p3), .val (.int p4), .val (.int l1), .val (.int sd), .val (.int sc), .val (.int md), .val (.int l2), .val (.int bb), .val (.int xa), .val (.int xb), .val (.int ya), .val (.int yb), .val (.ref r14), .val (.ref r20), .val (.int mm), .val (.ref b36), .val (.ref b62), .unset] [(.int (1 : Int32))])) _
              refine XS.goto X101.here hx rfl (pc0 := 215) (pc' := 219) rfl (hb hby at_215) (by decide) (by decide) ?_
              exact kt)
          obtain ⟨fs, hr, hrun, hended, hRE⟩ := X101.leaveW hS80 (by rw [e101]; exact (Nat.le_refl _)) (v := some (.int (1 : Int32))) (fun h => by rw [Bd.returns] at h; cases h)
          have hCR : CHr Z consts_1 s.vm s.heap T101.vm T101.heap := by rw [e101, hh]; exact CHr.trans CR80 (CHv.at X101 hZ80 hEL hCq80.1)
          refine ⟨_, _, pre102 _ ?_, hrun, hended, _, _, rfl, ?_, hCR, own_mono hRE (by decide) (by decide)⟩
          · show Steps p.tables e below (T101.setTop (mkF m 219 #[.val (.int p0), .val (.int p1), .val (.int p2), .val (.int p3), .val (.int p4), .val (.int l1), .val (.int sd), .val (.int sc), .val (.int md), .val (.int l2), .val (.int bb), .val (.int xa), .val (.int xb), .val (.int ya), .val (.int yb), .val (.ref r14), .val (.ref r20), .val (.int mm), .val (.ref b36), .val (.ref b62), .unset] [(.int (1 : Int32))])) _
            exact retN X101 hx (t := .boolean) Bd.returns (by simp) (hb hby at_219) hr
          · show Q0 Z _ _ _ _ _ _ h0 n0 _ T101.heap _
            rw [e101]
            exact ⟨rfl, N101, trivial⟩
        · skip
          have pre103 : ∀ t, Steps p.tables e below (T80.setTop (mkF m 223 #[.val (.int p0), .val (.int p1), .val (.int p2), .val (.int p3), .val (.int p4), .val (.int l1), .val (.int sd), .val (.int sc), .val (.int md), .val (.int l2), .val (.int bb), .val (.int xa), .val (.int xb), .val (.int ya), .val (.int yb), .val (.ref r14), .val (.ref r20), .val (.int mm), .val (.ref b36), .val (.ref b62), .unset] [(.int (3 : Int32)), (.int md)])) t → Steps p.tables e below (s₁.setTop (entryFrame m #[(.int p0), (.int p1), (.int p2), (.int p3), (.int p4)] maxLocals)) t := fun t kt => pre99 t (by
              show Steps p.tables e below (T80.setTop (mkF m 201 #[.val (.int p0), .val (.int p1), .val (.int p2), .val (.int p3), .val (.int p4), .val (.int l1), .val (.int sd), .val (.int sc), .val (.int md), .val (.int l2), .val (.int bb), .val (.int xa), .val (.int xb), .val (.int ya), .val (.int yb), .val (.ref r14), .val (.ref r20), .val (.int mm), .val (.ref b36), .val (.ref b62), .unset] [(.int (2 : Int32)), (.int md)])) _
              refine XS.icmpYes Xr80.here hx rfl (pc0 := 201) (pc' := 220) rfl (hb hby at_201) rfl (feq hc100).2 (by decide) (by decide) ?_
              show Steps p.tables e below (T80.setTop (mkF m 220 #[.val (.int p0), .val (.int p1), .val (.int p2), .val (.int p3), .val (.int p4), .val (.int l1), .val (.int sd), .val (.int sc), .val (.int md), .val (.int l2), .val (.int bb), .val (.int xa), .val (.int xb), .val (.int ya), .val (.int yb), .val (.ref r14), .val (.ref r20), .val (.int mm), .val (.ref b36), .val (.ref b62), .unset] [])) _
              refine XS.iload Xr80.here hx rfl (hb hby at_220) rfl ?_
              show Steps p.tables e below (T80.setTop (mkF m 222 #[.val (.int p0), .val (.int p1), .val (.int p2), .val (.int p3), .val (.int p4), .val (.int l1), .val (.int sd), .val (.int sc), .val (.int md), .val (.int l2), .val (.int bb), .val (.int xa), .val (.int xb), .val (.int ya), .val (.int yb), .val (.ref r14), .val (.ref r20), .val (.int mm), .val (.ref b36), .val (.ref b62), .unset] [(.int md)])) _
              refine XS.iconst Xr80.here hx rfl (hb hby at_222) ?_
              exact kt)
          by_cases hc104 : md = (3 : Int32)
          · skip
            obtain ⟨cq105, kq105, q105a, q105b, q105c⟩ := isOf hZ80 rfl f90
            obtain ⟨_, _, ⟨T105, L105, k105, n105⟩, -, X105, ⟨Lc105, hQ105, l105, y105, z105⟩, st105⟩ := Xr80.virtualBack hx (y := (⟨"com/example/gibbon/gibbon/search/Occurrences", "equals", "(Ljava/lang/Object;)Z"⟩ : MethodName)) (z := (⟨"com/example/gibbon/gibbon/search/Occurrences", "equals", "(Ljava/lang/Object;)Z"⟩ : MethodName)) hown80 (mvT hZ80 (hw _ (List.mem_of_getElem? (i := 43) rfl))) (mvT hZ80 (hw _ (List.mem_of_getElem? (i := 44) rfl))) (notFace_of_selects (args := #[]) (mvT hZ80 (hw _ (List.mem_of_getElem? (i := 46) rfl)))) (mvT hZ80 (hw _ (List.mem_of_getElem? (i := 46) rfl))) (mvT hZ80 (hw _ (List.mem_of_getElem? (i := 45) rfl))) (by decide) (backOf (W := 0) (rmEE l Z aw hw [] b36 r14 p2 T80.heap n0 (Nat.le_trans (Nat.le_trans (Nat.le_trans (Nat.le_trans (Nat.le_trans (Nat.le_trans Z0 c13_0.1) c19_0.1) E36.1) c50_0.1) E62.1) c80_0.1) f90 f82 f91 f92) hZ80 (hw _ (List.mem_of_getElem? (i := 47) rfl)) (hw _ (List.mem_of_getElem? (i := 28) rfl)) (by decide) (by decide)) q105a q105c (g := (mkF m 230 #[.val (.int p0), .val (.int p1), .val (.int p2), .val (.int p3), .val (.int p4), .val (.int l1), .val (.int sd), .val (.int sc), .val (.int md), .val (.int l2), .val (.int bb), .val (.int xa), .val (.int xb), .val (.int ya), .val (.int yb), .val (.ref r14), .val (.ref r20), .val (.int mm), .val (.ref b36), .val (.ref b62), .unset] [(.ref b36), (.ref b36)])) rfl (by rw [hml]; rfl) (Steps.refl _) (argsL := [(.ref b36)]) (rest := []) (lenOf pd_11 rfl) rfl (by show 2 * 0 + _ ≤ _; exact Nat.le_of_eq rfl) (hb hby at_230) (fun _ _ => ⟨rfl, rfl, (by decide : 18 + 0 ≤ _), (by decide : 100 + 0 ≤ _)⟩)
            dsimp only [Pt.U, Pt.locs, Pt.cells, Pt.slots] at X105 l105 y105 z105 st105 hQ105
            subst l105 y105 z105
            obtain ⟨rfl, Nq105, e105⟩ := hQ105
            have N105 := Fr.app N80 Nq105
            have pre106 : ∀ t, Steps p.tables e below (T105.setTop (mkF m 233 #[.val (.int p0), .val (.int p1), .val (.int p2), .val (.int p3), .val (.int p4), .val (.int l1), .val (.int sd), .val (.int sc), .val (.int md), .val (.int l2), .val (.int bb), .val (.int xa), .val (.int xb), .val (.int ya), .val (.int yb), .val (.ref r14), .val (.ref r20), .val (.int mm), .val (.ref b36), .val (.ref b62), .unset] [(.int (1 : Int32))])) t → Steps p.tables e below (s₁.setTop (entryFrame m #[(.int p0), (.int p1), (.int p2), (.int p3), (.int p4)] maxLocals)) t := fun t kt => pre103 t (by
                show Steps p.tables e below (T80.setTop (mkF m 223 #[.val (.int p0), .val (.int p1), .val (.int p2), .val (.int p3), .val (.int p4), .val (.int l1), .val (.int sd), .val (.int sc), .val (.int md), .val (.int l2), .val (.int bb), .val (.int xa), .val (.int xb), .val (.int ya), .val (.int yb), .val (.ref r14), .val (.ref r20), .val (.int mm), .val (.ref b36), .val (.ref b62), .unset] [(.int (3 : Int32)), (.int md)])) _
                refine XS.icmpNo Xr80.here hx rfl (hb hby at_223) rfl (teq hc104).2 ?_
                show Steps p.tables e below (T80.setTop (mkF m 226 #[.val (.int p0), .val (.int p1), .val (.int p2), .val (.int p3), .val (.int p4), .val (.int l1), .val (.int sd), .val (.int sc), .val (.int md), .val (.int l2), .val (.int bb), .val (.int xa), .val (.int xb), .val (.int ya), .val (.int yb), .val (.ref r14), .val (.ref r20), .val (.int mm), .val (.ref b36), .val (.ref b62), .unset] [])) _
                refine XS.aload Xr80.here hx rfl (hb hby at_226) rfl rfl ?_
                show Steps p.tables e below (T80.setTop (mkF m 228 #[.val (.int p0), .val (.int p1), .val (.int p2), .val (.int p3), .val (.int p4), .val (.int l1), .val (.int sd), .val (.int sc), .val (.int md), .val (.int l2), .val (.int bb), .val (.int xa), .val (.int xb), .val (.int ya), .val (.int yb), .val (.ref r14), .val (.ref r20), .val (.int mm), .val (.ref b36), .val (.ref b62), .unset] [(.ref b36)])) _
                refine XS.aload Xr80.here hx rfl (hb hby at_228) rfl rfl ?_
                show Steps p.tables e below (T80.setTop (mkF m 230 #[.val (.int p0), .val (.int p1), .val (.int p2), .val (.int p3), .val (.int p4), .val (.int l1), .val (.int sd), .val (.int sc), .val (.int md), .val (.int l2), .val (.int bb), .val (.int xa), .val (.int xb), .val (.int ya), .val (.int yb), .val (.ref r14), .val (.ref r20), .val (.int mm), .val (.ref b36), .val (.ref b62), .unset] [(.ref b36), (.ref b36)])) _
                refine st105.trans ?_
                exact kt)
            obtain ⟨fs, hr, hrun, hended, hRE⟩ := X105.leaveW hS80 (by rw [e105]; exact (Nat.le_refl _)) (v := some (.int (1 : Int32))) (fun h => by rw [Bd.returns] at h; cases h)
            have hCR : CHr Z consts_1 s.vm s.heap T105.vm T105.heap := by rw [e105, hh]; exact CHr.trans CR80 (CHv.at X105 hZ80 hEL hCq80.1)
            refine ⟨_, _, pre106 _ ?_, hrun, hended, _, _, rfl, ?_, hCR, own_mono hRE (by decide) (by decide)⟩
            · show Steps p.tables e below (T105.setTop (mkF m 233 #[.val (.int p0), .val (.int p1), .val (.int p2), .val (.int p3), .val (.int p4), .val (.int l1), .val (.int sd), .val (.int sc), .val (.int md), .val (.int l2), .val (.int bb), .val (.int xa), .val (.int xb), .val (.int ya), .val (.int yb), .val (.ref r14), .val (.ref r20), .val (.int mm), .val (.ref b36), .val (.ref b62), .unset] [(.int (1 : Int32))])) _
              exact retN X105 hx (t := .boolean) Bd.returns (by simp) (hb hby at_233) hr
            · show Q0 Z _ _ _ _ _ _ h0 n0 _ T105.heap _
              rw [e105]
              exact ⟨rfl, N105, trivial⟩
          · skip
            have pre107 : ∀ t, Steps p.tables e below (T80.setTop (mkF m 234 #[.val (.int p0), .val (.int p1), .val (.int p2), .val (.int p3), .val (.int p4), .val (.int l1), .val (.int sd), .val (.int sc), .val (.int md), .val (.int l2), .val (.int bb), .val (.int xa), .val (.int xb), .val (.int ya), .val (.int yb), .val (.ref r14), .val (.ref r20), .val (.int mm), .val (.ref b36), .val (.ref b62), .unset] [])) t → Steps p.tables e below (s₁.setTop (entryFrame m #[(.int p0), (.int p1), (.int p2), (.int p3), (.int p4)] maxLocals)) t := fun t kt => pre103 t (by
                show Steps p.tables e below (T80.setTop (mkF m 223 #[.val (.int p0), .val (.int p1), .val (.int p2), .val (.int p3), .val (.int p4), .val (.int l1), .val (.int sd), .val (.int sc), .val (.int md), .val (.int l2), .val (.int bb), .val (.int xa), .val (.int xb), .val (.int ya), .val (.int yb), .val (.ref r14), .val (.ref r20), .val (.int mm), .val (.ref b36), .val (.ref b62), .unset] [(.int (3 : Int32)), (.int md)])) _
                refine XS.icmpYes Xr80.here hx rfl (pc0 := 223) (pc' := 234) rfl (hb hby at_223) rfl (feq hc104).2 (by decide) (by decide) ?_
                exact kt)
            refine cps (A := ∃ (ex : Int32), ((((l1 = l2 ∧ (l1 < (1 : Int32) ∨ xa = ya) ∧ (l1 < (2 : Int32) ∨ xb = yb)) ∧ p2 = mm) → (1 : Int32) = ex) ∧ (¬ ((l1 = l2 ∧ (l1 < (1 : Int32) ∨ xa = ya) ∧ (l1 < (2 : Int32) ∨ xb = yb)) ∧ p2 = mm) → (0 : Int32) = ex)) ∧ ∀ t, Steps p.tables e below (T80.setTop (mkF m 280 #[.val (.int p0), .val (.int p1), .val (.int p2), .val (.int p3), .val (.int p4), .val (.int l1), .val (.int sd), .val (.int sc), .val (.int md), .val (.int l2), .val (.int bb), .val (.int xa), .val (.int xb), .val (.int ya), .val (.int yb), .val (.ref r14), .val (.ref r20), .val (.int mm), .val (.ref b36), .val (.ref b62), .val (.int ex)] [])) t → Steps p.tables e below (s₁.setTop (entryFrame m #[(.int p0), (.int p1), (.int p2), (.int p3), (.int p4)] maxLocals)) t) (fun kk108 => ?_) (fun hA => ?_)
            · skip
              have pre109 : ∀ t, Steps p.tables e below (T80.setTop (mkF m 238 #[.val (.int p0), .val (.int p1), .val (.int p2), .val (.int p3), .val (.int p4), .val (.int l1), .val (.int sd), .val (.int sc), .val (.int md), .val (.int l2), .val (.int bb), .val (.int xa), .val (.int xb), .val (.int ya), .val (.int yb), .val (.ref r14), .val (.ref r20), .val (.int mm), .val (.ref b36), .val (.ref b62), .unset] [(.int l2), (.int l1)])) t → Steps p.tables e below (s₁.setTop (entryFrame m #[(.int p0), (.int p1), (.int p2), (.int p3), (.int p4)] maxLocals)) t := fun t kt => pre107 t (by
                  show Steps p.tables e below (T80.setTop (mkF m 234 #[.val (.int p0), .val (.int p1), .val (.int p2), .val (.int p3), .val (.int p4), .val (.int l1), .val (.int sd), .val (.int sc), .val (.int md), .val (.int l2), .val (.int bb), .val (.int xa), .val (.int xb), .val (.int ya), .val (.int yb), .val (.ref r14), .val (.ref r20), .val (.int mm), .val (.ref b36), .val (.ref b62), .unset] [])) _
                  refine XS.iload Xr80.here hx rfl (hb hby at_234) rfl ?_
                  show Steps p.tables e below (T80.setTop (mkF m 236 #[.val (.int p0), .val (.int p1), .val (.int p2), .val (.int p3), .val (.int p4), .val (.int l1), .val (.int sd), .val (.int sc), .val (.int md), .val (.int l2), .val (.int bb), .val (.int xa), .val (.int xb), .val (.int ya), .val (.int yb), .val (.ref r14), .val (.ref r20), .val (.int mm), .val (.ref b36), .val (.ref b62), .unset] [(.int l1)])) _
                  refine XS.iload Xr80.here hx rfl (hb hby at_236) rfl ?_
                  exact kt)
              by_cases hc110 : l1 = l2
              · skip
                have pre111 : ∀ t, Steps p.tables e below (T80.setTop (mkF m 244 #[.val (.int p0), .val (.int p1), .val (.int p2), .val (.int p3), .val (.int p4), .val (.int l1), .val (.int sd), .val (.int sc), .val (.int md), .val (.int l2), .val (.int bb), .val (.int xa), .val (.int xb), .val (.int ya), .val (.int yb), .val (.ref r14), .val (.ref r20), .val (.int mm), .val (.ref b36), .val (.ref b62), .unset] [(.int (1 : Int32)), (.int l1)])) t → Steps p.tables e below (s₁.setTop (entryFrame m #[(.int p0), (.int p1), (.int p2), (.int p3), (.int p4)] maxLocals)) t := fun t kt => pre109 t (by
                    show Steps p.tables e below (T80.setTop (mkF m 238 #[.val (.int p0), .val (.int p1), .val (.int p2), .val (.int p3), .val (.int p4), .val (.int l1), .val (.int sd), .val (.int sc), .val (.int md), .val (.int l2), .val (.int bb), .val (.int xa), .val (.int xb), .val (.int ya), .val (.int yb), .val (.ref r14), .val (.ref r20), .val (.int mm), .val (.ref b36), .val (.ref b62), .unset] [(.int l2), (.int l1)])) _
                    refine XS.icmpNo Xr80.here hx rfl (hb hby at_238) rfl (teq hc110).2 ?_
                    show Steps p.tables e below (T80.setTop (mkF m 241 #[.val (.int p0), .val (.int p1), .val (.int p2), .val (.int p3), .val (.int p4), .val (.int l1), .val (.int sd), .val (.int sc), .val (.int md), .val (.int l2), .val (.int bb), .val (.int xa), .val (.int xb), .val (.int ya), .val (.int yb), .val (.ref r14), .val (.ref r20), .val (.int mm), .val (.ref b36), .val (.ref b62), .unset] [])) _
                    refine XS.iload Xr80.here hx rfl (hb hby at_241) rfl ?_
                    show Steps p.tables e below (T80.setTop (mkF m 243 #[.val (.int p0), .val (.int p1), .val (.int p2), .val (.int p3), .val (.int p4), .val (.int l1), .val (.int sd), .val (.int sc), .val (.int md), .val (.int l2), .val (.int bb), .val (.int xa), .val (.int xb), .val (.int ya), .val (.int yb), .val (.ref r14), .val (.ref r20), .val (.int mm), .val (.ref b36), .val (.ref b62), .unset] [(.int l1)])) _
                    refine XS.iconst Xr80.here hx rfl (hb hby at_243) ?_
                    exact kt)
                by_cases hc112 : l1 < (1 : Int32)
                · skip
                  have pre113 : ∀ t, Steps p.tables e below (T80.setTop (mkF m 257 #[.val (.int p0), .val (.int p1), .val (.int p2), .val (.int p3), .val (.int p4), .val (.int l1), .val (.int sd), .val (.int sc), .val (.int md), .val (.int l2), .val (.int bb), .val (.int xa), .val (.int xb), .val (.int ya), .val (.int yb), .val (.ref r14), .val (.ref r20), .val (.int mm), .val (.ref b36), .val (.ref b62), .unset] [(.int (2 : Int32)), (.int l1)])) t → Steps p.tables e below (s₁.setTop (entryFrame m #[(.int p0), (.int p1), (.int p2), (.int p3), (.int p4)] maxLocals)) t := fun t kt => pre111 t (by
                      show Steps p.tables e below (T80.setTop (mkF m 244 #[.val (.int p0), .val (.int p1), .val (.int p2), .val (.int p3), .val (.int p4), .val (.int l1), .val (.int sd), .val (.int sc), .val (.int md), .val (.int l2), .val (.int bb), .val (.int xa), .val (.int xb), .val (.int ya), .val (.int yb), .val (.ref r14), .val (.ref r20), .val (.int mm), .val (.ref b36), .val (.ref b62), .unset] [(.int (1 : Int32)), (.int l1)])) _
                      refine XS.icmpYes Xr80.here hx rfl (pc0 := 244) (pc' := 254) rfl (hb hby at_244) rfl (tlt hc112).1 (by decide) (by decide) ?_
                      show Steps p.tables e below (T80.setTop (mkF m 254 #[.val (.int p0), .val (.int p1), .val (.int p2), .val (.int p3), .val (.int p4), .val (.int l1), .val (.int sd), .val (.int sc), .val (.int md), .val (.int l2), .val (.int bb), .val (.int xa), .val (.int xb), .val (.int ya), .val (.int yb), .val (.ref r14), .val (.ref r20), .val (.int mm), .val (.ref b36), .val (.ref b62), .unset] [])) _
                      refine XS.iload Xr80.here hx rfl (hb hby at_254) rfl ?_
                      show Steps p.tables e below (T80.setTop (mkF m 256 #[.val (.int p0), .val (.int p1), .val (.int p2), .val (.int p3), .val (.int p4), .val (.int l1), .val (.int sd), .val (.int sc), .val (.int md), .val (.int l2), .val (.int bb), .val (.int xa), .val (.int xb), .val (.int ya), .val (.int yb), .val (.ref r14), .val (.ref r20), .val (.int mm), .val (.ref b36), .val (.ref b62), .unset] [(.int l1)])) _
                      refine XS.iconst Xr80.here hx rfl (hb hby at_256) ?_
                      exact kt)
                  by_cases hc114 : l1 < (2 : Int32)
                  · skip
                    have pre115 : ∀ t, Steps p.tables e below (T80.setTop (mkF m 270 #[.val (.int p0), .val (.int p1), .val (.int p2), .val (.int p3), .val (.int p4), .val (.int l1), .val (.int sd), .val (.int sc), .val (.int md), .val (.int l2), .val (.int bb), .val (.int xa), .val (.int xb), .val (.int ya), .val (.int yb), .val (.ref r14), .val (.ref r20), .val (.int mm), .val (.ref b36), .val (.ref b62), .unset] [(.int mm), (.int p2)])) t → Steps p.tables e below (s₁.setTop (entryFrame m #[(.int p0), (.int p1), (.int p2), (.int p3), (.int p4)] maxLocals)) t := fun t kt => pre113 t (by
                        show Steps p.tables e below (T80.setTop (mkF m 257 #[.val (.int p0), .val (.int p1), .val (.int p2), .val (.int p3), .val (.int p4), .val (.int l1), .val (.int sd), .val (.int sc), .val (.int md), .val (.int l2), .val (.int bb), .val (.int xa), .val (.int xb), .val (.int ya), .val (.int yb), .val (.ref r14), .val (.ref r20), .val (.int mm), .val (.ref b36), .val (.ref b62), .unset] [(.int (2 : Int32)), (.int l1)])) _
                        refine XS.icmpYes Xr80.here hx rfl (pc0 := 257) (pc' := 267) rfl (hb hby at_257) rfl (tlt hc114).1 (by decide) (by decide) ?_
                        show Steps p.tables e below (T80.setTop (mkF m 267 #[.val (.int p0), .val (.int p1), .val (.int p2), .val (.int p3), .val (.int p4), .val (.int l1), .val (.int sd), .val (.int sc), .val (.int md), .val (.int l2), .val (.int bb), .val (.int xa), .val (.int xb), .val (.int ya), .val (.int yb), .val (.ref r14), .val (.ref r20), .val (.int mm), .val (.ref b36), .val (.ref b62), .unset] [])) _
                        refine XS.iloadN Xr80.here hx rfl (hb hby at_267) rfl ?_
                        show Steps p.tables e below (T80.setTop (mkF m 268 #[.val (.int p0), .val (.int p1), .val (.int p2), .val (.int p3), .val (.int p4), .val (.int l1), .val (.int sd), .val (.int sc), .val (.int md), .val (.int l2), .val (.int bb), .val (.int xa), .val (.int xb), .val (.int ya), .val (.int yb), .val (.ref r14), .val (.ref r20), .val (.int mm), .val (.ref b36), .val (.ref b62), .unset] [(.int p2)])) _
                        refine XS.iload Xr80.here hx rfl (hb hby at_268) rfl ?_
                        exact kt)
                    by_cases hc116 : p2 = mm
                    · skip
                      have pre117 : ∀ t, Steps p.tables e below (T80.setTop (mkF m 280 #[.val (.int p0), .val (.int p1), .val (.int p2), .val (.int p3), .val (.int p4), .val (.int l1), .val (.int sd), .val (.int sc), .val (.int md), .val (.int l2), .val (.int bb), .val (.int xa), .val (.int xb), .val (.int ya), .val (.int yb), .val (.ref r14), .val (.ref r20), .val (.int mm), .val (.ref b36), .val (.ref b62), .val (.int (1 : Int32))] [])) t → Steps p.tables e below (s₁.setTop (entryFrame m #[(.int p0), (.int p1), (.int p2), (.int p3), (.int p4)] maxLocals)) t := fun t kt => pre115 t (by
                          show Steps p.tables e below (T80.setTop (mkF m 270 #[.val (.int p0), .val (.int p1), .val (.int p2), .val (.int p3), .val (.int p4), .val (.int l1), .val (.int sd), .val (.int sc), .val (.int md), .val (.int l2), .val (.int bb), .val (.int xa), .val (.int xb), .val (.int ya), .val (.int yb), .val (.ref r14), .val (.ref r20), .val (.int mm), .val (.ref b36), .val (.ref b62), .unset] [(.int mm), (.int p2)])) _
                          refine XS.icmpNo Xr80.here hx rfl (hb hby at_270) rfl (teq hc116).2 ?_
                          show Steps p.tables e below (T80.setTop (mkF m 273 #[.val (.int p0), .val (.int p1), .val (.int p2), .val (.int p3), .val (.int p4), .val (.int l1), .val (.int sd), .val (.int sc), .val (.int md), .val (.int l2), .val (.int bb), .val (.int xa), .val (.int xb), .val (.int ya), .val (.int yb), .val (.ref r14), .val (.ref r20), .val (.int mm), .val (.ref b36), .val (.ref b62), .unset] [])) _
                          refine XS.iconst Xr80.here hx rfl (hb hby at_273) ?_
                          show Steps p.tables e below (T80.setTop (mkF m 274 #[.val (.int p0), .val (.int p1), .val (.int p2), .val (.int p3), .val (.int p4), .val (.int l1), .val (.int sd), .val (.int sc), .val (.int md), .val (.int l2), .val (.int bb), .val (.int xa), .val (.int xb), .val (.int ya), .val (.int yb), .val (.ref r14), .val (.ref r20), .val (.int mm), .val (.ref b36), .val (.ref b62), .unset] [(.int (1 : Int32))])) _
                          refine XS.goto Xr80.here hx rfl (pc0 := 274) (pc' := 278) rfl (hb hby at_274) (by decide) (by decide) ?_
                          show Steps p.tables e below (T80.setTop (mkF m 278 #[.val (.int p0), .val (.int p1), .val (.int p2), .val (.int p3), .val (.int p4), .val (.int l1), .val (.int sd), .val (.int sc), .val (.int md), .val (.int l2), .val (.int bb), .val (.int xa), .val (.int xb), .val (.int ya), .val (.int yb), .val (.ref r14), .val (.ref r20), .val (.int mm), .val (.ref b36), .val (.ref b62), .unset] [(.int (1 : Int32))])) _
                          refine XS.istore Xr80.here hx rfl (hb hby at_278) rfl (l' := #[.val (.int p0), .val (.int p1), .val (.int p2), .val (.int p3), .val (.int p4), .val (.int l1), .val (.int sd), .val (.int sc), .val (.int md), .val (.int l2), .val (.int bb), .val (.int xa), .val (.int xb), .val (.int ya), .val (.int yb), .val (.ref r14), .val (.ref r20), .val (.int mm), .val (.ref b36), .val (.ref b62), .val (.int (1 : Int32))]) rfl ?_
                          exact kt)
                      exact kk108 ⟨(1 : Int32), ⟨fun _ => rfl, fun n => absurd ⟨⟨hc110, Or.inl hc112, Or.inl hc114⟩, hc116⟩ n⟩, pre117⟩
                    · skip
                      have pre118 : ∀ t, Steps p.tables e below (T80.setTop (mkF m 280 #[.val (.int p0), .val (.int p1), .val (.int p2), .val (.int p3), .val (.int p4), .val (.int l1), .val (.int sd), .val (.int sc), .val (.int md), .val (.int l2), .val (.int bb), .val (.int xa), .val (.int xb), .val (.int ya), .val (.int yb), .val (.ref r14), .val (.ref r20), .val (.int mm), .val (.ref b36), .val (.ref b62), .val (.int (0 : Int32))] [])) t → Steps p.tables e below (s₁.setTop (entryFrame m #[(.int p0), (.int p1), (.int p2), (.int p3), (.int p4)] maxLocals)) t := fun t kt => pre115 t (by
                          show Steps p.tables e below (T80.setTop (mkF m 270 #[.val (.int p0), .val (.int p1), .val (.int p2), .val (.int p3), .val (.int p4), .val (.int l1), .val (.int sd), .val (.int sc), .val (.int md), .val (.int l2), .val (.int bb), .val (.int xa), .val (.int xb), .val (.int ya), .val (.int yb), .val (.ref r14), .val (.ref r20), .val (.int mm), .val (.ref b36), .val (.ref b62), .unset] [(.int mm), (.int p2)])) _
                          refine XS.icmpYes Xr80.here hx rfl (pc0 := 270) (pc' := 277) rfl (hb hby at_270) rfl (feq hc116).2 (by decide) (by decide) ?_
                          show Steps p.tables e below (T80.setTop (mkF m 277 #[.val (.int p0), .val (.int p1), .val (.int p2), .val (.int p3), .val (.int p4), .val (.int l1), .val (.int sd), .val (.int sc), .val (.int md), .val (.int l2), .val (.int bb), .val (.int xa), .val (.int xb), .val (.int ya), .val (.int yb), .val (.ref r14), .val (.ref r20), .val (.int mm), .val (.ref b36), .val (.ref b62), .unset] [])) _
                          refine XS.iconst Xr80.here hx rfl (hb hby at_277) ?_
                          show Steps p.tables e below (T80.setTop (mkF m 278 #[.val (.int p0), .val (.int p1), .val (.int p2), .val (.int p3), .val (.int p4), .val (.int l1), .val (.int sd), .val (.int sc), .val (.int md), .val (.int l2), .val (.int bb), .val (.int xa), .val (.int xb), .val (.int ya), .val (.int yb), .val (.ref r14), .val (.ref r20), .val (.int mm), .val (.ref b36), .val (.ref b62), .unset] [(.int (0 : Int32))])) _
                          refine XS.istore Xr80.here hx rfl (hb hby at_278) rfl (l' := #[.val (.int p0), .val (.int p1), .val (.int p2), .val (.int p3), .val (.int p4), .val (.int l1), .val (.int sd), .val (.int sc), .val (.int md), .val (.int l2), .val (.int bb), .val (.int xa), .val (.int xb), .val (.int ya), .val (.int yb), .val (.ref r14), .val (.ref r20), .val (.int mm), .val (.ref b36), .val (.ref b62), .val (.int (0 : Int32))]) rfl ?_
                          exact kt)
                      exact kk108 ⟨(0 : Int32), ⟨fun c => absurd c.2 hc116, fun _ => rfl⟩, pre118⟩
                  · skip
                    have pre119 : ∀ t, Steps p.tables e below (T80.setTop (mkF m 264 #[.val (.int p0), .val (.int p1), .val (.int p2), .val (.int p3), .val (.int p4), .val (.int l1), .val (.int sd), .val (.int sc), .val (.int md), .val (.int l2), .val (.int bb), .val (.int xa), .val (.int xb), .val (.int ya), .val (.int yb), .val (.ref r14), .val (.ref r20), .val (.int mm), .val (.ref b36), .val (.ref b62), .unset] [(.int yb), (.int xb)])) t → Steps p.tables e below (s₁.setTop (entryFrame m #[(.int p0), (.int p1), (.int p2), (.int p3), (.int p4)] maxLocals)) t := fun t kt => pre113 t (by
                        show Steps p.tables e below (T80.setTop (mkF m 257 #[.val (.int p0), .val (.int p1), .val (.int p2), .val (.int p3), .val (.int p4), .val (.int l1), .val (.int sd), .val (.int sc), .val (.int md), .val (.int l2), .val (.int bb), .val (.int xa), .val (.int xb), .val (.int ya), .val (.int yb), .val (.ref r14), .val (.ref r20), .val (.int mm), .val (.ref b36), .val (.ref b62), .unset] [(.int (2 : Int32)), (.int l1)])) _
                        refine XS.icmpNo Xr80.here hx rfl (hb hby at_257) rfl (flt hc114).1 ?_
                        show Steps p.tables e below (T80.setTop (mkF m 260 #[.val (.int p0), .val (.int p1), .val (.int p2), .val (.int p3), .val (.int p4), .val (.int l1), .val (.int sd), .val (.int sc), .val (.int md), .val (.int l2), .val (.int bb), .val (.int xa), .val (.int xb), .val (.int ya), .val (.int yb), .val (.ref r14), .val (.ref r20), .val (.int mm), .val (.ref b36), .val (.ref b62), .unset] [])) _
                        refine XS.iload Xr80.here hx rfl (hb hby at_260) rfl ?_
                        show Steps p.tables e below (T80.setTop (mkF m 262 #[.val (.int p0), .val (.int p1), .val (.int p2), .val (.int p3), .val (.int p4), .val (.int l1), .val (.int sd), .val (.int sc), .val (.int md), .val (.int l2), .val (.int bb), .val (.int xa), .val (.int xb), .val (.int ya), .val (.int yb), .val (.ref r14), .val (.ref r20), .val (.int mm), .val (.ref b36), .val (.ref b62), .unset] [(.int xb)])) _
                        refine XS.iload Xr80.here hx rfl (hb hby at_262) rfl ?_
                        exact kt)
                    by_cases hc120 : xb = yb
                    · skip
                      have pre121 : ∀ t, Steps p.tables e below (T80.setTop (mkF m 270 #[.val (.int p0), .val (.int p1), .val (.int p2), .val (.int p3), .val (.int p4), .val (.int l1), .val (.int sd), .val (.int sc), .val (.int md), .val (.int l2), .val (.int bb), .val (.int xa), .val (.int xb), .val (.int ya), .val (.int yb), .val (.ref r14), .val (.ref r20), .val (.int mm), .val (.ref b36), .val (.ref b62), .unset] [(.int mm), (.int p2)])) t → Steps p.tables e below (s₁.setTop (entryFrame m #[(.int p0), (.int p1), (.int p2), (.int p3), (.int p4)] maxLocals)) t := fun t kt => pre119 t (by
                          show Steps p.tables e below (T80.setTop (mkF m 264 #[.val (.int p0), .val (.int p1), .val (.int p2), .val (.int p3), .val (.int p4), .val (.int l1), .val (.int sd), .val (.int sc), .val (.int md), .val (.int l2), .val (.int bb), .val (.int xa), .val (.int xb), .val (.int ya), .val (.int yb), .val (.ref r14), .val (.ref r20), .val (.int mm), .val (.ref b36), .val (.ref b62), .unset] [(.int yb), (.int xb)])) _
                          refine XS.icmpNo Xr80.here hx rfl (hb hby at_264) rfl (teq hc120).2 ?_
                          show Steps p.tables e below (T80.setTop (mkF m 267 #[.val (.int p0), .val (.int p1), .val (.int p2), .val (.int p3), .val (.int p4), .val (.int l1), .val (.int sd), .val (.int sc), .val (.int md), .val (.int l2), .val (.int bb), .val (.int xa), .val (.int xb), .val (.int ya), .val (.int yb), .val (.ref r14), .val (.ref r20), .val (.int mm), .val (.ref b36), .val (.ref b62), .unset] [])) _
                          refine XS.iloadN Xr80.here hx rfl (hb hby at_267) rfl ?_
                          show Steps p.tables e below (T80.setTop (mkF m 268 #[.val (.int p0), .val (.int p1), .val (.int p2), .val (.int p3), .val (.int p4), .val (.int l1), .val (.int sd), .val (.int sc), .val (.int md), .val (.int l2), .val (.int bb), .val (.int xa), .val (.int xb), .val (.int ya), .val (.int yb), .val (.ref r14), .val (.ref r20), .val (.int mm), .val (.ref b36), .val (.ref b62), .unset] [(.int p2)])) _
                          refine XS.iload Xr80.here hx rfl (hb hby at_268) rfl ?_
                          exact kt)
                      by_cases hc122 : p2 = mm
                      · skip
                        have pre123 : ∀ t, Steps p.tables e below (T80.setTop (mkF m 280 #[.val (.int p0), .val (.int p1), .val (.int p2), .val (.int p3), .val (.int p4), .val (.int l1), .val (.int sd), .val (.int sc), .val (.int md), .val (.int l2), .val (.int bb), .val (.int xa), .val (.int xb), .val (.int ya), .val (.int yb), .val (.ref r14), .val (.ref r20), .val (.int mm), .val (.ref b36), .val (.ref b62), .val (.int (1 : Int32))] [])) t → Steps p.tables e below (s₁.setTop (entryFrame m #[(.int p0), (.int p1), (.int p2), (.int p3), (.int p4)] maxLocals)) t := fun t kt => pre121 t (by
                            show Steps p.tables e below (T80.setTop (mkF m 270 #[.val (.int p0), .val (.int p1), .val (.int p2), .val (.int p3), .val (.int p4), .val (.int l1), .val (.int sd), .val (.int sc), .val (.int md), .val (.int l2), .val (.int bb), .val (.int xa), .val (.int xb), .val (.int ya), .val (.int yb), .val (.ref r14), .val (.ref r20), .val (.int mm), .val (.ref b36), .val (.ref b62), .unset] [(.int mm), (.int p2)])) _
                            refine XS.icmpNo Xr80.here hx rfl (hb hby at_270) rfl (teq hc122).2 ?_
                            show Steps p.tables e below (T80.setTop (mkF m 273 #[.val (.int p0), .val (.int p1), .val (.int p2), .val (.int p3), .val (.int p4), .val (.int l1), .val (.int sd), .val (.int sc), .val (.int md), .val (.int l2), .val (.int bb), .val (.int xa), .val (.int xb), .val (.int ya), .val (.int yb), .val (.ref r14), .val (.ref r20), .val (.int mm), .val (.ref b36), .val (.ref b62), .unset] [])) _
                            refine XS.iconst Xr80.here hx rfl (hb hby at_273) ?_
                            show Steps p.tables e below (T80.setTop (mkF m 274 #[.val (.int p0), .val (.int p1), .val (.int p2), .val (.int p3), .val (.int p4), .val (.int l1), .val (.int sd), .val (.int sc), .val (.int md), .val (.int l2), .val (.int bb), .val (.int xa), .val (.int xb), .val (.int ya), .val (.int yb), .val (.ref r14), .val (.ref r20), .val (.int mm), .val (.ref b36), .val (.ref b62), .unset] [(.int (1 : Int32))])) _
                            refine XS.goto Xr80.here hx rfl (pc0 := 274) (pc' := 278) rfl (hb hby at_274) (by decide) (by decide) ?_
                            show Steps p.tables e below (T80.setTop (mkF m 278 #[.val (.int p0), .val (.int p1), .val (.int p2), .val (.int p3), .val (.int p4), .val (.int l1), .val (.int sd), .val (.int sc), .val (.int md), .val (.int l2), .val (.int bb), .val (.int xa), .val (.int xb), .val (.int ya), .val (.int yb), .val (.ref r14), .val (.ref r20), .val (.int mm), .val (.ref b36), .val (.ref b62), .unset] [(.int (1 : Int32))])) _
                            refine XS.istore Xr80.here hx rfl (hb hby at_278) rfl (l' := #[.val (.int p0), .val (.int p1), .val (.int p2), .val (.int p3), .val (.int p4), .val (.int l1), .val (.int sd), .val (.int sc), .val (.int md), .val (.int l2), .val (.int bb), .val (.int xa), .val (.int xb), .val (.int ya), .val (.int yb), .val (.ref r14), .val (.ref r20), .val (.int mm), .val (.ref b36), .val (.ref b62), .val (.int (1 : Int32))]) rfl ?_
                            exact kt)
                        exact kk108 ⟨(1 : Int32), ⟨fun _ => rfl, fun n => absurd ⟨⟨hc110, Or.inl hc112, Or.inr hc120⟩, hc122⟩ n⟩, pre123⟩
                      · skip
                        have pre124 : ∀ t, Steps p.tables e below (T80.setTop (mkF m 280 #[.val (.int p0), .val (.int p1), .val (.int p2), .val (.int p3), .val (.int p4), .val (.int l1), .val (.int sd), .val (.int sc), .val (.int md), .val (.int l2), .val (.int bb), .val (.int xa), .val (.int xb), .val (.int ya), .val (.int yb), .val (.ref r14), .val (.ref r20), .val (.int mm), .val (.ref b36), .val (.ref b62), .val (.int (0 : Int32))] [])) t → Steps p.tables e below (s₁.setTop (entryFrame m #[(.int p0), (.int p1), (.int p2), (.int p3), (.int p4)] maxLocals)) t := fun t kt => pre121 t (by
                            show Steps p.tables e below (T80.setTop (mkF m 270 #[.val (.int p0), .val (.int p1), .val (.int p2), .val (.int p3), .val (.int p4), .val (.int l1), .val (.int sd), .val (.int sc), .val (.int md), .val (.int l2), .val (.int bb), .val (.int xa), .val (.int xb), .val (.int ya), .val (.int yb), .val (.ref r14), .val (.ref r20), .val (.int mm), .val (.ref b36), .val (.ref b62), .unset] [(.int mm), (.int p2)])) _
                            refine XS.icmpYes Xr80.here hx rfl (pc0 := 270) (pc' := 277) rfl (hb hby at_270) rfl (feq hc122).2 (by decide) (by decide) ?_
                            show Steps p.tables e below (T80.setTop (mkF m 277 #[.val (.int p0), .val (.int p1), .val (.int p2), .val (.int p3), .val (.int p4), .val (.int l1), .val (.int sd), .val (.int sc), .val (.int md), .val (.int l2), .val (.int bb), .val (.int xa), .val (.int xb), .val (.int ya), .val (.int yb), .val (.ref r14), .val (.ref r20), .val (.int mm), .val (.ref b36), .val (.ref b62), .unset] [])) _
                            refine XS.iconst Xr80.here hx rfl (hb hby at_277) ?_
                            show Steps p.tables e below (T80.setTop (mkF m 278 #[.val (.int p0), .val (.int p1), .val (.int p2), .val (.int p3), .val (.int p4), .val (.int l1), .val (.int sd), .val (.int sc), .val (.int md), .val (.int l2), .val (.int bb), .val (.int xa), .val (.int xb), .val (.int ya), .val (.int yb), .val (.ref r14), .val (.ref r20), .val (.int mm), .val (.ref b36), .val (.ref b62), .unset] [(.int (0 : Int32))])) _
                            refine XS.istore Xr80.here hx rfl (hb hby at_278) rfl (l' := #[.val (.int p0), .val (.int p1), .val (.int p2), .val (.int p3), .val (.int p4), .val (.int l1), .val (.int sd), .val (.int sc), .val (.int md), .val (.int l2), .val (.int bb), .val (.int xa), .val (.int xb), .val (.int ya), .val (.int yb), .val (.ref r14), .val (.ref r20), .val (.int mm), .val (.ref b36), .val (.ref b62), .val (.int (0 : Int32))]) rfl ?_
                            exact kt)
                        exact kk108 ⟨(0 : Int32), ⟨fun c => absurd c.2 hc122, fun _ => rfl⟩, pre124⟩
                    · skip
                      have pre125 : ∀ t, Steps p.tables e below (T80.setTop (mkF m 280 #[.val (.int p0), .val (.int p1), .val (.int p2), .val (.int p3), .val (.int p4), .val (.int l1), .val (.int sd), .val (.int sc), .val (.int md), .val (.int l2), .val (.int bb), .val (.int xa), .val (.int xb), .val (.int ya), .val (.int yb), .val (.ref r14), .val (.ref r20), .val (.int mm), .val (.ref b36), .val (.ref b62), .val (.int (0 : Int32))] [])) t → Steps p.tables e below (s₁.setTop (entryFrame m #[(.int p0), (.int p1), (.int p2), (.int p3), (.int p4)] maxLocals)) t := fun t kt => pre119 t (by
                          show Steps p.tables e below (T80.setTop (mkF m 264 #[.val (.int p0), .val (.int p1), .val (.int p2), .val (.int p3), .val (.int p4), .val (.int l1), .val (.int sd), .val (.int sc), .val (.int md), .val (.int l2), .val (.int bb), .val (.int xa), .val (.int xb), .val (.int ya), .val (.int yb), .val (.ref r14), .val (.ref r20), .val (.int mm), .val (.ref b36), .val (.ref b62), .unset] [(.int yb), (.int xb)])) _
                          refine XS.icmpYes Xr80.here hx rfl (pc0 := 264) (pc' := 277) rfl (hb hby at_264) rfl (feq hc120).2 (by decide) (by decide) ?_
                          show Steps p.tables e below (T80.setTop (mkF m 277 #[.val (.int p0), .val (.int p1), .val (.int p2), .val (.int p3), .val (.int p4), .val (.int l1), .val (.int sd), .val (.int sc), .val (.int md), .val (.int l2), .val (.int bb), .val (.int xa), .val (.int xb), .val (.int ya), .val (.int yb), .val (.ref r14), .val (.ref r20), .val (.int mm), .val (.ref b36), .val (.ref b62), .unset] [])) _
                          refine XS.iconst Xr80.here hx rfl (hb hby at_277) ?_
                          show Steps p.tables e below (T80.setTop (mkF m 278 #[.val (.int p0), .val (.int p1), .val (.int p2), .val (.int p3), .val (.int p4), .val (.int l1), .val (.int sd), .val (.int sc), .val (.int md), .val (.int l2), .val (.int bb), .val (.int xa), .val (.int xb), .val (.int ya), .val (.int yb), .val (.ref r14), .val (.ref r20), .val (.int mm), .val (.ref b36), .val (.ref b62), .unset] [(.int (0 : Int32))])) _
                          refine XS.istore Xr80.here hx rfl (hb hby at_278) rfl (l' := #[.val (.int p0), .val (.int p1), .val (.int p2), .val (.int p3), .val (.int p4), .val (.int l1), .val (.int sd), .val (.int sc), .val (.int md), .val (.int l2), .val (.int bb), .val (.int xa), .val (.int xb), .val (.int ya), .val (.int yb), .val (.ref r14), .val (.ref r20), .val (.int mm), .val (.ref b36), .val (.ref b62), .val (.int (0 : Int32))]) rfl ?_
                          exact kt)
                      exact kk108 ⟨(0 : Int32), ⟨fun c => absurd (c.1.2.2.resolve_left hc114) hc120, fun _ => rfl⟩, pre125⟩
                · skip
                  have pre126 : ∀ t, Steps p.tables e below (T80.setTop (mkF m 251 #[.val (.int p0), .val (.int p1), .val (.int p2), .val (.int p3), .val (.int p4), .val (.int l1), .val (.int sd), .val (.int sc), .val (.int md), .val (.int l2), .val (.int bb), .val (.int xa), .val (.int xb), .val (.int ya), .val (.int yb), .val (.ref r14), .val (.ref r20), .val (.int mm), .val (.ref b36), .val (.ref b62), .unset] [(.int ya), (.int xa)])) t → Steps p.tables e below (s₁.setTop (entryFrame m #[(.int p0), (.int p1), (.int p2), (.int p3), (.int p4)] maxLocals)) t := fun t kt => pre111 t (by
                      show Steps p.tables e below (T80.setTop (mkF m 244 #[.val (.int p0), .val (.int p1), .val (.int p2), .val (.int p3), .val (.int p4), .val (.int l1), .val (.int sd), .val (.int sc), .val (.int md), .val (.int l2), .val (.int bb), .val (.int xa), .val (.int xb), .val (.int ya), .val (.int yb), .val (.ref r14), .val (.ref r20), .val (.int mm), .val (.ref b36), .val (.ref b62), .unset] [(.int (1 : Int32)), (.int l1)])) _
                      refine XS.icmpNo Xr80.here hx rfl (hb hby at_244) rfl (flt hc112).1 ?_
                      show Steps p.tables e below (T80.setTop (mkF m 247 #[.val (.int p0), .val (.int p1), .val (.int p2), .val (.int p3), .val (.int p4), .val (.int l1), .val (.int sd), .val (.int sc), .val (.int md), .val (.int l2), .val (.int bb), .val (.int xa), .val (.int xb), .val (.int ya), .val (.int yb), .val (.ref r14), .val (.ref r20), .val (.int mm), .val (.ref b36), .val (.ref b62), .unset] [])) _
                      refine XS.iload Xr80.here hx rfl (hb hby at_247) rfl ?_
                      show Steps p.tables e below (T80.setTop (mkF m 249 #[.val (.int p0), .val (.int p1), .val (.int p2), .val (.int p3), .val (.int p4), .val (.int l1), .val (.int sd), .val (.int sc), .val (.int md), .val (.int l2), .val (.int bb), .val (.int xa), .val (.int xb), .val (.int ya), .val (.int yb), .val (.ref r14), .val (.ref r20), .val (.int mm), .val (.ref b36), .val (.ref b62), .unset] [(.int xa)])) _
                      refine XS.iload Xr80.here hx rfl (hb hby at_249) rfl ?_
                      exact kt)
                  by_cases hc127 : xa = ya
                  · skip
                    have pre128 : ∀ t, Steps p.tables e below (T80.setTop (mkF m 257 #[.val (.int p0), .val (.int p1), .val (.int p2), .val (.int p3), .val (.int p4), .val (.int l1), .val (.int sd), .val (.int sc), .val (.int md), .val (.int l2), .val (.int bb), .val (.int xa), .val (.int xb), .val (.int ya), .val (.int yb), .val (.ref r14), .val (.ref r20), .val (.int mm), .val (.ref b36), .val (.ref b62), .unset] [(.int (2 : Int32)), (.int l1)])) t → Steps p.tables e below (s₁.setTop (entryFrame m #[(.int p0), (.int p1), (.int p2), (.int p3), (.int p4)] maxLocals)) t := fun t kt => pre126 t (by
                        show Steps p.tables e below (T80.setTop (mkF m 251 #[.val (.int p0), .val (.int p1), .val (.int p2), .val (.int p3), .val (.int p4), .val (.int l1), .val (.int sd), .val (.int sc), .val (.int md), .val (.int l2), .val (.int bb), .val (.int xa), .val (.int xb), .val (.int ya), .val (.int yb), .val (.ref r14), .val (.ref r20), .val (.int mm), .val (.ref b36), .val (.ref b62), .unset] [(.int ya), (.int xa)])) _
                        refine XS.icmpNo Xr80.here hx rfl (hb hby at_251) rfl (teq hc127).2 ?_
                        show Steps p.tables e below (T80.setTop (mkF m 254 #[.val (.int p0), .val (.int p1), .val (.int p2), .val (.int p3), .val (.int p4), .val (.int l1), .val (.int sd), .val (.int sc), .val (.int md), .val (.int l2), .val (.int bb), .val (.int xa), .val (.int xb), .val (.int ya), .val (.int yb), .val (.ref r14), .val (.ref r20), .val (.int mm), .val (.ref b36), .val (.ref b62), .unset] [])) _
                        refine XS.iload Xr80.here hx rfl (hb hby at_254) rfl ?_
                        show Steps p.tables e below (T80.setTop (mkF m 256 #[.val (.int p0), .val (.int p1), .val (.int p2), .val (.int p3), .val (.int p4), .val (.int l1), .val (.int sd), .val (.int sc), .val (.int md), .val (.int l2), .val (.int bb), .val (.int xa), .val (.int xb), .val (.int ya), .val (.int yb), .val (.ref r14), .val (.ref r20), .val (.int mm), .val (.ref b36), .val (.ref b62), .unset] [(.int l1)])) _
                        refine XS.iconst Xr80.here hx rfl (hb hby at_256) ?_
                        exact kt)
                    by_cases hc129 : l1 < (2 : Int32)
                    · skip
                      have pre130 : ∀ t, Steps p.tables e below (T80.setTop (mkF m 270 #[.val (.int p0), .val (.int p1), .val (.int p2), .val (.int p3), .val (.int p4), .val (.int l1), .val (.int sd), .val (.int sc), .val (.int md), .val (.int l2), .val (.int bb), .val (.int xa), .val (.int xb), .val (.int ya), .val (.int yb), .val (.ref r14), .val (.ref r20), .val (.int mm), .val (.ref b36), .val (.ref b62), .unset] [(.int mm), (.int p2)])) t → Steps p.tables e below (s₁.setTop (entryFrame m #[(.int p0), (.int p1), (.int p2), (.int p3), (.int p4)] maxLocals)) t := fun t kt => pre128 t (by
                          show Steps p.tables e below (T80.setTop (mkF m 257 #[.val (.int p0), .val (.int p1), .val (.int p2), .val (.int p3), .val (.int p4), .val (.int l1), .val (.int sd), .val (.int sc), .val (.int md), .val (.int l2), .val (.int bb), .val (.int xa), .val (.int xb), .val (.int ya), .val (.int yb), .val (.ref r14), .val (.ref r20), .val (.int mm), .val (.ref b36), .val (.ref b62), .unset] [(.int (2 : Int32)), (.int l1)])) _
                          refine XS.icmpYes Xr80.here hx rfl (pc0 := 257) (pc' := 267) rfl (hb hby at_257) rfl (tlt hc129).1 (by decide) (by decide) ?_
                          show Steps p.tables e below (T80.setTop (mkF m 267 #[.val (.int p0), .val (.int p1), .val (.int p2), .val (.int p3), .val (.int p4), .val (.int l1), .val (.int sd), .val (.int sc), .val (.int md), .val (.int l2), .val (.int bb), .val (.int xa), .val (.int xb), .val (.int ya), .val (.int yb), .val (.ref r14), .val (.ref r20), .val (.int mm), .val (.ref b36), .val (.ref b62), .unset] [])) _
                          refine XS.iloadN Xr80.here hx rfl (hb hby at_267) rfl ?_
                          show Steps p.tables e below (T80.setTop (mkF m 268 #[.val (.int p0), .val (.int p1), .val (.int p2), .val (.int p3), .val (.int p4), .val (.int l1), .val (.int sd), .val (.int sc), .val (.int md), .val (.int l2), .val (.int bb), .val (.int xa), .val (.int xb), .val (.int ya), .val (.int yb), .val (.ref r14), .val (.ref r20), .val (.int mm), .val (.ref b36), .val (.ref b62), .unset] [(.int p2)])) _
                          refine XS.iload Xr80.here hx rfl (hb hby at_268) rfl ?_
                          exact kt)
                      by_cases hc131 : p2 = mm
                      · skip
                        have pre132 : ∀ t, Steps p.tables e below (T80.setTop (mkF m 280 #[.val (.int p0), .val (.int p1), .val (.int p2), .val (.int p3), .val (.int p4), .val (.int l1), .val (.int sd), .val (.int sc), .val (.int md), .val (.int l2), .val (.int bb), .val (.int xa), .val (.int xb), .val (.int ya), .val (.int yb), .val (.ref r14), .val (.ref r20), .val (.int mm), .val (.ref b36), .val (.ref b62), .val (.int (1 : Int32))] [])) t → Steps p.tables e below (s₁.setTop (entryFrame m #[(.int p0), (.int p1), (.int p2), (.int p3), (.int p4)] maxLocals)) t := fun t kt => pre130 t (by
                            show Steps p.tables e below (T80.setTop (mkF m 270 #[.val (.int p0), .val (.int p1), .val (.int p2), .val (.int p3), .val (.int p4), .val (.int l1), .val (.int sd), .val (.int sc), .val (.int md), .val (.int l2), .val (.int bb), .val (.int xa), .val (.int xb), .val (.int ya), .val (.int yb), .val (.ref r14), .val (.ref r20), .val (.int mm), .val (.ref b36), .val (.ref b62), .unset] [(.int mm), (.int p2)])) _
                            refine XS.icmpNo Xr80.here hx rfl (hb hby at_270) rfl (teq hc131).2 ?_
                            show Steps p.tables e below (T80.setTop (mkF m 273 #[.val (.int p0), .val (.int p1), .val (.int p2), .val (.int p3), .val (.int p4), .val (.int l1), .val (.int sd), .val (.int sc), .val (.int md), .val (.int l2), .val (.int bb), .val (.int xa), .val (.int xb), .val (.int ya), .val (.int yb), .val (.ref r14), .val (.ref r20), .val (.int mm), .val (.ref b36), .val (.ref b62), .unset] [])) _
                            refine XS.iconst Xr80.here hx rfl (hb hby at_273) ?_
                            show Steps p.tables e below (T80.setTop (mkF m 274 #[.val (.int p0), .val (.int p1), .val (.int p2), .val (.int p3), .val (.int p4), .val (.int l1), .val (.int sd), .val (.int sc), .val (.int md), .val (.int l2), .val (.int bb), .val (.int xa), .val (.int xb), .val (.int ya), .val (.int yb), .val (.ref r14), .val (.ref r20), .val (.int mm), .val (.ref b36), .val (.ref b62), .unset] [(.int (1 : Int32))])) _
                            refine XS.goto Xr80.here hx rfl (pc0 := 274) (pc' := 278) rfl (hb hby at_274) (by decide) (by decide) ?_
                            show Steps p.tables e below (T80.setTop (mkF m 278 #[.val (.int p0), .val (.int p1), .val (.int p2), .val (.int p3), .val (.int p4), .val (.int l1), .val (.int sd), .val (.int sc), .val (.int md), .val (.int l2), .val (.int bb), .val (.int xa), .val (.int xb), .val (.int ya), .val (.int yb), .val (.ref r14), .val (.ref r20), .val (.int mm), .val (.ref b36), .val (.ref b62), .unset] [(.int (1 : Int32))])) _
                            refine XS.istore Xr80.here hx rfl (hb hby at_278) rfl (l' := #[.val (.int p0), .val (.int p1), .val (.int p2), .val (.int p3), .val (.int p4), .val (.int l1), .val (.int sd), .val (.int sc), .val (.int md), .val (.int l2), .val (.int bb), .val (.int xa), .val (.int xb), .val (.int ya), .val (.int yb), .val (.ref r14), .val (.ref r20), .val (.int mm), .val (.ref b36), .val (.ref b62), .val (.int (1 : Int32))]) rfl ?_
                            exact kt)
                        exact kk108 ⟨(1 : Int32), ⟨fun _ => rfl, fun n => absurd ⟨⟨hc110, Or.inr hc127, Or.inl hc129⟩, hc131⟩ n⟩, pre132⟩
                      · skip
                        have pre133 : ∀ t, Steps p.tables e below (T80.setTop (mkF m 280 #[.val (.int p0), .val (.int p1), .val (.int p2), .val (.int p3), .val (.int p4), .val (.int l1), .val (.int sd), .val (.int sc), .val (.int md), .val (.int l2), .val (.int bb), .val (.int xa), .val (.int xb), .val (.int ya), .val (.int yb), .val (.ref r14), .val (.ref r20), .val (.int mm), .val (.ref b36), .val (.ref b62), .val (.int (0 : Int32))] [])) t → Steps p.tables e below (s₁.setTop (entryFrame m #[(.int p0), (.int p1), (.int p2), (.int p3), (.int p4)] maxLocals)) t := fun t kt => pre130 t (by
                            show Steps p.tables e below (T80.setTop (mkF m 270 #[.val (.int p0), .val (.int p1), .val (.int p2), .val (.int p3), .val (.int p4), .val (.int l1), .val (.int sd), .val (.int sc), .val (.int md), .val (.int l2), .val (.int bb), .val (.int xa), .val (.int xb), .val (.int ya), .val (.int yb), .val (.ref r14), .val (.ref r20), .val (.int mm), .val (.ref b36), .val (.ref b62), .unset] [(.int mm), (.int p2)])) _
                            refine XS.icmpYes Xr80.here hx rfl (pc0 := 270) (pc' := 277) rfl (hb hby at_270) rfl (feq hc131).2 (by decide) (by decide) ?_
                            show Steps p.tables e below (T80.setTop (mkF m 277 #[.val (.int p0), .val (.int p1), .val (.int p2), .val (.int p3), .val (.int p4), .val (.int l1), .val (.int sd), .val (.int sc), .val (.int md), .val (.int l2), .val (.int bb), .val (.int xa), .val (.int xb), .val (.int ya), .val (.int yb), .val (.ref r14), .val (.ref r20), .val (.int mm), .val (.ref b36), .val (.ref b62), .unset] [])) _
                            refine XS.iconst Xr80.here hx rfl (hb hby at_277) ?_
                            show Steps p.tables e below (T80.setTop (mkF m 278 #[.val (.int p0), .val (.int p1), .val (.int p2), .val (.int p3), .val (.int p4), .val (.int l1), .val (.int sd), .val (.int sc), .val (.int md), .val (.int l2), .val (.int bb), .val (.int xa), .val (.int xb), .val (.int ya), .val (.int yb), .val (.ref r14), .val (.ref r20), .val (.int mm), .val (.ref b36), .val (.ref b62), .unset] [(.int (0 : Int32))])) _
                            refine XS.istore Xr80.here hx rfl (hb hby at_278) rfl (l' := #[.val (.int p0), .val (.int p1), .val (.int p2), .val (.int p3), .val (.int p4), .val (.int l1), .val (.int sd), .val (.int sc), .val (.int md), .val (.int l2), .val (.int bb), .val (.int xa), .val (.int xb), .val (.int ya), .val (.int yb), .val (.ref r14), .val (.ref r20), .val (.int mm), .val (.ref b36), .val (.ref b62), .val (.int (0 : Int32))]) rfl ?_
                            exact kt)
                        exact kk108 ⟨(0 : Int32), ⟨fun c => absurd c.2 hc131, fun _ => rfl⟩, pre133⟩
                    · skip
                      have pre134 : ∀ t, Steps p.tables e below (T80.setTop (mkF m 264 #[.val (.int p0), .val (.int p1), .val (.int p2), .val (.int p3), .val (.int p4), .val (.int l1), .val (.int sd), .val (.int sc), .val (.int md), .val (.int l2), .val (.int bb), .val (.int xa), .val (.int xb), .val (.int ya), .val (.int yb), .val (.ref r14), .val (.ref r20), .val (.int mm), .val (.ref b36), .val (.ref b62), .unset] [(.int yb), (.int xb)])) t → Steps p.tables e below (s₁.setTop (entryFrame m #[(.int p0), (.int p1), (.int p2), (.int p3), (.int p4)] maxLocals)) t := fun t kt => pre128 t (by
                          show Steps p.tables e below (T80.setTop (mkF m 257 #[.val (.int p0), .val (.int p1), .val (.int p2), .val (.int p3), .val (.int p4), .val (.int l1), .val (.int sd), .val (.int sc), .val (.int md), .val (.int l2), .val (.int bb), .val (.int xa), .val (.int xb), .val (.int ya), .val (.int yb), .val (.ref r14), .val (.ref r20), .val (.int mm), .val (.ref b36), .val (.ref b62), .unset] [(.int (2 : Int32)), (.int l1)])) _
                          refine XS.icmpNo Xr80.here hx rfl (hb hby at_257) rfl (flt hc129).1 ?_
                          show Steps p.tables e below (T80.setTop (mkF m 260 #[.val (.int p0), .val (.int p1), .val (.int p2), .val (.int p3), .val (.int p4), .val (.int l1), .val (.int sd), .val (.int sc), .val (.int md), .val (.int l2), .val (.int bb), .val (.int xa), .val (.int xb), .val (.int ya), .val (.int yb), .val (.ref r14), .val (.ref r20), .val (.int mm), .val (.ref b36), .val (.ref b62), .unset] [])) _
                          refine XS.iload Xr80.here hx rfl (hb hby at_260) rfl ?_
                          show Steps p.tables e below (T80.setTop (mkF m 262 #[.val (.int p0), .val (.int p1), .val (.int p2), .val (.int p3), .val (.int p4), .val (.int l1), .val (.int sd), .val (.int sc), .val (.int md), .val (.int l2), .val (.int bb), .val (.int xa), .val (.int xb), .val (.int ya), .val (.int yb), .val (.ref r14), .val (.ref r20), .val (.int mm), .val (.ref b36), .val (.ref b62), .unset] [(.int xb)])) _
                          refine XS.iload Xr80.here hx rfl (hb hby at_262) rfl ?_
                          exact kt)
                      by_cases hc135 : xb = yb
                      · skip
                        have pre136 : ∀ t, Steps p.tables e below (T80.setTop (mkF m 270 #[.val (.int p0), .val (.int p1), .val (.int p2), .val (.int p3), .val (.int p4), .val (.int l1), .val (.int sd), .val (.int sc), .val (.int md), .val (.int l2), .val (.int bb), .val (.int xa), .val (.int xb), .val (.int ya), .val (.int yb), .val (.ref r14), .val (.ref r20), .val (.int mm), .val (.ref b36), .val (.ref b62), .unset] [(.int mm), (.int p2)])) t → Steps p.tables e below (s₁.setTop (entryFrame m #[(.int p0), (.int p1), (.int p2), (.int p3), (.int p4)] maxLocals)) t := fun t kt => pre134 t (by
                            show Steps p.tables e below (T80.setTop (mkF m 264 #[.val (.int p0), .val (.int p1), .val (.int p2), .val (.int p3), .val (.int p4), .val (.int l1), .val (.int sd), .val (.int sc), .val (.int md), .val (.int l2), .val (.int bb), .val (.int xa), .val (.int xb), .val (.int ya), .val (.int yb), .val (.ref r14), .val (.ref r20), .val (.int mm), .val (.ref b36), .val (.ref b62), .unset] [(.int yb), (.int xb)])) _
                            refine XS.icmpNo Xr80.here hx rfl (hb hby at_264) rfl (teq hc135).2 ?_
                            show Steps p.tables e below (T80.setTop (mkF m 267 #[.val (.int p0), .val (.int p1), .val (.int p2), .val (.int p3), .val (.int p4), .val (.int l1), .val (.int sd), .val (.int sc), .val (.int md), .val (.int l2), .val (.int bb), .val (.int xa), .val (.int xb), .val (.int ya), .val (.int yb), .val (.ref r14), .val (.ref r20), .val (.int mm), .val (.ref b36), .val (.ref b62), .unset] [])) _
                            refine XS.iloadN Xr80.here hx rfl (hb hby at_267) rfl ?_
                            show Steps p.tables e below (T80.setTop (mkF m 268 #[.val (.int p0), .val (.int p1), .val (.int p2), .val (.int p3), .val (.int p4), .val (.int l1), .val (.int sd), .val (.int sc), .val (.int md), .val (.int l2), .val (.int bb), .val (.int xa), .val (.int xb), .val (.int ya), .val (.int yb), .val (.ref r14), .val (.ref r20), .val (.int mm), .val (.ref b36), .val (.ref b62), .unset] [(.int p2)])) _
                            refine XS.iload Xr80.here hx rfl (hb hby at_268) rfl ?_
                            exact kt)
                        by_cases hc137 : p2 = mm
                        · skip
                          have pre138 : ∀ t, Steps p.tables e below (T80.setTop (mkF m 280 #[.val (.int p0), .val (.int p1), .val (.int p2), .val (.int p3), .val (.int p4), .val (.int l1), .val (.int sd), .val (.int sc), .val (.int md), .val (.int l2), .val (.int bb), .val (.int xa), .val (.int xb), .val (.int ya), .val (.int yb), .val (.ref r14), .val (.ref r20), .val (.int mm), .val (.ref b36), .val (.ref b62), .val (.int (1 : Int32))] [])) t → Steps p.tables e below (s₁.setTop (entryFrame m #[(.int p0), (.int p1), (.int p2), (.int p3), (.int p4)] maxLocals)) t := fun t kt => pre136 t (by
                              show Steps p.tables e below (T80.setTop (mkF m 270 #[.val (.int p0), .val (.int p1), .val (.int p2), .val (.int p3), .val (.int p4), .val (.int l1), .val (.int sd), .val (.int sc), .val (.int md), .val (.int l2), .val (.int bb), .val (.int xa), .val (.int xb), .val (.int ya), .val (.int yb), .val (.ref r14), .val (.ref r20), .val (.int mm), .val (.ref b36), .val (.ref b62), .unset] [(.int mm), (.int p2)])) _
                              refine XS.icmpNo Xr80.here hx rfl (hb hby at_270) rfl (teq hc137).2 ?_
                              show Steps p.tables e below (T80.setTop (mkF m 273 #[.val (.int p0), .val (.int p1), .val (.int p2), .val (.int p3), .val (.int p4), .val (.int l1), .val (.int sd), .val (.int sc), .val (.int md), .val (.int l2), .val (.int bb), .val (.int xa), .val (.int xb), .val (.int ya), .val (.int yb), .val (.ref r14), .val (.ref r20), .val (.int mm), .val (.ref b36), .val (.ref b62), .unset] [])) _
                              refine XS.iconst Xr80.here hx rfl (hb hby at_273) ?_
                              show Steps p.tables e below (T80.setTop (mkF m 274 #[.val (.int p0), .val (.int p1), .val (.int p2), .val (.int p3), .val (.int p4), .val (.int l1), .val (.int sd), .val (.int sc), .val (.int md), .val (.int l2), .val (.int bb), .val (.int xa), .val (.int xb), .val (.int ya), .val (.int yb), .val (.ref r14), .val (.ref r20), .val (.int mm), .val (.ref b36), .val (.ref b62), .unset] [(.int (1 : Int32))])) _
                              refine XS.goto Xr80.here hx rfl (pc0 := 274) (pc' := 278) rfl (hb hby at_274) (by decide) (by decide) ?_
                              show Steps p.tables e below (T80.setTop (mkF m 278 #[.val (.int p0), .val (.int p1), .val (.int p2), .val (.int p3), .val (.int p4), .val (.int l1), .val (.int sd), .val (.int sc), .val (.int md), .val (.int l2), .val (.int bb), .val (.int xa), .val (.int xb), .val (.int ya), .val (.int yb), .val (.ref r14), .val (.ref r20), .val (.int mm), .val (.ref b36), .val (.ref b62), .unset] [(.int (1 : Int32))])) _
                              refine XS.istore Xr80.here hx rfl (hb hby at_278) rfl (l' := #[.val (.int p0), .val (.int p1), .val (.int p2), .val (.int p3), .val (.int p4), .val (.int l1), .val (.int sd), .val (.int sc), .val (.int md), .val (.int l2), .val (.int bb), .val (.int xa), .val (.int xb), .val (.int ya), .val (.int yb), .val (.ref r14), .val (.ref r20), .val (.int mm), .val (.ref b36), .val (.ref b62), .val (.int (1 : Int32))]) rfl ?_
                              exact kt)
                          exact kk108 ⟨(1 : Int32), ⟨fun _ => rfl, fun n => absurd ⟨⟨hc110, Or.inr hc127, Or.inr hc135⟩, hc137⟩ n⟩, pre138⟩
                        · skip
                          have pre139 : ∀ t, Steps p.tables e below (T80.setTop (mkF m 280 #[.val (.int p0), .val (.int p1), .val (.int p2), .val (.int p3), .val (.int p4), .val (.int l1), .val (.int sd), .val (.int sc), .val (.int md), .val (.int l2), .val (.int bb), .val (.int xa), .val (.int xb), .val (.int ya), .val (.int yb), .val (.ref r14), .val (.ref r20), .val (.int mm), .val (.ref b36), .val (.ref b62), .val (.int (0 : Int32))] [])) t → Steps p.tables e below (s₁.setTop (entryFrame m #[(.int p0), (.int p1), (.int p2), (.int p3), (.int p4)] maxLocals)) t := fun t kt => pre136 t (by
                              show Steps p.tables e below (T80.setTop (mkF m 270 #[.val (.int p0), .val (.int p1), .val (.int p2), .val (.int p3), .val (.int p4), .val (.int l1), .val (.int sd), .val (.int sc), .val (.int md), .val (.int l2), .val (.int bb), .val (.int xa), .val (.int xb), .val (.int ya), .val (.int yb), .val (.ref r14), .val (.ref r20), .val (.int mm), .val (.ref b36), .val (.ref b62), .unset] [(.int mm), (.int p2)])) _
                              refine XS.icmpYes Xr80.here hx rfl (pc0 := 270) (pc' := 277) rfl (hb hby at_270) rfl (feq hc137).2 (by decide) (by decide) ?_
                              show Steps p.tables e below (T80.setTop (mkF m 277 #[.val (.int p0), .val (.int p1), .val (.int p2), .val (.int p3), .val (.int p4), .val (.int l1), .val (.int sd), .val (.int sc), .val (.int md), .val (.int l2), .val (.int bb), .val (.int xa), .val (.int xb), .val (.int ya), .val (.int yb), .val (.ref r14), .val (.ref r20), .val (.int mm), .val (.ref b36), .val (.ref b62), .unset] [])) _
                              refine XS.iconst Xr80.here hx rfl (hb hby at_277) ?_
                              show Steps p.tables e below (T80.setTop (mkF m 278 #[.val (.int p0), .val (.int p1), .val (.int p2), .val (.int p3), .val (.int p4), .val (.int l1), .val (.int sd), .val (.int sc), .val (.int md), .val (.int l2), .val (.int bb), .val (.int xa), .val (.int xb), .val (.int ya), .val (.int yb), .val (.ref r14), .val (.ref r20), .val (.int mm), .val (.ref b36), .val (.ref b62), .unset] [(.int (0 : Int32))])) _
                              refine XS.istore Xr80.here hx rfl (hb hby at_278) rfl (l' := #[.val (.int p0), .val (.int p1), .val (.int p2), .val (.int p3), .val (.int p4), .val (.int l1), .val (.int sd), .val (.int sc), .val (.int md), .val (.int l2), .val (.int bb), .val (.int xa), .val (.int xb), .val (.int ya), .val (.int yb), .val (.ref r14), .val (.ref r20), .val (.int mm), .val (.ref b36), .val (.ref b62), .val (.int (0 : Int32))]) rfl ?_
                              exact kt)
                          exact kk108 ⟨(0 : Int32), ⟨fun c => absurd c.2 hc137, fun _ => rfl⟩, pre139⟩
                      · skip
                        have pre140 : ∀ t, Steps p.tables e below (T80.setTop (mkF m 280 #[.val (.int p0), .val (.int p1), .val (.int p2), .val (.int p3), .val (.int p4), .val (.int l1), .val (.int sd), .val (.int sc), .val (.int md), .val (.int l2), .val (.int bb), .val (.int xa), .val (.int xb), .val (.int ya), .val (.int yb), .val (.ref r14), .val (.ref r20), .val (.int mm), .val (.ref b36), .val (.ref b62), .val (.int (0 : Int32))] [])) t → Steps p.tables e below (s₁.setTop (entryFrame m #[(.int p0), (.int p1), (.int p2), (.int p3), (.int p4)] maxLocals)) t := fun t kt => pre134 t (by
                            show Steps p.tables e below (T80.setTop (mkF m 264 #[.val (.int p0), .val (.int p1), .val (.int p2), .val (.int p3), .val (.int p4), .val (.int l1), .val (.int sd), .val (.int sc), .val (.int md), .val (.int l2), .val (.int bb), .val (.int xa), .val (.int xb), .val (.int ya), .val (.int yb), .val (.ref r14), .val (.ref r20), .val (.int mm), .val (.ref b36), .val (.ref b62), .unset] [(.int yb), (.int xb)])) _
                            refine XS.icmpYes Xr80.here hx rfl (pc0 := 264) (pc' := 277) rfl (hb hby at_264) rfl (feq hc135).2 (by decide) (by decide) ?_
                            show Steps p.tables e below (T80.setTop (mkF m 277 #[.val (.int p0), .val (.int p1), .val (.int p2), .val (.int p3), .val (.int p4), .val (.int l1), .val (.int sd), .val (.int sc), .val (.int md), .val (.int l2), .val (.int bb), .val (.int xa), .val (.int xb), .val (.int ya), .val (.int yb), .val (.ref r14), .val (.ref r20), .val (.int mm), .val (.ref b36), .val (.ref b62), .unset] [])) _
                            refine XS.iconst Xr80.here hx rfl (hb hby at_277) ?_
                            show Steps p.tables e below (T80.setTop (mkF m 278 #[.val (.int p0), .val (.int p1), .val (.int p2), .val (.int p3), .val (.int p4), .val (.int l1), .val (.int sd), .val (.int sc), .val (.int md), .val (.int l2), .val (.int bb), .val (.int xa), .val (.int xb), .val (.int ya), .val (.int yb), .val (.ref r14), .val (.ref r20), .val (.int mm), .val (.ref b36), .val (.ref b62), .unset] [(.int (0 : Int32))])) _
                            refine XS.istore Xr80.here hx rfl (hb hby at_278) rfl (l' := #[.val (.int p0), .val (.int p1), .val (.int p2), .val (.int p3), .val (.int p4), .val (.int l1), .val (.int sd), .val (.int sc), .val (.int md), .val (.int l2), .val (.int bb), .val (.int xa), .val (.int xb), .val (.int ya), .val (.int yb), .val (.ref r14), .val (.ref r20), .val (.int mm), .val (.ref b36), .val (.ref b62), .val (.int (0 : Int32))]) rfl ?_
                            exact kt)
                        exact kk108 ⟨(0 : Int32), ⟨fun c => absurd (c.1.2.2.resolve_left hc129) hc135, fun _ => rfl⟩, pre140⟩
                  · skip
                    have pre141 : ∀ t, Steps p.tables e below (T80.setTop (mkF m 280 #[.val (.int p0), .val (.int p1), .val (.int p2), .val (.int p3), .val (.int p4), .val (.int l1), .val (.int sd), .val (.int sc), .val (.int md), .val (.int l2), .val (.int bb), .val (.int xa), .val (.int xb), .val (.int ya), .val (.int yb), .val (.ref r14), .val (.ref r20), .val (.int mm), .val (.ref b36), .val (.ref b62), .val (.int (0 : Int32))] [])) t → Steps p.tables e below (s₁.setTop (entryFrame m #[(.int p0), (.int p1), (.int p2), (.int p3), (.int p4)] maxLocals)) t := fun t kt => pre126 t (by
                        show Steps p.tables e below (T80.setTop (mkF m 251 #[.val (.int p0), .val (.int p1), .val (.int p2), .val (.int p3), .val (.int p4), .val (.int l1), .val (.int sd), .val (.int sc), .val (.int md), .val (.int l2), .val (.int bb), .val (.int xa), .val (.int xb), .val (.int ya), .val (.int yb), .val (.ref r14), .val (.ref r20), .val (.int mm), .val (.ref b36), .val (.ref b62), .unset] [(.int ya), (.int xa)])) _
                        refine XS.icmpYes Xr80.here hx rfl (pc0 := 251) (pc' := 277) rfl (hb hby at_251) rfl (feq hc127).2 (by decide) (by decide) ?_
                        show Steps p.tables e below (T80.setTop (mkF m 277 #[.val (.int p0), .val (.int p1), .val (.int p2), .val (.int p3), .val (.int p4), .val (.int l1), .val (.int sd), .val (.int sc), .val (.int md), .val (.int l2), .val (.int bb), .val (.int xa), .val (.int xb), .val (.int ya), .val (.int yb), .val (.ref r14), .val (.ref r20), .val (.int mm), .val (.ref b36), .val (.ref b62), .unset] [])) _
                        refine XS.iconst Xr80.here hx rfl (hb hby at_277) ?_
                        show Steps p.tables e below (T80.setTop (mkF m 278 #[.val (.int p0), .val (.int p1), .val (.int p2), .val (.int p3), .val (.int p4), .val (.int l1), .val (.int sd), .val (.int sc), .val (.int md), .val (.int l2), .val (.int bb), .val (.int xa), .val (.int xb), .val (.int ya), .val (.int yb), .val (.ref r14), .val (.ref r20), .val (.int mm), .val (.ref b36), .val (.ref b62), .unset] [(.int (0 : Int32))])) _
                        refine XS.istore Xr80.here hx rfl (hb hby at_278) rfl (l' := #[.val (.int p0), .val (.int p1), .val (.int p2), .val (.int p3), .val (.int p4), .val (.int l1), .val (.int sd), .val (.int sc), .val (.int md), .val (.int l2), .val (.int bb), .val (.int xa), .val (.int xb), .val (.int ya), .val (.int yb), .val (.ref r14), .val (.ref r20), .val (.int mm), .val (.ref b36), .val (.ref b62), .val (.int (0 : Int32))]) rfl ?_
                        exact kt)
                    exact kk108 ⟨(0 : Int32), ⟨fun c => absurd (c.1.2.1.resolve_left hc112) hc127, fun _ => rfl⟩, pre141⟩
              · skip
                have pre142 : ∀ t, Steps p.tables e below (T80.setTop (mkF m 280 #[.val (.int p0), .val (.int p1), .val (.int p2), .val (.int p3), .val (.int p4), .val (.int l1), .val (.int sd), .val (.int sc), .val (.int md), .val (.int l2), .val (.int bb), .val (.int xa), .val (.int xb), .val (.int ya), .val (.int yb), .val (.ref r14), .val (.ref r20), .val (.int mm), .val (.ref b36), .val (.ref b62), .val (.int (0 : Int32))] [])) t → Steps p.tables e below (s₁.setTop (entryFrame m #[(.int p0), (.int p1), (.int p2), (.int p3), (.int p4)] maxLocals)) t := fun t kt => pre109 t (by
                    show Steps p.tables e below (T80.setTop (mkF m 238 #[.val (.int p0), .val (.int p1), .val (.int p2), .val (.int p3), .val (.int p4), .val (.int l1), .val (.int sd), .val (.int sc), .val (.int md), .val (.int l2), .val (.int bb), .val (.int xa), .val (.int xb), .val (.int ya), .val (.int yb), .val (.ref r14), .val (.ref r20), .val (.int mm), .val (.ref b36), .val (.ref b62), .unset] [(.int l2), (.int l1)])) _
                    refine XS.icmpYes Xr80.here hx rfl (pc0 := 238) (pc' := 277) rfl (hb hby at_238) rfl (feq hc110).2 (by decide) (by decide) ?_
                    show Steps p.tables e below (T80.setTop (mkF m 277 #[.val (.int p0), .val (.int p1), .val (.int p2), .val (.int p3), .val (.int p4), .val (.int l1), .val (.int sd), .val (.int sc), .val (.int md), .val (.int l2), .val (.int bb), .val (.int xa), .val (.int xb), .val (.int ya), .val (.int yb), .val (.ref r14), .val (.ref r20), .val (.int mm), .val (.ref b36), .val (.ref b62), .unset] [])) _
                    refine XS.iconst Xr80.here hx rfl (hb hby at_277) ?_
                    show Steps p.tables e below (T80.setTop (mkF m 278 #[.val (.int p0), .val (.int p1), .val (.int p2), .val (.int p3), .val (.int p4), .val (.int l1), .val (.int sd), .val (.int sc), .val (.int md), .val (.int l2), .val (.int bb), .val (.int xa), .val (.int xb), .val (.int ya), .val (.int yb), .val (.ref r14), .val (.ref r20), .val (.int mm), .val (.ref b36), .val (.ref b62), .unset] [(.int (0 : Int32))])) _
                    refine XS.istore Xr80.here hx rfl (hb hby at_278) rfl (l' := #[.val (.int p0), .val (.int p1), .val (.int p2), .val (.int p3), .val (.int p4), .val (.int l1), .val (.int sd), .val (.int sc), .val (.int md), .val (.int l2), .val (.int bb), .val (.int xa), .val (.int xb), .val (.int ya), .val (.int yb), .val (.ref r14), .val (.ref r20), .val (.int mm), .val (.ref b36), .val (.ref b62), .val (.int (0 : Int32))]) rfl ?_
                    exact kt)
                exact kk108 ⟨(0 : Int32), ⟨fun c => absurd c.1.1 hc110, fun _ => rfl⟩, pre142⟩
            · skip
              obtain ⟨ex, hrel, pre143⟩ := hA
              obtain ⟨cq144, kq144, q144a, q144b, q144c⟩ := isOf hZ80 rfl f90
              obtain ⟨_, _, ⟨T144, L144, k144, n144⟩, -, X144, ⟨Lc144, hQ144, l144, y144, z144⟩, st144⟩ := Xr80.virtualBack hx (y := (⟨"com/example/gibbon/gibbon/search/Occurrences", "equals", "(Ljava/lang/Object;)Z"⟩ : MethodName)) (z := (⟨"com/example/gibbon/gibbon/search/Occurrences", "equals", "(Ljava/lang/Object;)Z"⟩ : MethodName)) hown80 (mvT hZ80 (hw _ (List.mem_of_getElem? (i := 43) rfl))) (mvT hZ80 (hw _ (List.mem_of_getElem? (i := 44) rfl))) (notFace_of_selects (args := #[]) (mvT hZ80 (hw _ (List.mem_of_getElem? (i := 46) rfl)))) (mvT hZ80 (hw _ (List.mem_of_getElem? (i := 46) rfl))) (mvT hZ80 (hw _ (List.mem_of_getElem? (i := 45) rfl))) (by decide) (backOf (W := 0) (rmEQ l Z aw hw [] b36 b62 r14 r20 p2 mm vb15 vb21 kb16 kb22 l1 l2 xa xb ya yb w_COMPACT_STRINGS_1 T80.heap n0 (Nat.le_trans (Nat.le_trans (Nat.le_trans (Nat.le_trans (Nat.le_trans (Nat.le_trans Z0 c13_0.1) c19_0.1) E36.1) c50_0.1) E62.1) c80_0.1) hl1 hxa hxb hya hyb (Nat.ne_of_lt (Nat.lt_of_lt_of_le m13_1.lt m19_0)) c80_1 f91 c80_2 f92 c80_3 f82 f86 f84 f88 f83 f87 f85 f89 f81 hne_1) hZ80 (hw _ (List.mem_of_getElem? (i := 47) rfl)) (hw _ (List.mem_of_getElem? (i := 28) rfl)) (by decide) (by decide)) q144a q144c (g := (mkF m 284 #[.val (.int p0), .val (.int p1), .val (.int p2), .val (.int p3), .val (.int p4), .val (.int l1), .val (.int sd), .val (.int sc), .val (.int md), .val (.int l2), .val (.int bb), .val (.int xa), .val (.int xb), .val (.int ya), .val (.int yb), .val (.ref r14), .val (.ref r20), .val (.int mm), .val (.ref b36), .val (.ref b62), .val (.int ex)] [(.ref b62), (.ref b36)])) rfl (by rw [hml]; rfl) (Steps.refl _) (argsL := [(.ref b62)]) (rest := []) (lenOf pd_11 rfl) rfl (by show 2 * 0 + _ ≤ _; exact Nat.le_of_eq rfl) (hb hby at_284) (fun _ _ => ⟨rfl, rfl, (by decide : 18 + 0 ≤ _), (by decide : 100 + 0 ≤ _)⟩)
              dsimp only [Pt.U, Pt.locs, Pt.cells, Pt.slots] at X144 l144 y144 z144 st144 hQ144
              subst l144 y144 z144
              obtain ⟨⟨r145, rfl, Pr145⟩, Nq144, e144⟩ := hQ144
              have N144 := Fr.app N80 Nq144
              have pre146 : ∀ t, Steps p.tables e below (T144.setTop (mkF m 287 #[.val (.int p0), .val (.int p1), .val (.int p2), .val (.int p3), .val (.int p4), .val (.int l1), .val (.int sd), .val (.int sc), .val (.int md), .val (.int l2), .val (.int bb), .val (.int xa), .val (.int xb), .val (.int ya), .val (.int yb), .val (.ref r14), .val (.ref r20), .val (.int mm), .val (.ref b36), .val (.ref b62), .val (.int ex)] [(.int r145)])) t → Steps p.tables e below (s₁.setTop (entryFrame m #[(.int p0), (.int p1), (.int p2), (.int p3), (.int p4)] maxLocals)) t := fun t kt => pre143 t (by
                  show Steps p.tables e below (T80.setTop (mkF m 280 #[.val (.int p0), .val (.int p1), .val (.int p2), .val (.int p3), .val (.int p4), .val (.int l1), .val (.int sd), .val (.int sc), .val (.int md), .val (.int l2), .val (.int bb), .val (.int xa), .val (.int xb), .val (.int ya), .val (.int yb), .val (.ref r14), .val (.ref r20), .val (.int mm), .val (.ref b36), .val (.ref b62), .val (.int ex)] [])) _
                  refine XS.aload Xr80.here hx rfl (hb hby at_280) rfl rfl ?_
                  show Steps p.tables e below (T80.setTop (mkF m 282 #[.val (.int p0), .val (.int p1), .val (.int p2), .val (.int p3), .val (.int p4), .val (.int l1), .val (.int sd), .val (.int sc), .val (.int md), .val (.int l2), .val (.int bb), .val (.int xa), .val (.int xb), .val (.int ya), .val (.int yb), .val (.ref r14), .val (.ref r20), .val (.int mm), .val (.ref b36), .val (.ref b62), .val (.int ex)] [(.ref b36)])) _
                  refine XS.aload Xr80.here hx rfl (hb hby at_282) rfl rfl ?_
                  show Steps p.tables e below (T80.setTop (mkF m 284 #[.val (.int p0), .val (.int p1), .val (.int p2), .val (.int p3), .val (.int p4), .val (.int l1), .val (.int sd), .val (.int sc), .val (.int md), .val (.int l2), .val (.int bb), .val (.int xa), .val (.int xb), .val (.int ya), .val (.int yb), .val (.ref r14), .val (.ref r20), .val (.int mm), .val (.ref b36), .val (.ref b62), .val (.int ex)] [(.ref b62), (.ref b36)])) _
                  refine st144.trans ?_
                  exact kt)
              by_cases hD147 : ((l1 = l2 ∧ (l1 < (1 : Int32) ∨ xa = ya) ∧ (l1 < (2 : Int32) ∨ xb = yb)) ∧ p2 = mm)
              · skip
                obtain rfl : (1 : Int32) = r145 := Pr145.1 hD147
                obtain rfl : (1 : Int32) = ex := hrel.1 hD147
                obtain ⟨cq148, kq148, q148a, q148b, q148c⟩ := isOf hZ80 e144 c80_1
                obtain ⟨_, _, ⟨T148, L148, k148, n148⟩, -, X148, ⟨Lc148, hQ148, l148, y148, z148⟩, st148⟩ := X144.virtualBack hx (y := (⟨"com/example/gibbon/gibbon/search/Occurrences", "equals", "(Ljava/lang/Object;)Z"⟩ : MethodName)) (z := (⟨"com/example/gibbon/gibbon/search/Occurrences", "equals", "(Ljava/lang/Object;)Z"⟩ : MethodName)) hown80 (mvT hZ80 (hw _ (List.mem_of_getElem? (i := 43) rfl))) (mvT hZ80 (hw _ (List.mem_of_getElem? (i := 44) rfl))) (notFace_of_selects (args := #[]) (mvT hZ80 (hw _ (List.mem_of_getElem? (i := 46) rfl)))) (mvT hZ80 (hw _ (List.mem_of_getElem? (i := 46) rfl))) (mvT hZ80 (hw _ (List.mem_of_getElem? (i := 45) rfl))) (by decide) (backOf (W := 0) (rmEQ l Z aw hw [] b62 b36 r20 r14 mm p2 vb21 vb15 kb22 kb16 l2 l1 ya yb xa xb w_COMPACT_STRINGS_1 T80.heap n0 (Nat.le_trans (Nat.le_trans (Nat.le_trans (Nat.le_trans (Nat.le_trans (Nat.le_trans Z0 c13_0.1) c19_0.1) E36.1) c50_0.1) E62.1) c80_0.1) hl2 hya hyb hxa hxb (Nat.ne_of_gt (Nat.lt_of_lt_of_le m13_1.lt m19_0)) f90 c80_2 f91 c80_3 f92 f86 f82 f88 f84 f87 f83 f89 f85 f81 hne_1) hZ80 (hw _ (List.mem_of_getElem? (i := 47) rfl)) (hw _ (List.mem_of_getElem? (i := 28) rfl)) (by decide) (by decide)) q148a q148c (g := (mkF m 296 #[.val (.int p0), .val (.int p1), .val (.int p2), .val (.int p3), .val (.int p4), .val (.int l1), .val (.int sd), .val (.int sc), .val (.int md), .val (.int l2), .val (.int bb), .val (.int xa), .val (.int xb), .val (.int ya), .val (.int yb), .val (.ref r14), .val (.ref r20), .val (.int mm), .val (.ref b36), .val (.ref b62), .val (.int (1 : Int32))] [(.ref b36), (.ref b62)])) rfl (by rw [hml]; rfl) (Steps.refl _) (argsL := [(.ref b36)]) (rest := []) (lenOf pd_11 rfl) rfl (by show 2 * 0 + _ ≤ _; exact Nat.le_of_eq rfl) (hb hby at_296) (fun _ _ => ⟨rfl, e144, (by decide : 18 + 0 ≤ _), (by decide : 100 + 0 ≤ _)⟩)
                dsimp only [Pt.U, Pt.locs, Pt.cells, Pt.slots] at X148 l148 y148 z148 st148 hQ148
                subst l148 y148 z148
                obtain ⟨⟨r149, rfl, Pr149⟩, Nq148, e148⟩ := hQ148
                have N148 := Fr.app N144 Nq148
                have pre150 : ∀ t, Steps p.tables e below (T148.setTop (mkF m 299 #[.val (.int p0), .val (.int p1), .val (.int p2), .val (.int p3), .val (.int p4), .val (.int l1), .val (.int sd), .val (.int sc), .val (.int md), .val (.int l2), .val (.int bb), .val (.int xa), .val (.int xb), .val (.int ya), .val (.int yb), .val (.ref r14), .val (.ref r20), .val (.int mm), .val (.ref b36), .val (.ref b62), .val (.int (1 : Int32))] [(.int r149)])) t → Steps p.tables e below (s₁.setTop (entryFrame m #[(.int p0), (.int p1), (.int p2), (.int p3), (.int p4)] maxLocals)) t := fun t kt => pre146 t (by
                    show Steps p.tables e below (T144.setTop (mkF m 287 #[.val (.int p0), .val (.int p1), .val (.int p2), .val (.int p3), .val (.int p4), .val (.int l1), .val (.int sd), .val (.int sc), .val (.int md), .val (.int l2), .val (.int bb), .val (.int xa), .val (.int xb), .val (.int ya), .val (.int yb), .val (.ref r14), .val (.ref r20), .val (.int mm), .val (.ref b36), .val (.ref b62), .val (.int (1 : Int32))] [(.int (1 : Int32))])) _
                    refine XS.iload X144.here hx rfl (hb hby at_287) rfl ?_
                    show Steps p.tables e below (T144.setTop (mkF m 289 #[.val (.int p0), .val (.int p1), .val (.int p2), .val (.int p3), .val (.int p4), .val (.int l1), .val (.int sd), .val (.int sc), .val (.int md), .val (.int l2), .val (.int bb), .val (.int xa), .val (.int xb), .val (.int ya), .val (.int yb), .val (.ref r14), .val (.ref r20), .val (.int mm), .val (.ref b36), .val (.ref b62), .val (.int (1 : Int32))] [(.int (1 : Int32)), (.int (1 : Int32))])) _
                    refine XS.icmpNo X144.here hx rfl (hb hby at_289) rfl (teq (rfl : (1 : Int32) = (1 : Int32))).2 ?_
                    show Steps p.tables e below (T144.setTop (mkF m 292 #[.val (.int p0), .val (.int p1), .val (.int p2), .val (.int p3), .val (.int p4), .val (.int l1), .val (.int sd), .val (.int sc), .val (.int md), .val (.int l2), .val (.int bb), .val (.int xa), .val (.int xb), .val (.int ya), .val (.int yb), .val (.ref r14), .val (.ref r20), .val (.int mm), .val (.ref b36), .val (.ref b62), .val (.int (1 : Int32))] [])) _
                    refine XS.aload X144.here hx rfl (hb hby at_292) rfl rfl ?_
                    show Steps p.tables e below (T144.setTop (mkF m 294 #[.val (.int p0), .val (.int p1), .val (.int p2), .val (.int p3), .val (.int p4), .val (.int l1), .val (.int sd), .val (.int sc), .val (.int md), .val (.int l2), .val (.int bb), .val (.int xa), .val (.int xb), .val (.int ya), .val (.int yb), .val (.ref r14), .val (.ref r20), .val (.int mm), .val (.ref b36), .val (.ref b62), .val (.int (1 : Int32))] [(.ref b62)])) _
                    refine XS.aload X144.here hx rfl (hb hby at_294) rfl rfl ?_
                    show Steps p.tables e below (T144.setTop (mkF m 296 #[.val (.int p0), .val (.int p1), .val (.int p2), .val (.int p3), .val (.int p4), .val (.int l1), .val (.int sd), .val (.int sc), .val (.int md), .val (.int l2), .val (.int bb), .val (.int xa), .val (.int xb), .val (.int ya), .val (.int yb), .val (.ref r14), .val (.ref r20), .val (.int mm), .val (.ref b36), .val (.ref b62), .val (.int (1 : Int32))] [(.ref b36), (.ref b62)])) _
                    refine st148.trans ?_
                    exact kt)
                obtain rfl : (1 : Int32) = r149 := Pr149.1 (own_sym hD147)
                have pre151 : ∀ t, Steps p.tables e below (T148.setTop (mkF m 309 #[.val (.int p0), .val (.int p1), .val (.int p2), .val (.int p3), .val (.int p4), .val (.int l1), .val (.int sd), .val (.int sc), .val (.int md), .val (.int l2), .val (.int bb), .val (.int xa), .val (.int xb), .val (.int ya), .val (.int yb), .val (.ref r14), .val (.ref r20), .val (.int mm), .val (.ref b36), .val (.ref b62), .val (.int (1 : Int32))] [(.int (1 : Int32))])) t → Steps p.tables e below (s₁.setTop (entryFrame m #[(.int p0), (.int p1), (.int p2), (.int p3), (.int p4)] maxLocals)) t := fun t kt => pre150 t (by
                    show Steps p.tables e below (T148.setTop (mkF m 299 #[.val (.int p0), .val (.int p1), .val (.int p2), .val (.int p3), .val (.int p4), .val (.int l1), .val (.int sd), .val (.int sc), .val (.int md), .val (.int l2), .val (.int bb), .val (.int xa), .val (.int xb), .val (.int ya), .val (.int yb), .val (.ref r14), .val (.ref r20), .val (.int mm), .val (.ref b36), .val (.ref b62), .val (.int (1 : Int32))] [(.int (1 : Int32))])) _
                    refine XS.iload X148.here hx rfl (hb hby at_299) rfl ?_
                    show Steps p.tables e below (T148.setTop (mkF m 301 #[.val (.int p0), .val (.int p1), .val (.int p2), .val (.int p3), .val (.int p4), .val (.int l1), .val (.int sd), .val (.int sc), .val (.int md), .val (.int l2), .val (.int bb), .val (.int xa), .val (.int xb), .val (.int ya), .val (.int yb), .val (.ref r14), .val (.ref r20), .val (.int mm), .val (.ref b36), .val (.ref b62), .val (.int (1 : Int32))] [(.int (1 : Int32)), (.int (1 : Int32))])) _
                    refine XS.icmpNo X148.here hx rfl (hb hby at_301) rfl (teq (rfl : (1 : Int32) = (1 : Int32))).2 ?_
                    show Steps p.tables e below (T148.setTop (mkF m 304 #[.val (.int p0), .val (.int p1), .val (.int p2), .val (.int p3), .val (.int p4), .val (.int l1), .val (.int sd), .val (.int sc), .val (.int md), .val (.int l2), .val (.int bb), .val (.int xa), .val (.int xb), .val (.int ya), .val (.int yb), .val (.ref r14), .val (.ref r20), .val (.int mm), .val (.ref b36), .val (.ref b62), .val (.int (1 : Int32))] [])) _
                    refine XS.iconst X148.here hx rfl (hb hby at_304) ?_
                    show Steps p.tables e below (T148.setTop (mkF m 305 #[.val (.int p0), .val (.int p1), .val (.int p2), .val (.int p3), .val (.int p4), .val (.int l1), .val (.int sd), .val (.int sc), .val (.int md), .val (.int l2), .val (.int bb), .val (.int xa), .val (.int xb), .val (.int ya), .val (.int yb), .val (.ref r14), .val (.ref r20), .val (.int mm), .val (.ref b36), .val (.ref b62), .val (.int (1 : Int32))] [(.int (1 : Int32))])) _
                    refine XS.goto X148.here hx rfl (pc0 := 305) (pc' := 309) rfl (hb hby at_305) (by decide) (by decide) ?_
                    exact kt)
                obtain ⟨fs, hr, hrun, hended, hRE⟩ := X148.leaveW hS80 (by rw [e148]; exact (Nat.le_refl _)) (v := some (.int (1 : Int32))) (fun h => by rw [Bd.returns] at h; cases h)
                have hCR : CHr Z consts_1 s.vm s.heap T148.vm T148.heap := by rw [e148, hh]; exact CHr.trans CR80 (CHv.at X148 hZ80 hEL hCq80.1)
                refine ⟨_, _, pre151 _ ?_, hrun, hended, _, _, rfl, ?_, hCR, own_mono hRE (by decide) (by decide)⟩
                · show Steps p.tables e below (T148.setTop (mkF m 309 #[.val (.int p0), .val (.int p1), .val (.int p2), .val (.int p3), .val (.int p4), .val (.int l1), .val (.int sd), .val (.int sc), .val (.int md), .val (.int l2), .val (.int bb), .val (.int xa), .val (.int xb), .val (.int ya), .val (.int yb), .val (.ref r14), .val (.ref r20), .val (.int mm), .val (.ref b36), .val (.ref b62), .val (.int (1 : Int32))] [(.int (1 : Int32))])) _
                  exact retN X148 hx (t := .boolean) Bd.returns (by simp) (hb hby at_309) hr
                · show Q0 Z _ _ _ _ _ _ h0 n0 _ T148.heap _
                  rw [e148]
                  exact ⟨rfl, N148, trivial⟩
              · skip
                obtain rfl : (0 : Int32) = r145 := Pr145.2 hD147
                obtain rfl : (0 : Int32) = ex := hrel.2 hD147
                obtain ⟨cq152, kq152, q152a, q152b, q152c⟩ := isOf hZ80 e144 c80_1
                obtain ⟨_, _, ⟨T152, L152, k152, n152⟩, -, X152, ⟨Lc152, hQ152, l152, y152, z152⟩, st152⟩ := X144.virtualBack hx (y := (⟨"com/example/gibbon/gibbon/search/Occurrences", "equals", "(Ljava/lang/Object;)Z"⟩ : MethodName)) (z := (⟨"com/example/gibbon/gibbon/search/Occurrences", "equals", "(Ljava/lang/Object;)Z"⟩ : MethodName)) hown80 (mvT hZ80 (hw _ (List.mem_of_getElem? (i := 43) rfl))) (mvT hZ80 (hw _ (List.mem_of_getElem? (i := 44) rfl))) (notFace_of_selects (args := #[]) (mvT hZ80 (hw _ (List.mem_of_getElem? (i := 46) rfl)))) (mvT hZ80 (hw _ (List.mem_of_getElem? (i := 46) rfl))) (mvT hZ80 (hw _ (List.mem_of_getElem? (i := 45) rfl))) (by decide) (backOf (W := 0) (rmEQ l Z aw hw [] b62 b36 r20 r14 mm p2 vb21 vb15 kb22 kb16 l2 l1 ya yb xa xb w_COMPACT_STRINGS_1 T80.heap n0 (Nat.le_trans (Nat.le_trans (Nat.le_trans (Nat.le_trans (Nat.le_trans (Nat.le_trans Z0 c13_0.1) c19_0.1) E36.1) c50_0.1) E62.1) c80_0.1) hl2 hya hyb hxa hxb (Nat.ne_of_gt (Nat.lt_of_lt_of_le m13_1.lt m19_0)) f90 c80_2 f91 c80_3 f92 f86 f82 f88 f84 f87 f83 f89 f85 f81 hne_1) hZ80 (hw _ (List.mem_of_getElem? (i := 47) rfl)) (hw _ (List.mem_of_getElem? (i := 28) rfl)) (by decide) (by decide)) q152a q152c (g := (mkF m 296 #[.val (.int p0), .val (.int p1), .val (.int p2), .val (.int p3), .val (.int p4), .val (.int l1), .val (.int sd), .val (.int sc), .val (.int md), .val (.int l2), .val (.int bb), .val (.int xa), .val (.int xb), .val (.int ya), .val (.int yb), .val (.ref r14), .val (.ref r20), .val (.int mm), .val (.ref b36), .val (.ref b62), .val (.int (0 : Int32))] [(.ref b36), (.ref b62)])) rfl (by rw [hml]; rfl) (Steps.refl _) (argsL := [(.ref b36)]) (rest := []) (lenOf pd_11 rfl) rfl (by show 2 * 0 + _ ≤ _; exact Nat.le_of_eq rfl) (hb hby at_296) (fun _ _ => ⟨rfl, e144, (by decide : 18 + 0 ≤ _), (by decide : 100 + 0 ≤ _)⟩)
                dsimp only [Pt.U, Pt.locs, Pt.cells, Pt.slots] at X152 l152 y152 z152 st152 hQ152
                subst l152 y152 z152
                obtain ⟨⟨r153, rfl, Pr153⟩, Nq152, e152⟩ := hQ152
                have N152 := Fr.app N144 Nq152
                have pre154 : ∀ t, Steps p.tables e below (T152.setTop (mkF m 299 #[.val (.int p0), .val (.int p1), .val (.int p2), .val (.int p3), .val (.int p4), .val (.int l1), .val (.int sd), .val (.int sc), .val (.int md), .val (.int l2), .val (.int bb), .val (.int xa), .val (.int xb), .val (.int ya), .val (.int yb), .val (.ref r14), .val (.ref r20), .val (.int mm), .val (.ref b36), .val (.ref b62), .val (.int (0 : Int32))] [(.int r153)])) t → Steps p.tables e below (s₁.setTop (entryFrame m #[(.int p0), (.int p1), (.int p2), (.int p3), (.int p4)] maxLocals)) t := fun t kt => pre146 t (by
                    show Steps p.tables e below (T144.setTop (mkF m 287 #[.val (.int p0), .val (.int p1), .val (.int p2), .val (.int p3), .val (.int p4), .val (.int l1), .val (.int sd), .val (.int sc), .val (.int md), .val (.int l2), .val (.int bb), .val (.int xa), .val (.int xb), .val (.int ya), .val (.int yb), .val (.ref r14), .val (.ref r20), .val (.int mm), .val (.ref b36), .val (.ref b62), .val (.int (0 : Int32))] [(.int (0 : Int32))])) _
                    refine XS.iload X144.here hx rfl (hb hby at_287) rfl ?_
                    show Steps p.tables e below (T144.setTop (mkF m 289 #[.val (.int p0), .val (.int p1), .val (.int p2), .val (.int p3), .val (.int p4), .val (.int l1), .val (.int sd), .val (.int sc), .val (.int md), .val (.int l2), .val (.int bb), .val (.int xa), .val (.int xb), .val (.int ya), .val (.int yb), .val (.ref r14), .val (.ref r20), .val (.int mm), .val (.ref b36), .val (.ref b62), .val (.int (0 : Int32))] [(.int (0 : Int32)), (.int (0 : Int32))])) _
                    refine XS.icmpNo X144.here hx rfl (hb hby at_289) rfl (teq (rfl : (0 : Int32) = (0 : Int32))).2 ?_
                    show Steps p.tables e below (T144.setTop (mkF m 292 #[.val (.int p0), .val (.int p1), .val (.int p2), .val (.int p3), .val (.int p4), .val (.int l1), .val (.int sd), .val (.int sc), .val (.int md), .val (.int l2), .val (.int bb), .val (.int xa), .val (.int xb), .val (.int ya), .val (.int yb), .val (.ref r14), .val (.ref r20), .val (.int mm), .val (.ref b36), .val (.ref b62), .val (.int (0 : Int32))] [])) _
                    refine XS.aload X144.here hx rfl (hb hby at_292) rfl rfl ?_
                    show Steps p.tables e below (T144.setTop (mkF m 294 #[.val (.int p0), .val (.int p1), .val (.int p2), .val (.int p3), .val (.int p4), .val (.int l1), .val (.int sd), .val (.int sc), .val (.int md), .val (.int l2), .val (.int bb), .val (.int xa), .val (.int xb), .val (.int ya), .val (.int yb), .val (.ref r14), .val (.ref r20), .val (.int mm), .val (.ref b36), .val (.ref b62), .val (.int (0 : Int32))] [(.ref b62)])) _
                    refine XS.aload X144.here hx rfl (hb hby at_294) rfl rfl ?_
                    show Steps p.tables e below (T144.setTop (mkF m 296 #[.val (.int p0), .val (.int p1), .val (.int p2), .val (.int p3), .val (.int p4), .val (.int l1), .val (.int sd), .val (.int sc), .val (.int md), .val (.int l2), .val (.int bb), .val (.int xa), .val (.int xb), .val (.int ya), .val (.int yb), .val (.ref r14), .val (.ref r20), .val (.int mm), .val (.ref b36), .val (.ref b62), .val (.int (0 : Int32))] [(.ref b36), (.ref b62)])) _
                    refine st152.trans ?_
                    exact kt)
                obtain rfl : (0 : Int32) = r153 := Pr153.2 (fun q => hD147 (own_sym q))
                have pre155 : ∀ t, Steps p.tables e below (T152.setTop (mkF m 309 #[.val (.int p0), .val (.int p1), .val (.int p2), .val (.int p3), .val (.int p4), .val (.int l1), .val (.int sd), .val (.int sc), .val (.int md), .val (.int l2), .val (.int bb), .val (.int xa), .val (.int xb), .val (.int ya), .val (.int yb), .val (.ref r14), .val (.ref r20), .val (.int mm), .val (.ref b36), .val (.ref b62), .val (.int (0 : Int32))] [(.int (1 : Int32))])) t → Steps p.tables e below (s₁.setTop (entryFrame m #[(.int p0), (.int p1), (.int p2), (.int p3), (.int p4)] maxLocals)) t := fun t kt => pre154 t (by
                    show Steps p.tables e below (T152.setTop (mkF m 299 #[.val (.int p0), .val (.int p1), .val (.int p2), .val (.int p3), .val (.int p4), .val (.int l1), .val (.int sd), .val (.int sc), .val (.int md), .val (.int l2), .val (.int bb), .val (.int xa), .val (.int xb), .val (.int ya), .val (.int yb), .val (.ref r14), .val (.ref r20), .val (.int mm), .val (.ref b36), .val (.ref b62), .val (.int (0 : Int32))] [(.int (0 : Int32))])) _
                    refine XS.iload X152.here hx rfl (hb hby at_299) rfl ?_
                    show Steps p.tables e below (T152.setTop (mkF m 301 #[.val (.int p0), .val (.int p1), .val (.int p2), .val (.int p3), .val (.int p4), .val (.int l1), .val (.int sd), .val (.int sc), .val (.int md), .val (.int l2), .val (.int bb), .val (.int xa), .val (.int xb), .val (.int ya), .val (.int yb), .val (.ref r14), .val (.ref r20), .val (.int mm), .val (.ref b36), .val (.ref b62), .val (.int (0 : Int32))] [(.int (0 : Int32)), (.int (0 : Int32))])) _
                    refine XS.icmpNo X152.here hx rfl (hb hby at_301) rfl (teq (rfl : (0 : Int32) = (0 : Int32))).2 ?_
                    show Steps p.tables e below (T152.setTop (mkF m 304 #[.val (.int p0), .val (.int p1), .val (.int p2), .val (.int p3), .val (.int p4), .val (.int l1), .val (.int sd), .val (.int sc), .val (.int md), .val (.int l2), .val (.int bb), .val (.int xa), .val (.int xb), .val (.int ya), .val (.int yb), .val (.ref r14), .val (.ref r20), .val (.int mm), .val (.ref b36), .val (.ref b62), .val (.int (0 : Int32))] [])) _
                    refine XS.iconst X152.here hx rfl (hb hby at_304) ?_
                    show Steps p.tables e below (T152.setTop (mkF m 305 #[.val (.int p0), .val (.int p1), .val (.int p2), .val (.int p3), .val (.int p4), .val (.int l1), .val (.int sd), .val (.int sc), .val (.int md), .val (.int l2), .val (.int bb), .val (.int xa), .val (.int xb), .val (.int ya), .val (.int yb), .val (.ref r14), .val (.ref r20), .val (.int mm), .val (.ref b36), .val (.ref b62), .val (.int (0 : Int32))] [(.int (1 : Int32))])) _
                    refine XS.goto X152.here hx rfl (pc0 := 305) (pc' := 309) rfl (hb hby at_305) (by decide) (by decide) ?_
                    exact kt)
                obtain ⟨fs, hr, hrun, hended, hRE⟩ := X152.leaveW hS80 (by rw [e152]; exact (Nat.le_refl _)) (v := some (.int (1 : Int32))) (fun h => by rw [Bd.returns] at h; cases h)
                have hCR : CHr Z consts_1 s.vm s.heap T152.vm T152.heap := by rw [e152, hh]; exact CHr.trans CR80 (CHv.at X152 hZ80 hEL hCq80.1)
                refine ⟨_, _, pre155 _ ?_, hrun, hended, _, _, rfl, ?_, hCR, own_mono hRE (by decide) (by decide)⟩
                · show Steps p.tables e below (T152.setTop (mkF m 309 #[.val (.int p0), .val (.int p1), .val (.int p2), .val (.int p3), .val (.int p4), .val (.int l1), .val (.int sd), .val (.int sc), .val (.int md), .val (.int l2), .val (.int bb), .val (.int xa), .val (.int xb), .val (.int ya), .val (.int yb), .val (.ref r14), .val (.ref r20), .val (.int mm), .val (.ref b36), .val (.ref b62), .val (.int (0 : Int32))] [(.int (1 : Int32))])) _
                  exact retN X152 hx (t := .boolean) Bd.returns (by simp) (hb hby at_309) hr
                · show Q0 Z _ _ _ _ _ _ h0 n0 _ T152.heap _
                  rw [e152]
                  exact ⟨rfl, N152, trivial⟩
set_option maxRecDepth 65536 in
set_option maxHeartbeats 40000000 in
theorem comes_1 {Post : Tables → Env → Array Value → State → Outcome → State → Prop} (hpost : ∀ tb e args s v u, (limb_1_1.after args s (.returned v) u = true ∧ limb_1_2.after args s (.returned v) u = true ∧ True) → ReturnedEndW s (.returned v) u (Jvm.fieldLocs frame_1_writes args s ++ Jvm.arrayLocs frame_1_arrays args s ++ Jvm.staticLocs frame_1_statics s) 32 2176 → Post tb e args s (.returned v) u) :
    ArmFor flags0 classFile x code maxLocals ret World_1 tables_1 room_1 Calls_1 rest_1 Pre_1 Post := by
  intro l hfl _ _ p e ha hc hk s m args below hf hA hF happ hP
  obtain ⟨hcalls, hrest, hpre⟩ := hP
  obtain ⟨-, -, -, hnamed, -, -, -, hat⟩ := (Spec.applies_iff hf).mp happ
  obtain ⟨hg, hn⟩ := and_e (Cond.before_iff.mp (show (Jvm.Cond.and given_1 narrow_1).before args s = true from hpre))
  obtain ⟨hg0, hgr0⟩ := and_e hg
  obtain ⟨hg1, hgr1⟩ := and_e hgr0
  obtain ⟨hg2, hgr2⟩ := and_e hgr1
  obtain ⟨hg3, hgr3⟩ := and_e hgr2
  obtain ⟨hg4, hgr4⟩ := and_e hgr3
  obtain ⟨w0, w1, w2, w3, w4, rfl⟩ : ∃ w0 w1 w2 w3 w4 : Value, args = #[w0, w1, w2, w3, w4] := by
    have hs : args.size = 5 := by simpa [Cond.value, given_1] using hg0
    obtain ⟨L⟩ := args
    match L, hs with
    | [w0, w1, w2, w3, w4], _ => exact ⟨w0, w1, w2, w3, w4, rfl⟩
  have hw := fun d (hd : d ∈ tables_1) => atoms_spec (ws := Jvm.Cond.code x code maxLocals ret :: tables_1) hat d (List.mem_cons_of_mem _ hd)
  have hfit : Fit s := fun {y c} hc i hi => by
    obtain ⟨ha, rfl⟩ := Array.getElem?_eq_some_iff.mp hc
    have q := List.all_eq_true.mp ((Array.all_eq_true_iff_forall_mem.mp hF) _ (Array.getElem_mem ha)) i (List.mem_range.mpr hi)
    simpa [Array.getElem?_eq_getElem hi] using q
  obtain ⟨hsets, hown0⟩ := atoms_of _ (rest_1_c_eq ▸ (show rest_1_c.before _ s = true from hrest))
  obtain ⟨i0, ei0⟩ := is_v hg1
  obtain rfl : w0 = (.int i0) := Option.some.inj ei0
  obtain ⟨i1, ei1⟩ := is_v hg2
  obtain rfl : w1 = (.int i1) := Option.some.inj ei1
  obtain ⟨i2, ei2⟩ := is_v hg3
  obtain rfl : w2 = (.int i2) := Option.some.inj ei2
  obtain ⟨i3, ei3⟩ := is_v hg4
  obtain rfl : w3 = (.int i3) := Option.some.inj ei3
  obtain ⟨i4, ei4⟩ := is_v hgr4
  obtain rfl : w4 = (.int i4) := Option.some.inj ei4
  obtain ⟨w_COMPACT_STRINGS_1, ev2⟩ := is_v (Cond.before_iff.mp (hsets _ (List.mem_of_getElem? (i := 1) rfl)))
  have S_COMPACT_STRINGS_0 : Sta s s.heap "java/lang/String" "COMPACT_STRINGS" "Z" (.int w_COMPACT_STRINGS_1) := Sta.start ev2 (Or.inl (hsets _ (List.mem_of_getElem? (i := 0) rfl)))
  have hne_1 : ¬ w_COMPACT_STRINGS_1 = (0 : Int32) := own_neI (Cond.before_iff.mp (hsets _ (List.mem_of_getElem? (i := 2) rfl))) ev2
  have hCH : CHv s consts_1 s.vm s.heap := CHv.start (own_EW hw) hcalls.1 (hsets _ (List.mem_of_getElem? (i := 2) rfl)) (hw _ (List.mem_of_getElem? (i := 19) rfl)) (hw _ (List.mem_of_getElem? (i := 5) rfl))
  obtain ⟨n, o, h1, h2, h3, _, L, rfl, ⟨rfl, N, -⟩, -, hq⟩ := rm0 l s _ hw tables_1 i0 i1 i2 i3 i4 w_COMPACT_STRINGS_1 s.heap s.heap.size (Nat.le_refl _) S_COMPACT_STRINGS_0 hne_1 p e ha hc hk s m _ below hf ((Spec.applies_iff_loose hf).mp happ).1 ⟨rfl, State.Warmed39.refl s, rfl, hCH⟩ trivial
  refine ⟨n, _, h1, h2, h3, hpost _ _ _ _ _ _ ⟨Cond.after_iff.mpr rfl, Cond.after_iff.mpr (eq_i res_at (Term.int_eval (1)) rfl), trivial⟩ ⟨hq.1, hq.2.1, hq.2.2.1, (hq.2.2.2.sift fun y hy => Or.inr (N y hy)).mono (by decide) (by decide)⟩⟩
theorem main_1_1 : Claimed_1_1 := comes_1 fun _ _ _ _ _ _ h hF => ⟨h.1, hF⟩
theorem main_1_2 : Claimed_1_2 := comes_1 fun _ _ _ _ _ _ h hF => ⟨h.2.1, hF⟩
end Jvm.Pilot.@@N@@
namespace Jvm.Pilot.@@N@@
open Jvm Jvm.ClassFile Sem Op Lib Jvm.Free Jvm.Stand Jvm.Pilot.@@N@@.Jvm.D
/-! MADE BY PROGRAM (witnessworld.py) out of the Statement's table words and the real class files: 21 classes; the members and pool entries that the words name. The judged class is class 1, her method 1. -/
namespace start1
open Jvm.ClassFile
def u (s : String) : CpInfo := .utf8 (stringToUtf16 s)
/-- a pool by its gaps: so many unusable entries, then the entry; so many at the end -/
def gap : Nat → List CpInfo → List CpInfo
  | 0, r => r
  | n + 1, r => .unusable :: gap n r
def poolList (es : List (Nat × CpInfo)) (last : Nat) : List CpInfo := es.foldr (fun e r => gap e.1 (e.2 :: r)) (gap last [])
def pool (es : List (Nat × CpInfo)) (last : Nat) : Array CpInfo := ⟨poolList es last⟩
def fileOf (pool : Array CpInfo) (this : Nat) (attrs : Array Attribute := #[]) (ms : Array MethodInfo := #[]) (fl : Nat := 33) (sup : Nat := 0) (ifs : Array Nat := #[]) (fds : Array FieldInfo := #[]) : ClassFile where
  minorVersion := 0
  majorVersion := 65
  constantPool := pool
  accessFlags := fl
  thisClass := this
  superClass := sup
  interfaces := ifs
  fields := fds
  methods := ms
  attributes := attrs
def plain (name : String) (sup : Option ClassId) : Class where
  name := name
  kind := .ordinary
  loader := none
  accessFlags := 33
  super := sup
  interfaces := #[]
  cf := none
  fields := #[]
  methods := #[]
  instanceTypes := #[]
  staticTypes := #[]
  resolved := #[]
  callSites := []
  init := .initialized
  statics := none
  mirror := none

def pool0 : Array CpInfo := pool [(5, u "<init>"), (0, u "()V"), (1, .class_ 10), (1, u "java/lang/Object")] 113

def k0c0 : Code := { maxStack := 0, maxLocals := 1, code := object_method_1_code, exceptionTable := #[], attributes := #[] }
def k0m0 : Method := { name := "<init>", desc := "()V", sig := { parameters := [], returnType := none }, accessFlags := 1, code := some k0c0 }
/-- java/lang/Object -/
def k0 : Class := { plain "java/lang/Object" none with
  accessFlags := 33
  interfaces := #[]
  cf := some (fileOf pool0 8 #[] #[{ accessFlags := 1, nameIndex := 5, descriptorIndex := 6, attributes := #[] }] 33 0 #[] #[])
  fields := #[]
  methods := #[k0m0]
  instanceTypes := #[]
  staticTypes := #[]
  resolved := Array.replicate 124 none
  statics := none }

def pool1 : Array CpInfo := pool [(2, .class_ 4), (1, u "java/lang/Object"), (0, u "<init>"), (0, u "()V"), (0, .methodref 8 9), (0, .class_ 10), (0, .nameAndType 11 12), (0, u "com/example/gibbon/gibbon/search/OccurrencesEqualsPinLaw"), (0, u "mk"), (0, u "(ICC)Ljava/lang/String;"), (0, .class_ 14), (0, u "com/example/gibbon/gibbon/search/Occurrences"), (0, .methodref 13 16), (0, .nameAndType 5 17), (0, u "(Ljava/lang/String;I)V"), (0, .methodref 13 19), (0, .nameAndType 20 21), (0, u "equals"), (0, u "(Ljava/lang/Object;)Z"), (0, .class_ 23), (0, u "java/lang/String"), (0, .methodref 22 25), (0, .nameAndType 5 26), (0, u "([C)V"), (0, .methodref 22 28), (0, .nameAndType 29 30), (0, u "valueOf"), (0, u "(C)Ljava/lang/String;"), (2, u "law"), (0, u "(IIIII)Z")] 3

def k1m0 : Method := { name := "<init>", desc := "()V", sig := { parameters := [], returnType := none }, accessFlags := 1, code := none }
def k1c1 : Code := { maxStack := 4, maxLocals := 21, code := code, exceptionTable := #[], attributes := #[] }
def k1m1 : Method := { name := "law", desc := "(IIIII)Z", sig := { parameters := [.int, .int, .int, .int, .int], returnType := some .boolean }, accessFlags := 9, code := some k1c1 }
def k1c2 : Code := { maxStack := 3, maxLocals := 4, code := method_3_code, exceptionTable := #[], attributes := #[] }
def k1m2 : Method := { name := "mk", desc := "(ICC)Ljava/lang/String;", sig := { parameters := [.int, .char, .char], returnType := some (.object "java/lang/String") }, accessFlags := 10, code := some k1c2 }
/-- com/example/gibbon/gibbon/search/OccurrencesEqualsPinLaw -/
def k1 : Class := { plain "com/example/gibbon/gibbon/search/OccurrencesEqualsPinLaw" (some 0) with
  accessFlags := 49
  interfaces := #[]
  cf := some (fileOf pool1 8 #[] #[{ accessFlags := 1, nameIndex := 5, descriptorIndex := 6, attributes := #[] }, { accessFlags := 9, nameIndex := 33, descriptorIndex := 34, attributes := #[] }, { accessFlags := 10, nameIndex := 11, descriptorIndex := 12, attributes := #[] }] 49 2 #[] #[])
  fields := #[]
  methods := #[k1m0, k1m1, k1m2]
  instanceTypes := #[]
  staticTypes := #[]
  resolved := Array.replicate 38 none
  statics := none }

def pool2 : Array CpInfo := pool [(1, .class_ 2), (0, u "java/io/Serializable"), (0, .class_ 4), (0, u "java/lang/Object")] 2

/-- java/io/Serializable -/
def k2 : Class := { plain "java/io/Serializable" (some 0) with
  accessFlags := 1537
  interfaces := #[]
  cf := some (fileOf pool2 1 #[] #[] 1537 3 #[] #[])
  fields := #[]
  methods := #[]
  instanceTypes := #[]
  staticTypes := #[]
  resolved := Array.replicate 7 none
  statics := none }

def pool3 : Array CpInfo := pool [(1, .class_ 2), (0, u "java/lang/Comparable"), (0, .class_ 4), (0, u "java/lang/Object")] 7

/-- java/lang/Comparable -/
def k3 : Class := { plain "java/lang/Comparable" (some 0) with
  accessFlags := 1537
  interfaces := #[]
  cf := some (fileOf pool3 1 #[] #[] 1537 3 #[] #[])
  fields := #[]
  methods := #[]
  instanceTypes := #[]
  staticTypes := #[]
  resolved := Array.replicate 12 none
  statics := none }

def pool4 : Array CpInfo := pool [(2, .class_ 4), (1, u "java/lang/CharSequence"), (42, .class_ 48), (0, u "java/lang/CharSequence$1CodePointIterator"), (10, .class_ 60), (0, u "java/lang/CharSequence$1CharIterator"), (5, .class_ 67), (0, u "java/lang/Object")] 63

/-- java/lang/CharSequence -/
def k4 : Class := { plain "java/lang/CharSequence" (some 0) with
  accessFlags := 1537
  interfaces := #[]
  cf := some (fileOf pool4 2 #[.nestMembers #[47, 59]] #[] 1537 66 #[] #[])
  fields := #[]
  methods := #[]
  instanceTypes := #[]
  staticTypes := #[]
  resolved := Array.replicate 131 none
  statics := none }

def pool5 : Array CpInfo := pool [(1, .class_ 2), (0, u "java/lang/constant/Constable"), (0, .class_ 4), (0, u "java/lang/Object")] 6

/-- java/lang/constant/Constable -/
def k5 : Class := { plain "java/lang/constant/Constable" (some 0) with
  accessFlags := 1537
  interfaces := #[]
  cf := some (fileOf pool5 1 #[] #[] 1537 3 #[] #[])
  fields := #[]
  methods := #[]
  instanceTypes := #[]
  staticTypes := #[]
  resolved := Array.replicate 11 none
  statics := none }

def pool6 : Array CpInfo := pool [(1, .class_ 2), (0, u "java/lang/constant/ConstantDesc"), (0, .class_ 4), (0, u "java/lang/Object")] 32

/-- java/lang/constant/ConstantDesc -/
def k6 : Class := { plain "java/lang/constant/ConstantDesc" (some 0) with
  accessFlags := 1537
  interfaces := #[]
  cf := some (fileOf pool6 1 #[] #[] 1537 3 #[] #[])
  fields := #[]
  methods := #[]
  instanceTypes := #[]
  staticTypes := #[]
  resolved := Array.replicate 37 none
  statics := none }

def pool7 : Array CpInfo := pool [(1, .methodref 2 3), (0, .class_ 4), (0, .nameAndType 5 6), (0, u "java/lang/Object"), (0, u "<init>"), (0, u "()V"), (0, .string 8), (0, u ""), (0, .fieldref 10 11), (0, .class_ 12), (0, .nameAndType 13 14), (0, u "java/lang/String"), (0, u "value"), (0, u "[B"), (0, .fieldref 10 16), (0, .nameAndType 17 18), (0, u "coder"), (0, u "B"), (2, u "hash"), (0, u "I"), (2, u "hashIsZero"), (0, u "Z"), (0, .methodref 10 28), (0, .nameAndType 5 29), (0, u "([CIILjava/lang/Void;)V"), (8, .fieldref 10 39), (0, .nameAndType 40 26), (0, u "COMPACT_STRINGS"), (1, .class_ 44), (1, u "java/lang/StringUTF16"), (0, u "compress"), (1, .methodref 42 48), (0, .nameAndType 49 50), (0, u "coderFromArrayLen"), (0, u "([BI)B"), (2, u "toBytes"), (53, .class_ 109), (1, u "java/lang/StringLatin1"), (67, .methodref 42 178), (0, .nameAndType 45 179), (0, u "([CII)[B"), (29, .methodref 10 210), (0, .nameAndType 5 211), (0, u "([BB)V"), (157, u "(C)Z"), (171, .methodref 107 542), (0, .nameAndType 543 544), (0, u "equals"), (0, u "([B[B)Z"), (28, u "(Ljava/lang/Object;)Z"), (1, .class_ 576), (0, u "java/lang/CharSequence"), (22, u "CASE_INSENSITIVE_ORDER"), (0, u "Ljava/util/Comparator;"), (181, u "valueOf"), (0, u "(C)Ljava/lang/String;"), (226, u "([C)V"), (4, .methodref 107 1016), (0, .nameAndType 1017 369), (0, u "canEncode"), (0, .methodref 107 1019), (0, .nameAndType 53 1020), (0, u "(C)[B"), (80, u "serialPersistentFields"), (0, u "[Ljava/io/ObjectStreamField;"), (0, .class_ 1104), (0, u "java/lang/String$CaseInsensitiveComparator"), (1, .class_ 1107), (0, u "java/io/Serializable"), (0, .class_ 1109), (0, u "java/lang/Comparable"), (0, .class_ 1111), (0, u "java/lang/constant/Constable"), (0, .class_ 1113), (0, u "java/lang/constant/ConstantDesc"), (2, u "serialVersionUID"), (0, u "J"), (3, u "REPL"), (0, u "C"), (2, u "LATIN1"), (1, u "UTF16")] 323

def k7m0 : Method := { name := "<init>", desc := "()V", sig := { parameters := [], returnType := none }, accessFlags := 1, code := none }
def k7c1 : Code := { maxStack := 5, maxLocals := 2, code := jdk_42_method_3_code, exceptionTable := #[], attributes := #[] }
def k7m1 : Method := { name := "<init>", desc := "([C)V", sig := { parameters := [(.array .char)], returnType := none }, accessFlags := 1, code := some k7c1 }
def k7c2 : Code := { maxStack := 2, maxLocals := 3, code := jdk_42_method_66_code, exceptionTable := #[], attributes := #[] }
def k7m2 : Method := { name := "equals", desc := "(Ljava/lang/Object;)Z", sig := { parameters := [(.object "java/lang/Object")], returnType := some .boolean }, accessFlags := 1, code := some k7c2 }
def k7c3 : Code := { maxStack := 4, maxLocals := 1, code := jdk_42_method_139_code, exceptionTable := #[], attributes := #[] }
def k7m3 : Method := { name := "valueOf", desc := "(C)Ljava/lang/String;", sig := { parameters := [.char], returnType := some (.object "java/lang/String") }, accessFlags := 9, code := some k7c3 }
def k7c4 : Code := { maxStack := 4, maxLocals := 6, code := jdk_42_method_149_code, exceptionTable := #[], attributes := #[] }
def k7m4 : Method := { name := "<init>", desc := "([CIILjava/lang/Void;)V", sig := { parameters := [(.array .char), .int, .int, (.object "java/lang/Void")], returnType := none }, accessFlags := 2, code := some k7c4 }
def k7c5 : Code := { maxStack := 2, maxLocals := 3, code := jdk_42_method_151_code, exceptionTable := #[], attributes := #[] }
def k7m5 : Method := { name := "<init>", desc := "([BB)V", sig := { parameters := [(.array .byte), .byte], returnType := none }, accessFlags := 0, code := some k7c5 }
/-- java/lang/String -/
def k7 : Class := { plain "java/lang/String" (some 0) with
  accessFlags := 49
  interfaces := #[2, 3, 4, 5, 6]
  cf := some (fileOf pool7 10 #[.nestMembers #[1103]] #[{ accessFlags := 1, nameIndex := 5, descriptorIndex := 6, attributes := #[] }, { accessFlags := 1, nameIndex := 5, descriptorIndex := 1010, attributes := #[] }, { accessFlags := 1, nameIndex := 543, descriptorIndex := 573, attributes := #[] }, { accessFlags := 9, nameIndex := 782, descriptorIndex := 783, attributes := #[] }, { accessFlags := 2, nameIndex := 5, descriptorIndex := 29, attributes := #[] }, { accessFlags := 0, nameIndex := 5, descriptorIndex := 211, attributes := #[] }] 49 2 #[1106, 1108, 575, 1110, 1112] #[{ accessFlags := 18, nameIndex := 13, descriptorIndex := 14, attributes := #[] }, { accessFlags := 18, nameIndex := 17, descriptorIndex := 18, attributes := #[] }, { accessFlags := 2, nameIndex := 21, descriptorIndex := 22, attributes := #[] }, { accessFlags := 2, nameIndex := 25, descriptorIndex := 26, attributes := #[] }, { accessFlags := 26, nameIndex := 1116, descriptorIndex := 1117, attributes := #[] }, { accessFlags := 24, nameIndex := 40, descriptorIndex := 26, attributes := #[] }, { accessFlags := 26, nameIndex := 1101, descriptorIndex := 1102, attributes := #[] }, { accessFlags := 26, nameIndex := 1121, descriptorIndex := 1122, attributes := #[] }, { accessFlags := 25, nameIndex := 599, descriptorIndex := 600, attributes := #[] }, { accessFlags := 24, nameIndex := 1125, descriptorIndex := 18, attributes := #[] }, { accessFlags := 24, nameIndex := 1127, descriptorIndex := 18, attributes := #[] }])
  fields := #[{ name := "value", type := (.array .byte), accessFlags := 18, slot := 0, constantValue := 0 }, { name := "coder", type := .byte, accessFlags := 18, slot := 1, constantValue := 0 }, { name := "hash", type := .int, accessFlags := 2, slot := 2, constantValue := 0 }, { name := "hashIsZero", type := .boolean, accessFlags := 2, slot := 3, constantValue := 0 }, { name := "serialVersionUID", type := .long, accessFlags := 26, slot := 0, constantValue := 0 }, { name := "COMPACT_STRINGS", type := .boolean, accessFlags := 24, slot := 1, constantValue := 0 }, { name := "serialPersistentFields", type := (.array (.object "java/io/ObjectStreamField")), accessFlags := 26, slot := 2, constantValue := 0 }, { name := "REPL", type := .char, accessFlags := 26, slot := 3, constantValue := 0 }, { name := "CASE_INSENSITIVE_ORDER", type := (.object "java/util/Comparator"), accessFlags := 25, slot := 4, constantValue := 0 }, { name := "LATIN1", type := .byte, accessFlags := 24, slot := 5, constantValue := 0 }, { name := "UTF16", type := .byte, accessFlags := 24, slot := 6, constantValue := 0 }]
  methods := #[k7m0, k7m1, k7m2, k7m3, k7m4, k7m5]
  instanceTypes := #[(.array .byte), .byte, .int, .boolean]
  staticTypes := #[.long, .boolean, (.array (.object "java/io/ObjectStreamField")), .char, (.object "java/util/Comparator"), .byte, .byte]
  resolved := Array.replicate 1451 none
  statics := some 0 }

def pool8 : Array CpInfo := pool [(1, .methodref 2 3), (0, .class_ 4), (0, .nameAndType 5 6), (0, u "java/lang/Object"), (0, u "<init>"), (0, u "()V"), (0, .string 8), (0, u "document"), (0, .methodref 10 11), (0, .class_ 12), (0, .nameAndType 13 14), (0, u "java/util/Objects"), (0, u "requireNonNull"), (0, u "(Ljava/lang/Object;Ljava/lang/String;)Ljava/lang/Object;"), (0, .class_ 16), (0, u "java/lang/String"), (0, .fieldref 18 19), (0, .class_ 20), (0, .nameAndType 8 21), (0, u "com/example/gibbon/gibbon/search/Occurrences"), (0, u "Ljava/lang/String;"), (0, .fieldref 18 23), (0, .nameAndType 24 25), (0, u "count"), (0, u "I"), (0, .methodref 15 27), (0, .nameAndType 28 29), (0, u "equals"), (0, u "(Ljava/lang/Object;)Z"), (14, u "(Ljava/lang/String;I)V")] 24

def k8c0 : Code := { maxStack := 3, maxLocals := 3, code := prog_42_method_1_code, exceptionTable := #[], attributes := #[] }
def k8m0 : Method := { name := "<init>", desc := "(Ljava/lang/String;I)V", sig := { parameters := [(.object "java/lang/String"), .int], returnType := none }, accessFlags := 1, code := some k8c0 }
def k8c1 : Code := { maxStack := 2, maxLocals := 3, code := prog_42_method_4_code, exceptionTable := #[], attributes := #[] }
def k8m1 : Method := { name := "equals", desc := "(Ljava/lang/Object;)Z", sig := { parameters := [(.object "java/lang/Object")], returnType := some .boolean }, accessFlags := 1, code := some k8c1 }
/-- com/example/gibbon/gibbon/search/Occurrences -/
def k8 : Class := { plain "com/example/gibbon/gibbon/search/Occurrences" (some 0) with
  accessFlags := 49
  interfaces := #[]
  cf := some (fileOf pool8 18 #[] #[{ accessFlags := 1, nameIndex := 5, descriptorIndex := 44, attributes := #[] }, { accessFlags := 1, nameIndex := 28, descriptorIndex := 29, attributes := #[] }] 49 2 #[] #[{ accessFlags := 18, nameIndex := 8, descriptorIndex := 21, attributes := #[] }, { accessFlags := 18, nameIndex := 24, descriptorIndex := 25, attributes := #[] }])
  fields := #[{ name := "document", type := (.object "java/lang/String"), accessFlags := 18, slot := 0, constantValue := 0 }, { name := "count", type := .int, accessFlags := 18, slot := 1, constantValue := 0 }]
  methods := #[k8m0, k8m1]
  instanceTypes := #[(.object "java/lang/String"), .int]
  staticTypes := #[]
  resolved := Array.replicate 69 none
  statics := none }

def pool9 : Array CpInfo := pool [(2, .class_ 4), (1, u "java/lang/Object"), (0, u "<init>"), (0, u "()V"), (35, .class_ 44), (1, u "java/util/Objects"), (0, u "requireNonNull"), (48, u "(Ljava/lang/Object;Ljava/lang/String;)Ljava/lang/Object;")] 89

def k9m0 : Method := { name := "<init>", desc := "()V", sig := { parameters := [], returnType := none }, accessFlags := 2, code := none }
def k9c1 : Code := { maxStack := 3, maxLocals := 2, code := jdk_31_method_11_code, exceptionTable := #[], attributes := #[] }
def k9m1 : Method := { name := "requireNonNull", desc := "(Ljava/lang/Object;Ljava/lang/String;)Ljava/lang/Object;", sig := { parameters := [(.object "java/lang/Object"), (.object "java/lang/String")], returnType := some (.object "java/lang/Object") }, accessFlags := 9, code := some k9c1 }
/-- java/util/Objects -/
def k9 : Class := { plain "java/util/Objects" (some 0) with
  accessFlags := 49
  interfaces := #[]
  cf := some (fileOf pool9 42 #[] #[{ accessFlags := 2, nameIndex := 5, descriptorIndex := 6, attributes := #[] }, { accessFlags := 9, nameIndex := 45, descriptorIndex := 94, attributes := #[] }] 49 2 #[] #[])
  fields := #[]
  methods := #[k9m0, k9m1]
  instanceTypes := #[]
  staticTypes := #[]
  resolved := Array.replicate 184 none
  statics := none }

def pool10 : Array CpInfo := pool [(4, .class_ 6), (1, u "java/lang/Object"), (0, u "<init>"), (0, u "()V"), (5, .class_ 16), (1, u "java/lang/StringLatin1"), (73, u "canEncode"), (14, u "(C)Z"), (15, u "$assertionsDisabled"), (0, u "Z"), (98, .class_ 223), (1, u "java/lang/StringLatin1$LinesSpliterator"), (57, u "equals"), (0, u "([B[B)Z"), (97, u "toBytes"), (1, u "(C)[B"), (7, .class_ 391), (0, u "java/lang/StringLatin1$CharsSpliterator")] 3

def k10m0 : Method := { name := "<init>", desc := "()V", sig := { parameters := [], returnType := none }, accessFlags := 0, code := none }
def k10c1 : Code := { maxStack := 2, maxLocals := 1, code := jdk_43_method_3_code, exceptionTable := #[], attributes := #[] }
def k10m1 : Method := { name := "canEncode", desc := "(C)Z", sig := { parameters := [.char], returnType := some .boolean }, accessFlags := 9, code := some k10c1 }
def k10c2 : Code := { maxStack := 3, maxLocals := 3, code := jdk_43_method_13_code, exceptionTable := #[], attributes := #[] }
def k10m2 : Method := { name := "equals", desc := "([B[B)Z", sig := { parameters := [(.array .byte), (.array .byte)], returnType := some .boolean }, accessFlags := 9, code := some k10c2 }
def k10c3 : Code := { maxStack := 4, maxLocals := 1, code := jdk_43_method_46_code, exceptionTable := #[], attributes := #[] }
def k10m3 : Method := { name := "toBytes", desc := "(C)[B", sig := { parameters := [.char], returnType := some (.array .byte) }, accessFlags := 9, code := some k10c3 }
/-- java/lang/StringLatin1 -/
def k10 : Class := { plain "java/lang/StringLatin1" (some 0) with
  accessFlags := 48
  interfaces := #[]
  cf := some (fileOf pool10 14 #[.nestMembers #[390, 221]] #[{ accessFlags := 0, nameIndex := 7, descriptorIndex := 8, attributes := #[] }, { accessFlags := 9, nameIndex := 90, descriptorIndex := 105, attributes := #[] }, { accessFlags := 9, nameIndex := 281, descriptorIndex := 282, attributes := #[] }, { accessFlags := 9, nameIndex := 380, descriptorIndex := 382, attributes := #[] }] 48 4 #[] #[{ accessFlags := 4120, nameIndex := 121, descriptorIndex := 122, attributes := #[] }])
  fields := #[{ name := "$assertionsDisabled", type := .boolean, accessFlags := 4120, slot := 0, constantValue := 0 }]
  methods := #[k10m0, k10m1, k10m2, k10m3]
  instanceTypes := #[]
  staticTypes := #[.boolean]
  resolved := Array.replicate 395 none
  statics := none }

def pool11 : Array CpInfo := pool [(6, .class_ 8), (1, u "java/lang/Object"), (0, u "<init>"), (0, u "()V"), (1, .class_ 14), (1, u "java/lang/StringUTF16"), (31, u "$assertionsDisabled"), (0, u "Z"), (13, u "HI_BYTE_SHIFT"), (0, u "I"), (2, u "LO_BYTE_SHIFT"), (49, .methodref 12 116), (0, .nameAndType 117 118), (0, u "compress"), (0, u "([CI[BII)I"), (3, u "([CII)[B"), (138, u "coderFromArrayLen"), (0, u "([BI)B"), (106, .class_ 371), (1, u "java/lang/StringUTF16$LinesSpliterator"), (58, u "MAX_LENGTH"), (196, .class_ 628), (0, u "java/lang/StringUTF16$CodePointsSpliterator"), (0, .class_ 630), (0, u "java/lang/StringUTF16$CharsSpliterator")] 4

def k11m0 : Method := { name := "<init>", desc := "()V", sig := { parameters := [], returnType := none }, accessFlags := 0, code := none }
def k11c1 : Code := { maxStack := 2, maxLocals := 2, code := jdk_52_method_15_code, exceptionTable := #[], attributes := #[] }
def k11m1 : Method := { name := "coderFromArrayLen", desc := "([BI)B", sig := { parameters := [(.array .byte), .int], returnType := some .byte }, accessFlags := 8, code := some k11c1 }
def k11c2 : Code := { maxStack := 5, maxLocals := 6, code := jdk_52_method_16_code, exceptionTable := #[], attributes := #[] }
def k11m2 : Method := { name := "compress", desc := "([CII)[B", sig := { parameters := [(.array .char), .int, .int], returnType := some (.array .byte) }, accessFlags := 9, code := some k11c2 }
def k11c3 : Code := { maxStack := 3, maxLocals := 7, code := jdk_52_method_21_code, exceptionTable := #[], attributes := #[] }
def k11m3 : Method := { name := "compress", desc := "([CI[BII)I", sig := { parameters := [(.array .char), .int, (.array .byte), .int, .int], returnType := some .int }, accessFlags := 9, code := some k11c3 }
/-- java/lang/StringUTF16 -/
def k11 : Class := { plain "java/lang/StringUTF16" (some 0) with
  accessFlags := 48
  interfaces := #[]
  cf := some (fileOf pool11 12 #[.nestMembers #[627, 629, 369]] #[{ accessFlags := 0, nameIndex := 9, descriptorIndex := 10, attributes := #[] }, { accessFlags := 8, nameIndex := 261, descriptorIndex := 262, attributes := #[] }, { accessFlags := 9, nameIndex := 117, descriptorIndex := 122, attributes := #[] }, { accessFlags := 9, nameIndex := 117, descriptorIndex := 118, attributes := #[] }] 48 6 #[] #[{ accessFlags := 26, nameIndex := 61, descriptorIndex := 62, attributes := #[] }, { accessFlags := 26, nameIndex := 65, descriptorIndex := 62, attributes := #[] }, { accessFlags := 24, nameIndex := 430, descriptorIndex := 62, attributes := #[] }, { accessFlags := 4120, nameIndex := 46, descriptorIndex := 47, attributes := #[] }])
  fields := #[{ name := "HI_BYTE_SHIFT", type := .int, accessFlags := 26, slot := 0, constantValue := 0 }, { name := "LO_BYTE_SHIFT", type := .int, accessFlags := 26, slot := 1, constantValue := 0 }, { name := "MAX_LENGTH", type := .int, accessFlags := 24, slot := 2, constantValue := 0 }, { name := "$assertionsDisabled", type := .boolean, accessFlags := 4120, slot := 3, constantValue := 0 }]
  methods := #[k11m0, k11m1, k11m2, k11m3]
  instanceTypes := #[]
  staticTypes := #[.int, .int, .int, .boolean]
  resolved := Array.replicate 635 none
  statics := none }

def pool12 : Array CpInfo := pool [(2, .class_ 4), (1, u "java/lang/Object"), (0, u "<init>"), (0, u "()V"), (17, .class_ 26), (1, u "jdk/internal/util/Preconditions"), (28, .class_ 56), (0, u "jdk/internal/util/Preconditions$4"), (57, .class_ 115), (0, u "jdk/internal/util/Preconditions$1"), (7, u "SIOOBE_FORMATTER"), (0, u "Ljava/util/function/BiFunction;"), (0, .class_ 126), (0, u "jdk/internal/util/Preconditions$2"), (3, u "AIOOBE_FORMATTER"), (0, .class_ 132), (0, u "jdk/internal/util/Preconditions$3"), (3, u "IOOBE_FORMATTER")] 57

def k12m0 : Method := { name := "<init>", desc := "()V", sig := { parameters := [], returnType := none }, accessFlags := 1, code := none }
/-- jdk/internal/util/Preconditions -/
def k12 : Class := { plain "jdk/internal/util/Preconditions" (some 0) with
  accessFlags := 33
  interfaces := #[]
  cf := some (fileOf pool12 24 #[.nestMembers #[55, 131, 125, 114]] #[{ accessFlags := 1, nameIndex := 5, descriptorIndex := 6, attributes := #[] }] 33 2 #[] #[{ accessFlags := 25, nameIndex := 123, descriptorIndex := 124, attributes := #[] }, { accessFlags := 25, nameIndex := 130, descriptorIndex := 124, attributes := #[] }, { accessFlags := 25, nameIndex := 136, descriptorIndex := 124, attributes := #[] }])
  fields := #[{ name := "SIOOBE_FORMATTER", type := (.object "java/util/function/BiFunction"), accessFlags := 25, slot := 0, constantValue := 0 }, { name := "AIOOBE_FORMATTER", type := (.object "java/util/function/BiFunction"), accessFlags := 25, slot := 1, constantValue := 0 }, { name := "IOOBE_FORMATTER", type := (.object "java/util/function/BiFunction"), accessFlags := 25, slot := 2, constantValue := 0 }]
  methods := #[k12m0]
  instanceTypes := #[]
  staticTypes := #[(.object "java/util/function/BiFunction"), (.object "java/util/function/BiFunction"), (.object "java/util/function/BiFunction")]
  resolved := Array.replicate 194 none
  statics := some 1 }

def pool13 : Array CpInfo := pool [(9, u "<init>"), (6, .class_ 18), (1, u "java/lang/Object"), (0, u "()V"), (1, .class_ 23), (1, u "jdk/internal/util/ArraysSupport"), (0, u "LOG2_ARRAY_LONG_INDEX_SCALE"), (0, u "I"), (2, u "U"), (0, u "Ljdk/internal/misc/Unsafe;"), (8, u "BIG_ENDIAN"), (0, u "Z"), (8, u "LOG2_BYTE_BIT_SIZE"), (4, u "LOG2_ARRAY_INT_INDEX_SCALE"), (54, u "JLA"), (0, u "Ljdk/internal/access/JavaLangAccess;"), (11, u "LOG2_ARRAY_BOOLEAN_INDEX_SCALE"), (9, u "LOG2_ARRAY_BYTE_INDEX_SCALE"), (5, u "LOG2_ARRAY_CHAR_INDEX_SCALE"), (5, u "LOG2_ARRAY_SHORT_INDEX_SCALE"), (18, u "LOG2_ARRAY_FLOAT_INDEX_SCALE"), (24, u "LOG2_ARRAY_DOUBLE_INDEX_SCALE"), (89, u "T_BOOLEAN"), (2, u "T_CHAR"), (1, u "T_FLOAT"), (1, u "T_DOUBLE"), (1, u "T_BYTE"), (1, u "T_SHORT"), (1, u "T_INT"), (1, u "T_LONG"), (1, u "SOFT_MAX_ARRAY_LENGTH")] 83

def k13m0 : Method := { name := "<init>", desc := "()V", sig := { parameters := [], returnType := none }, accessFlags := 2, code := none }
/-- jdk/internal/util/ArraysSupport -/
def k13 : Class := { plain "jdk/internal/util/ArraysSupport" (some 0) with
  accessFlags := 33
  interfaces := #[]
  cf := some (fileOf pool13 21 #[] #[{ accessFlags := 2, nameIndex := 9, descriptorIndex := 19, attributes := #[] }] 33 16 #[] #[{ accessFlags := 24, nameIndex := 28, descriptorIndex := 29, attributes := #[] }, { accessFlags := 26, nameIndex := 38, descriptorIndex := 39, attributes := #[] }, { accessFlags := 25, nameIndex := 121, descriptorIndex := 25, attributes := #[] }, { accessFlags := 25, nameIndex := 131, descriptorIndex := 25, attributes := #[] }, { accessFlags := 25, nameIndex := 137, descriptorIndex := 25, attributes := #[] }, { accessFlags := 25, nameIndex := 143, descriptorIndex := 25, attributes := #[] }, { accessFlags := 25, nameIndex := 53, descriptorIndex := 25, attributes := #[] }, { accessFlags := 25, nameIndex := 24, descriptorIndex := 25, attributes := #[] }, { accessFlags := 25, nameIndex := 162, descriptorIndex := 25, attributes := #[] }, { accessFlags := 25, nameIndex := 187, descriptorIndex := 25, attributes := #[] }, { accessFlags := 26, nameIndex := 48, descriptorIndex := 25, attributes := #[] }, { accessFlags := 25, nameIndex := 277, descriptorIndex := 25, attributes := #[] }, { accessFlags := 25, nameIndex := 280, descriptorIndex := 25, attributes := #[] }, { accessFlags := 25, nameIndex := 282, descriptorIndex := 25, attributes := #[] }, { accessFlags := 25, nameIndex := 284, descriptorIndex := 25, attributes := #[] }, { accessFlags := 25, nameIndex := 286, descriptorIndex := 25, attributes := #[] }, { accessFlags := 25, nameIndex := 288, descriptorIndex := 25, attributes := #[] }, { accessFlags := 25, nameIndex := 290, descriptorIndex := 25, attributes := #[] }, { accessFlags := 25, nameIndex := 292, descriptorIndex := 25, attributes := #[] }, { accessFlags := 26, nameIndex := 108, descriptorIndex := 109, attributes := #[] }, { accessFlags := 25, nameIndex := 294, descriptorIndex := 25, attributes := #[] }])
  fields := #[{ name := "U", type := (.object "jdk/internal/misc/Unsafe"), accessFlags := 24, slot := 0, constantValue := 0 }, { name := "BIG_ENDIAN", type := .boolean, accessFlags := 26, slot := 1, constantValue := 0 }, { name := "LOG2_ARRAY_BOOLEAN_INDEX_SCALE", type := .int, accessFlags := 25, slot := 2, constantValue := 0 }, { name := "LOG2_ARRAY_BYTE_INDEX_SCALE", type := .int, accessFlags := 25, slot := 3, constantValue := 0 }, { name := "LOG2_ARRAY_CHAR_INDEX_SCALE", type := .int, accessFlags := 25, slot := 4, constantValue := 0 }, { name := "LOG2_ARRAY_SHORT_INDEX_SCALE", type := .int, accessFlags := 25, slot := 5, constantValue := 0 }, { name := "LOG2_ARRAY_INT_INDEX_SCALE", type := .int, accessFlags := 25, slot := 6, constantValue := 0 }, { name := "LOG2_ARRAY_LONG_INDEX_SCALE", type := .int, accessFlags := 25, slot := 7, constantValue := 0 }, { name := "LOG2_ARRAY_FLOAT_INDEX_SCALE", type := .int, accessFlags := 25, slot := 8, constantValue := 0 }, { name := "LOG2_ARRAY_DOUBLE_INDEX_SCALE", type := .int, accessFlags := 25, slot := 9, constantValue := 0 }, { name := "LOG2_BYTE_BIT_SIZE", type := .int, accessFlags := 26, slot := 10, constantValue := 0 }, { name := "T_BOOLEAN", type := .int, accessFlags := 25, slot := 11, constantValue := 0 }, { name := "T_CHAR", type := .int, accessFlags := 25, slot := 12, constantValue := 0 }, { name := "T_FLOAT", type := .int, accessFlags := 25, slot := 13, constantValue := 0 }, { name := "T_DOUBLE", type := .int, accessFlags := 25, slot := 14, constantValue := 0 }, { name := "T_BYTE", type := .int, accessFlags := 25, slot := 15, constantValue := 0 }, { name := "T_SHORT", type := .int, accessFlags := 25, slot := 16, constantValue := 0 }, { name := "T_INT", type := .int, accessFlags := 25, slot := 17, constantValue := 0 }, { name := "T_LONG", type := .int, accessFlags := 25, slot := 18, constantValue := 0 }, { name := "JLA", type := (.object "jdk/internal/access/JavaLangAccess"), accessFlags := 26, slot := 19, constantValue := 0 }, { name := "SOFT_MAX_ARRAY_LENGTH", type := .int, accessFlags := 25, slot := 20, constantValue := 0 }]
  methods := #[k13m0]
  instanceTypes := #[]
  staticTypes := #[(.object "jdk/internal/misc/Unsafe"), .boolean, .int, .int, .int, .int, .int, .int, .int, .int, .int, .int, .int, .int, .int, .int, .int, .int, .int, (.object "jdk/internal/access/JavaLangAccess"), .int]
  resolved := Array.replicate 378 none
  statics := none }

def pool14 : Array CpInfo := pool [(1, u "java/lang/Cloneable"), (0, .class_ 1), (0, u "java/lang/Object"), (0, .class_ 3)] 3

/-- java/lang/Cloneable -/
def k14 : Class := { plain "java/lang/Cloneable" (some 0) with
  accessFlags := 1537
  interfaces := #[]
  cf := some (fileOf pool14 2 #[] #[] 1537 4 #[] #[])
  fields := #[]
  methods := #[]
  instanceTypes := #[]
  staticTypes := #[]
  resolved := Array.replicate 8 none
  statics := none }

/-- the primitive byte -/
def k15 : Class := { plain "byte" none with kind := .primitive 'B', accessFlags := 0x411 }
/-- [B -/
def k16 : Class := { plain "[B" (some 0) with kind := .array 15 .byte, interfaces := #[14, 2], accessFlags := 1041 }

/-- the primitive char -/
def k17 : Class := { plain "char" none with kind := .primitive 'C', accessFlags := 0x411 }
/-- [C -/
def k18 : Class := { plain "[C" (some 0) with kind := .array 17 .char, interfaces := #[14, 2], accessFlags := 1041 }

/-- the primitive int -/
def k19 : Class := { plain "int" none with kind := .primitive 'I', accessFlags := 0x411 }
/-- [I -/
def k20 : Class := { plain "[I" (some 0) with kind := .array 19 .int, interfaces := #[14, 2], accessFlags := 1041 }

def heap : Heap := #[{ cls := 7, slots := #[.long 0, .int 1, .null, .int 0, .null, .int 0, .int 0], vm := .statics 7 },
  { cls := 12, slots := #[.null, .null, .null], vm := .statics 12 }]
def classes : Array Class := #[k0, k1, k2, k3, k4, k5, k6, k7, k8, k9, k10, k11, k12, k13, k14, k15, k16, k17, k18, k19, k20]
def interned : List (Array UInt16 × Addr) := []
def slotsUsed : Nat := 10
def theMethod : MethodId := ⟨1, 1⟩
def args0 : Array Value := #[.int 3, .int 4, .int 5, .int 6, .int 7]
def aboutOver (below : List Frame) : State where
  vm := { classes := classes, interned := interned.toArray }
  heap := heap
  slotsUsed := slotsUsed
  threads := #[{ frames := .invoking theMethod args0 :: below }]
def below0 : List Frame := [.native { method := ⟨0, 0⟩, args := #[] }]
def about1 : State := aboutOver below0
def p0 : Program := .bare "" "" ""
def e0 : Env := launch0.env 0 0 0
theorem w_frames : about1.frames = Frame.invoking theMethod args0 :: below0 := rfl
set_option maxRecDepth 65536 in
theorem w_args : argsFit about1.vm theMethod args0 = true := by decide +kernel
set_option maxRecDepth 65536 in
theorem w_heap : heapFits about1 = true := by decide +kernel
set_option maxRecDepth 65536 in
theorem w_runnable : about1.curStatus? = some .runnable := by decide +kernel
set_option maxRecDepth 65536 in
theorem w_alone : about1.alone = true := by decide +kernel
set_option maxRecDepth 65536 in
theorem w_named : about1.methodNamed? x = some theMethod := by decide +kernel
set_option maxRecDepth 65536 in
theorem w_hears : about1.hears theMethod below0 = true := by decide +kernel
set_option maxRecDepth 65536 in
theorem w_ripe : about1.ripe theMethod args0 below0 = true := by decide +kernel
theorem w_running : about1.status = .running := rfl
set_option maxRecDepth 65536 in
theorem w_room : about1.hasRoom e0.platform room_1 = true :=
  launch0.hasRoom_least _ room_1 (by decide +kernel) (by decide +kernel) (by decide +kernel) (by decide +kernel) (by decide +kernel) (by decide +kernel)
theorem allAtoms_all (ts : List Jvm.Cond) (a : Array Jvm.Value) (st : Jvm.State) : (allAtoms ts).before a st = ts.all (fun c => c.before a st) := by
  induction ts with
  | nil => rfl
  | cons c t ih =>
    show (Jvm.Cond.and c (allAtoms t)).before a st = _
    rw [Jvm.Cond.before_and, ih, List.all_cons]
def words1 : List Jvm.Cond := Jvm.Cond.code x code maxLocals ret :: tables_1
/-- a 'code' word, met by the world's own term for the bytes: nothing is compared byte by byte -/
theorem code_word {y : MethodName} {bytes : ByteArray} {mx : Nat} {rt : Option FieldType} {a : Array Value} {s : State} {m : MethodId} {meth : Method} {c : Code} (h1 : s.methodNamed? y = some m) (h2 : s.vm.method? m = some meth) (h3 : meth.code = some c) (h4 : c.code = bytes)
    (h5 : (c.maxLocals == mx && c.exceptionTable.isEmpty && decide (c.maxStack ≤ mostOperands) && decide (meth.sig.returnType = rt) && !meth.locks && decide (parseMethodDescriptor y.desc = some meth.sig)) = true) : (Jvm.Cond.code y bytes mx rt).before a s = true := by
  simp only [Bool.and_eq_true, beq_iff_eq, Bool.not_eq_true', decide_eq_true_eq] at h5
  obtain ⟨⟨⟨⟨⟨g1, g2⟩, g3⟩, g4⟩, g5⟩, g6⟩ := h5
  simp [Cond.before, Cond.holds, Cond.value, h1, h2, h3, h4, g1, g2, g3, g4, g5, g6]
def isCode : Jvm.Cond → Bool
  | .code _ _ _ _ => true
  | _ => false
theorem all_split {L : List Jvm.Cond} {P : Jvm.Cond → Bool} (h1 : L.all (fun c => isCode c || P c) = true) (h2 : ∀ c ∈ L.filter isCode, P c = true) : L.all P = true := by
  refine List.all_eq_true.mpr fun c hc => ?_
  have h := List.all_eq_true.mp h1 c hc
  rcases Bool.eq_false_or_eq_true (isCode c) with hi | hi
  · exact h2 c (List.mem_filter.mpr ⟨hc, hi⟩)
  · simpa [hi] using h
set_option maxRecDepth 65536 in
theorem w_c0 : (Jvm.Cond.code x code maxLocals ret).before args0 about1 = true := code_word (m := ⟨1, 1⟩) (meth := k1m1) (c := k1c1) (by decide +kernel) rfl rfl rfl (by decide +kernel)
set_option maxRecDepth 65536 in
theorem w_c1 : (Jvm.Cond.code ({ cls := "com/example/gibbon/gibbon/search/OccurrencesEqualsPinLaw", name := "mk", desc := "(ICC)Ljava/lang/String;" } : Jvm.MethodName) method_3_code (4 : Nat) (Option.some (Jvm.ClassFile.FieldType.object "java/lang/String"))).before args0 about1 = true := code_word (m := ⟨1, 2⟩) (meth := k1m2) (c := k1c2) (by decide +kernel) rfl rfl rfl (by decide +kernel)
set_option maxRecDepth 65536 in
theorem w_c2 : (Jvm.Cond.code ({ cls := "java/lang/String", name := "<init>", desc := "([C)V" } : Jvm.MethodName) jdk_42_method_3_code (2 : Nat) (Option.none : Option Jvm.ClassFile.FieldType)).before args0 about1 = true := code_word (m := ⟨7, 1⟩) (meth := k7m1) (c := k7c1) (by decide +kernel) rfl rfl rfl (by decide +kernel)
set_option maxRecDepth 65536 in
theorem w_c3 : (Jvm.Cond.code ({ cls := "java/lang/String", name := "<init>", desc := "([CIILjava/lang/Void;)V" } : Jvm.MethodName) jdk_42_method_149_code (6 : Nat) (Option.none : Option Jvm.ClassFile.FieldType)).before args0 about1 = true := code_word (m := ⟨7, 4⟩) (meth := k7m4) (c := k7c4) (by decide +kernel) rfl rfl rfl (by decide +kernel)
set_option maxRecDepth 65536 in
theorem w_c4 : (Jvm.Cond.code ({ cls := "java/lang/Object", name := "<init>", desc := "()V" } : Jvm.MethodName) object_method_1_code (1 : Nat) (Option.none : Option Jvm.ClassFile.FieldType)).before args0 about1 = true := code_word (m := ⟨0, 0⟩) (meth := k0m0) (c := k0c0) (by decide +kernel) rfl rfl rfl (by decide +kernel)
set_option maxRecDepth 65536 in
theorem w_c5 : (Jvm.Cond.code ({ cls := "com/example/gibbon/gibbon/search/Occurrences", name := "<init>", desc := "(Ljava/lang/String;I)V" } : Jvm.MethodName) prog_42_method_1_code (3 : Nat) (Option.none : Option Jvm.ClassFile.FieldType)).before args0 about1 = true := code_word (m := ⟨8, 0⟩) (meth := k8m0) (c := k8c0) (by decide +kernel) rfl rfl rfl (by decide +kernel)
set_option maxRecDepth 65536 in
theorem w_c6 : (Jvm.Cond.code ({ cls := "java/util/Objects", name := "requireNonNull", desc := "(Ljava/lang/Object;Ljava/lang/String;)Ljava/lang/Object;" } : Jvm.MethodName) jdk_31_method_11_code (2 : Nat) (Option.some (Jvm.ClassFile.FieldType.object "java/lang/Object"))).before args0 about1 = true := code_word (m := ⟨9, 1⟩) (meth := k9m1) (c := k9c1) (by decide +kernel) rfl rfl rfl (by decide +kernel)
set_option maxRecDepth 65536 in
theorem w_c7 : (Jvm.Cond.code ({ cls := "com/example/gibbon/gibbon/search/Occurrences", name := "equals", desc := "(Ljava/lang/Object;)Z" } : Jvm.MethodName) prog_42_method_4_code (3 : Nat) (Option.some Jvm.ClassFile.FieldType.boolean)).before args0 about1 = true := code_word (m := ⟨8, 1⟩) (meth := k8m1) (c := k8c1) (by decide +kernel) rfl rfl rfl (by decide +kernel)
set_option maxRecDepth 65536 in
theorem w_c8 : (Jvm.Cond.code ({ cls := "java/lang/String", name := "equals", desc := "(Ljava/lang/Object;)Z" } : Jvm.MethodName) jdk_42_method_66_code (3 : Nat) (Option.some Jvm.ClassFile.FieldType.boolean)).before args0 about1 = true := code_word (m := ⟨7, 2⟩) (meth := k7m2) (c := k7c2) (by decide +kernel) rfl rfl rfl (by decide +kernel)
set_option maxRecDepth 65536 in
theorem w_c9 : (Jvm.Cond.code ({ cls := "java/lang/StringLatin1", name := "equals", desc := "([B[B)Z" } : Jvm.MethodName) jdk_43_method_13_code (3 : Nat) (Option.some Jvm.ClassFile.FieldType.boolean)).before args0 about1 = true := code_word (m := ⟨10, 2⟩) (meth := k10m2) (c := k10c2) (by decide +kernel) rfl rfl rfl (by decide +kernel)
set_option maxRecDepth 65536 in
theorem w_c10 : (Jvm.Cond.code ({ cls := "java/lang/String", name := "valueOf", desc := "(C)Ljava/lang/String;" } : Jvm.MethodName) jdk_42_method_139_code (1 : Nat) (Option.some (Jvm.ClassFile.FieldType.object "java/lang/String"))).before args0 about1 = true := code_word (m := ⟨7, 3⟩) (meth := k7m3) (c := k7c3) (by decide +kernel) rfl rfl rfl (by decide +kernel)
set_option maxRecDepth 65536 in
theorem w_c11 : (Jvm.Cond.code ({ cls := "java/lang/StringLatin1", name := "canEncode", desc := "(C)Z" } : Jvm.MethodName) jdk_43_method_3_code (1 : Nat) (Option.some Jvm.ClassFile.FieldType.boolean)).before args0 about1 = true := code_word (m := ⟨10, 1⟩) (meth := k10m1) (c := k10c1) (by decide +kernel) rfl rfl rfl (by decide +kernel)
set_option maxRecDepth 65536 in
theorem w_c12 : (Jvm.Cond.code ({ cls := "java/lang/StringLatin1", name := "toBytes", desc := "(C)[B" } : Jvm.MethodName) jdk_43_method_46_code (1 : Nat) (Option.some (Jvm.ClassFile.FieldType.array Jvm.ClassFile.FieldType.byte))).before args0 about1 = true := code_word (m := ⟨10, 3⟩) (meth := k10m3) (c := k10c3) (by decide +kernel) rfl rfl rfl (by decide +kernel)
set_option maxRecDepth 65536 in
theorem w_c13 : (Jvm.Cond.code ({ cls := "java/lang/String", name := "<init>", desc := "([BB)V" } : Jvm.MethodName) jdk_42_method_151_code (3 : Nat) (Option.none : Option Jvm.ClassFile.FieldType)).before args0 about1 = true := code_word (m := ⟨7, 5⟩) (meth := k7m5) (c := k7c5) (by decide +kernel) rfl rfl rfl (by decide +kernel)
set_option maxRecDepth 65536 in
theorem w_c14 : (Jvm.Cond.code ({ cls := "java/lang/StringUTF16", name := "compress", desc := "([CII)[B" } : Jvm.MethodName) jdk_52_method_16_code (6 : Nat) (Option.some (Jvm.ClassFile.FieldType.array Jvm.ClassFile.FieldType.byte))).before args0 about1 = true := code_word (m := ⟨11, 2⟩) (meth := k11m2) (c := k11c2) (by decide +kernel) rfl rfl rfl (by decide +kernel)
set_option maxRecDepth 65536 in
theorem w_c15 : (Jvm.Cond.code ({ cls := "java/lang/StringUTF16", name := "compress", desc := "([CI[BII)I" } : Jvm.MethodName) jdk_52_method_21_code (7 : Nat) (Option.some Jvm.ClassFile.FieldType.int)).before args0 about1 = true := code_word (m := ⟨11, 3⟩) (meth := k11m3) (c := k11c3) (by decide +kernel) rfl rfl rfl (by decide +kernel)
set_option maxRecDepth 65536 in
theorem w_c16 : (Jvm.Cond.code ({ cls := "java/lang/StringUTF16", name := "coderFromArrayLen", desc := "([BI)B" } : Jvm.MethodName) jdk_52_method_15_code (2 : Nat) (Option.some Jvm.ClassFile.FieldType.byte)).before args0 about1 = true := code_word (m := ⟨11, 1⟩) (meth := k11m1) (c := k11c1) (by decide +kernel) rfl rfl rfl (by decide +kernel)
def codes1 : List Jvm.Cond := [Jvm.Cond.code x code maxLocals ret, Jvm.Cond.code ({ cls := "com/example/gibbon/gibbon/search/OccurrencesEqualsPinLaw", name := "mk", desc := "(ICC)Ljava/lang/String;" } : Jvm.MethodName) method_3_code (4 : Nat) (Option.some (Jvm.ClassFile.FieldType.object "java/lang/String")), Jvm.Cond.code ({ cls := "java/lang/String", name := "<init>", desc := "([C)V" } : Jvm.MethodName) jdk_42_method_3_code (2 : Nat) (Option.none : Option Jvm.ClassFile.FieldType), Jvm.Cond.code ({ cls := "java/lang/String", name := "<init>", desc := "([CIILjava/lang/Void;)V" } : Jvm.MethodName) jdk_42_method_149_code (6 : Nat) (Option.none : Option Jvm.ClassFile.FieldType), Jvm.Cond.code ({ cls := "java/lang/Object", name := "<init>", desc := "()V" } : Jvm.MethodName) object_method_1_code (1 : Nat) (Option.none : Option Jvm.ClassFile.FieldType), Jvm.Cond.code ({ cls := "com/example/gibbon/gibbon/search/Occurrences", name := "<init>", desc := "(Ljava/lang/String;I)V" } : Jvm.MethodName) prog_42_method_1_code (3 : Nat) (Option.none : Option Jvm.ClassFile.FieldType), Jvm.Cond.code ({ cls := "java/util/Objects", name := "requireNonNull", desc := "(Ljava/lang/Object;Ljava/lang/String;)Ljava/lang/Object;" } : Jvm.MethodName) jdk_31_method_11_code (2 : Nat) (Option.some (Jvm.ClassFile.FieldType.object "java/lang/Object")), Jvm.Cond.code ({ cls := "com/example/gibbon/gibbon/search/Occurrences", name := "equals", desc := "(Ljava/lang/Object;)Z" } : Jvm.MethodName) prog_42_method_4_code (3 : Nat) (Option.some Jvm.ClassFile.FieldType.boolean), Jvm.Cond.code ({ cls := "java/lang/String", name := "equals", desc := "(Ljava/lang/Object;)Z" } : Jvm.MethodName) jdk_42_method_66_code (3 : Nat) (Option.some Jvm.ClassFile.FieldType.boolean), Jvm.Cond.code ({ cls := "java/lang/StringLatin1", name := "equals", desc := "([B[B)Z" } : Jvm.MethodName) jdk_43_method_13_code (3 : Nat) (Option.some Jvm.ClassFile.FieldType.boolean), Jvm.Cond.code ({ cls := "java/lang/String", name := "valueOf", desc := "(C)Ljava/lang/String;" } : Jvm.MethodName) jdk_42_method_139_code (1 : Nat) (Option.some (Jvm.ClassFile.FieldType.object "java/lang/String")), Jvm.Cond.code ({ cls := "java/lang/StringLatin1", name := "canEncode", desc := "(C)Z" } : Jvm.MethodName) jdk_43_method_3_code (1 : Nat) (Option.some Jvm.ClassFile.FieldType.boolean), Jvm.Cond.code ({ cls := "java/lang/StringLatin1", name := "toBytes", desc := "(C)[B" } : Jvm.MethodName) jdk_43_method_46_code (1 : Nat) (Option.some (Jvm.ClassFile.FieldType.array Jvm.ClassFile.FieldType.byte)), Jvm.Cond.code ({ cls := "java/lang/String", name := "<init>", desc := "([BB)V" } : Jvm.MethodName) jdk_42_method_151_code (3 : Nat) (Option.none : Option Jvm.ClassFile.FieldType), Jvm.Cond.code ({ cls := "java/lang/StringUTF16", name := "compress", desc := "([CII)[B" } : Jvm.MethodName) jdk_52_method_16_code (6 : Nat) (Option.some (Jvm.ClassFile.FieldType.array Jvm.ClassFile.FieldType.byte)), Jvm.Cond.code ({ cls := "java/lang/StringUTF16", name := "compress", desc := "([CI[BII)I" } : Jvm.MethodName) jdk_52_method_21_code (7 : Nat) (Option.some Jvm.ClassFile.FieldType.int), Jvm.Cond.code ({ cls := "java/lang/StringUTF16", name := "coderFromArrayLen", desc := "([BI)B" } : Jvm.MethodName) jdk_52_method_15_code (2 : Nat) (Option.some Jvm.ClassFile.FieldType.byte)]
set_option maxRecDepth 65536 in
theorem codes_eq : words1.filter isCode = codes1 := rfl
theorem w_codes : ∀ c ∈ words1.filter isCode, c.before args0 about1 = true := by
  rw [codes_eq]
  intro c hc
  simp only [codes1, List.mem_cons, List.not_mem_nil, or_false] at hc
  rcases hc with rfl | rfl | rfl | rfl | rfl | rfl | rfl | rfl | rfl | rfl | rfl | rfl | rfl | rfl | rfl | rfl | rfl
  · exact w_c0
  · exact w_c1
  · exact w_c2
  · exact w_c3
  · exact w_c4
  · exact w_c5
  · exact w_c6
  · exact w_c7
  · exact w_c8
  · exact w_c9
  · exact w_c10
  · exact w_c11
  · exact w_c12
  · exact w_c13
  · exact w_c14
  · exact w_c15
  · exact w_c16
set_option maxRecDepth 65536 in
theorem w_t1 : (words1.take 24).all (fun c => isCode c || c.before args0 about1) = true := by decide +kernel
set_option maxRecDepth 65536 in
theorem w_t2 : ((words1.drop 24).take 24).all (fun c => isCode c || c.before args0 about1) = true := by decide +kernel
set_option maxRecDepth 65536 in
theorem w_t3 : (((words1.drop 24).drop 24).take 24).all (fun c => isCode c || c.before args0 about1) = true := by decide +kernel
set_option maxRecDepth 65536 in
theorem w_t4 : (((words1.drop 24).drop 24).drop 24).all (fun c => isCode c || c.before args0 about1) = true := by decide +kernel
theorem w_tables : (allAtoms (Jvm.Cond.code x code maxLocals ret :: tables_1)).before args0 about1 = true := by
  rw [allAtoms_all]
  show words1.all (fun c => c.before args0 about1) = true
  refine all_split ?_ w_codes
  rw [← List.take_append_drop 24 words1, List.all_append, w_t1, ← List.take_append_drop 24 (words1.drop 24), List.all_append, w_t2, ← List.take_append_drop 24 ((words1.drop 24).drop 24), List.all_append, w_t3, w_t4]
  rfl
set_option maxRecDepth 65536 in
theorem w_rest : rest_1_c.before args0 about1 = true := by decide +kernel
set_option maxRecDepth 65536 in
theorem w_case : (Jvm.Cond.and given_1 narrow_1).before args0 about1 = true := by decide +kernel
set_option maxRecDepth 65536 in
theorem w_consts : constsHeld consts_1 about1 := Jvm.Lit.constsHeldB_iff.mp (by decide +kernel)
theorem w_applies : (headSpec (Jvm.Cond.code x code maxLocals ret :: tables_1) room_1).applies x e0.platform about1 = true :=
  (Spec.applies_iff w_frames).mpr ⟨w_running, w_runnable, w_alone, w_named, w_hears, w_ripe, w_room, w_tables⟩
theorem atStart : AtStart classFile x code maxLocals ret World_1 tables_1 room_1 Calls_1 rest_1 Pre_1 launch0 p0 e0 about1 theMethod args0 below0 :=
  ⟨lists_1, trivial, launch0.admits_env _ _ _, launch0.least_env, fairChoices_fair.cas, fairChoices_fair.clock, w_frames, w_args, w_heap, w_applies, ⟨w_consts, trivial⟩, w_rest, w_case⟩
end start1
theorem witness_1 : WitnessClaimed_1 := ⟨start1.p0, start1.e0, start1.about1, start1.theMethod, start1.args0, start1.below0, start1.atStart⟩
end Jvm.Pilot.@@N@@
