import JvmDerived
import JvmDerived.Pilot.@@N@@Statement
import JvmDerived.Pilot.@@N@@Code
set_option linter.unusedVariables false
set_option linter.unusedSimpArgs false
namespace Jvm.RoadKit
open Sem ClassFile Op Lib Jvm.Stand Jvm.Free Jvm.LawKit
section New
variable {p : Program} {l : Launch} {e : Env} {R : Room} {s : State} {m : MethodId} {args : Array Value} {below : List Frame} {meth : Method} {c : Code} {T : State} {locs : List Loc} {cells slots : Nat}
theorem retI (X : Stand p l e R s m args below meth c T locs cells slots) (hx : p.tables.exec = Jvm.exec) {pc : Nat} {Ls : Array Slot} {z : Int32} {rest : List Value} (hret : meth.sig.returnType = some .int) (hd : decode c.code pc = .ok (.ireturn, 1)) {fs : List Frame}
    (hl : ∀ (f : JFrame) (acts : List Action), f.method = m → f.locked = none → f.entered = [] → (doReturn e (T.setTop f) acts (some (.int z))).1 = T.setFrames fs) : Steps p.tables e below (T.setTop (mkF m pc Ls (.int z :: rest))) (T.setFrames fs) := by
  have hm' : T.vm.method? m = some meth := X.method'
  have hn : narrow .int (.int z) = .int z := rfl
  show Steps p.tables e below (T.setTop { method := m, pc := pc, locals := Ls, stack := _ :: rest, locked := none }) _
  jvm_step X.here [X.here.top, hx, hd, hm', hret, hn]
  first | (intro acts; rw [hl _ acts rfl rfl rfl]) | rw [hl _ _ rfl rfl rfl]
  exact Steps.refl _
end New
end Jvm.RoadKit
namespace Jvm.Pilot.@@N@@
open Jvm Jvm.ClassFile Sem Op Lib Jvm.Free Jvm.Stand Jvm.LawKit Jvm.RoadKit Bundle Jvm.Pilot.@@N@@.Jvm.D
theorem own_eqI {t : Term} {args : Array Value} {first s : State} {o : Option Outcome} {idx : List Nat} {k : Int32} (h : (Jvm.Cond.eq t (.int k)).value args first o s idx = some true) : t.eval args first o idx s = some (.int k) := by
  cases ht : t.eval args first o idx s with
  | none => simp [Cond.value, ht] at h
  | some x => cases x <;> simp [Cond.value, ht, Term.eval] at h ⊢ <;> exact h
theorem own_eqJ {t : Term} {args : Array Value} {first s : State} {o : Option Outcome} {idx : List Nat} {k : Int64} (h : (Jvm.Cond.eq t (.long k)).value args first o s idx = some true) : t.eval args first o idx s = some (.long k) := by
  cases ht : t.eval args first o idx s with
  | none => simp [Cond.value, ht] at h
  | some x => cases x <;> simp [Cond.value, ht, Term.eval] at h ⊢ <;> exact h
theorem own_eqR {t u : Term} {args : Array Value} {first s : State} {o : Option Outcome} {idx : List Nat} {x : Addr} (h : (Jvm.Cond.eq t u).value args first o s idx = some true) (hu : u.eval args first o idx s = some (.ref x)) : t.eval args first o idx s = some (.ref x) := by
  cases ht : t.eval args first o idx s with
  | none => simp [Cond.value, ht] at h
  | some z => cases z <;> simp [Cond.value, ht, hu] at h ⊢ <;> exact h
theorem cat_of {v : Value} (h : v.isRef = true) : v.category = 1 := by rcases ref_cases h with rfl | ⟨a, rfl⟩ <;> rfl
theorem own_fits {n : String} {v : Value} (h : v.isRef = true) : fits (.object n) v = true := by rcases ref_cases h with rfl | ⟨a, rfl⟩ <;> rfl
theorem own_exa_ns {Z : State} {h : Heap} {a : Addr} {C : String} (E : Exa Z h a C) : ∀ c : Cell, h[a]? = some c → c.vm.isStatics = false := fun c hc => by
  obtain ⟨cell, k, h1, -, -, h4, -⟩ := E
  cases h1.symm.trans hc; exact h4
theorem own_arv_ns {Z : State} {h : Heap} {a : Addr} {k : ClassId} {ty : FieldType} {z : Int32} {vs : List Value} {d : Value} (F : Arv Z h a k ty z vs d) : ∀ c : Cell, h[a]? = some c → c.vm.isStatics = false := fun c hc => by
  obtain ⟨cl, A, -⟩ := F
  cases A.1.symm.trans hc; exact A.plain
theorem own_sta_keep {Z : State} {h h' : Heap} {ws : List Addr} {C n d : String} {v : Value} (F : Sta Z h C n d v) (K : Keep h h' ws) (q : ∀ x ∈ ws, ∀ c : Cell, h[x]? = some c → c.vm.isStatics = false) : Sta Z h' C n d v := by
  obtain ⟨cf, i, k, f, st, cell, h1, h2, h3, h4, h5, h6, r⟩ := F
  refine ⟨cf, i, k, f, st, cell, h1, h2, h3, h4, K.2.1 st cell h5 (fun hm => ?_), h6, r⟩
  have := q st hm cell h5
  rw [h6] at this; cases this
theorem own_mono {s t : State} {o : Outcome} {L : List Loc} {k n k' n' : Nat} (h : ReturnedEndW s o t L k n) (hk : k ≤ k') (hn : n ≤ n') : ReturnedEndW s o t L k' n' := ⟨h.1, h.2.1, h.2.2.1, h.2.2.2.mono hk hn⟩
theorem own_wS {Z : State} {aw : Array Value} (hw : ∀ d ∈ tables_1, d.before aw Z = true) : ∀ a ∈ Bundle.stringAtoms, a.before aw Z = true := by
  intro a ha
  simp only [Bundle.stringAtoms, Bundle.sN, List.mem_cons, List.not_mem_nil, or_false] at ha
  rcases ha with rfl | rfl | rfl | rfl | rfl | rfl | rfl
  · exact (hw _ (List.mem_of_getElem? (i := 9) rfl))
  · exact (hw _ (List.mem_of_getElem? (i := 10) rfl))
  · exact (hw _ (List.mem_of_getElem? (i := 11) rfl))
  · exact (hw _ (List.mem_of_getElem? (i := 12) rfl))
  · exact (hw _ (List.mem_of_getElem? (i := 13) rfl))
  · exact (hw _ (List.mem_of_getElem? (i := 14) rfl))
  · exact (hw _ (List.mem_of_getElem? (i := 15) rfl))
theorem own_neI {t : Term} {args : Array Value} {first s : State} {o : Option Outcome} {idx : List Nat} {w k : Int32} (h : (Jvm.Cond.not (.eq t (.int k))).value args first o s idx = some true) (ht : t.eval args first o idx s = some (.int w)) : ¬ w = k := by
  intro e
  subst e
  simp [Cond.value, ht, Term.eval] at h
theorem own_EW {Z : State} {aw : Array Value} (hw : ∀ d ∈ tables_1, d.before aw Z = true) : EW Z aw consts_1 := (EW.cons (hw _ (List.mem_of_getElem? (i := 8) rfl)) (by decide) EW.nil)
theorem own_chr {x : Int32} (h : 0 ≤ x.toInt ∧ x.toInt < 100) : ¬ ((255 : Int32) < ((48 + x).toUInt32.toUInt16.toUInt32.toInt32)) := by
  have h1 := c_iadd 48 x
  have h2 : (48 : Int32).toInt = 48 := by decide
  have h3 := rng32 (48 + x)
  have h4 := c_i2c (48 + x)
  have h5 : (255 : Int32).toInt = 255 := by decide
  rw [Int32.lt_iff_toInt_lt]
  rw [h2] at h1
  generalize (48 + x).toUInt32.toUInt16.toUInt32.toInt32.toInt = y at *
  omega
theorem own_nar {x : Int32} (h : 0 ≤ x.toInt ∧ x.toInt < 100) : ¬ (255 : Int32) < (nar .char ((48 + x).toUInt32.toUInt16.toUInt32.toInt32)) := by
  have h1 := c_iadd 48 x
  have h2 : (48 : Int32).toInt = 48 := by decide
  have h3 := rng32 (48 + x)
  have h4 := c_i2c (48 + x)
  have h5 : (255 : Int32).toInt = 255 := by decide
  have h6 := c_i2c ((48 + x).toUInt32.toUInt16.toUInt32.toInt32)
  show ¬ (255 : Int32) < (((48 + x).toUInt32.toUInt16.toUInt32.toInt32).toUInt32.toUInt16.toUInt32.toInt32)
  rw [Int32.lt_iff_toInt_lt]
  rw [h2] at h1
  generalize ((48 + x).toUInt32.toUInt16.toUInt32.toInt32).toUInt32.toUInt16.toUInt32.toInt32.toInt = u at *
  generalize (48 + x).toUInt32.toUInt16.toUInt32.toInt32.toInt = y at *
  omega
theorem own_d10 {x : Int32} (h : 0 ≤ x.toInt ∧ x.toInt < 100) : 0 ≤ (x / 10).toInt ∧ (x / 10).toInt < 100 := by
  have := (c_idiv x 10 10 rfl (by decide)).1 h.1; omega
theorem own_r10 {x : Int32} (h : 0 ≤ x.toInt ∧ x.toInt < 100) : 0 ≤ (x % 10).toInt ∧ (x % 10).toInt < 100 := by
  have := (c_irem x 10 10 rfl).1 h.1; omega
theorem own_d100 {x : Int32} (h : 0 ≤ x.toInt ∧ x.toInt < 10000) : 0 ≤ (x / 100).toInt ∧ (x / 100).toInt < 100 := by
  have := (c_idiv x 100 100 rfl (by decide)).1 h.1; omega
theorem own_r100 {x : Int32} (h : 0 ≤ x.toInt ∧ x.toInt < 10000) : 0 ≤ (x % 100).toInt ∧ (x % 100).toInt < 100 := by
  have := (c_irem x 100 100 rfl).1 h.1; omega
theorem own_neg {x : Int32} (h : 0 ≤ x.toInt ∧ x.toInt < 10000) : (-x) % 100 = 0 ↔ x % 100 = 0 := by
  have a := (c_irem x 100 100 rfl).1 h.1
  have b := c_irem (-x) 100 100 rfl
  have c := c_ineg x
  have r := rng32 (-x)
  have z : (0 : Int32).toInt = 0 := by decide
  have e : (-x).toInt = -x.toInt := by omega
  constructor
  · intro q
    apply Int32.toInt_inj.mp
    have q' := congrArg Int32.toInt q
    rw [z] at q' ⊢
    by_cases h0 : x.toInt = 0
    · rw [a, h0]; rfl
    · have := b.2 (by omega); rw [e] at this; omega
  · intro q
    apply Int32.toInt_inj.mp
    have q' := congrArg Int32.toInt q
    rw [z] at q' ⊢
    by_cases h0 : x.toInt = 0
    · have := b.1 (by omega); rw [e, h0] at this; rw [this]; rfl
    · have := b.2 (by omega); rw [e] at this; omega
theorem own_sp {v : Int32} (h : 0 < v) : (v < 0 → (1 : Int32) < 0) ∧ (¬ v < 0 → ¬ (1 : Int32) < 0) := ⟨fun q => by rw [Int32.lt_iff_toInt_lt] at h q; omega, fun _ => by decide⟩
theorem own_sn {v : Int32} (h : v < 0) : (v < 0 → (-1 : Int32) < 0) ∧ (¬ v < 0 → ¬ (-1 : Int32) < 0) := ⟨fun _ => by decide, fun q => absurd h q⟩
theorem own_sz {v : Int32} (h : ¬ v < 0) : (v < 0 → (0 : Int32) < 0) ∧ (¬ v < 0 → ¬ (0 : Int32) < 0) := ⟨fun q => absurd q h, fun _ => by decide⟩
theorem own_rng (x y : Int32) (d : Int) (hy : y.toInt = d) (hd : 0 < d) : 0 ≤ ((x &&& 2147483647) % y).toInt ∧ ((x &&& 2147483647) % y).toInt < d := by
  have h := c_and x 2147483647 (by decide)
  have g := (c_irem (x &&& 2147483647) y d hy).1 h.1
  rw [g]; exact ⟨Int.emod_nonneg _ (by omega), Int.emod_lt_of_pos _ hd⟩
theorem pn_0 : plainName "java/lang/StringLatin1" = true := by first | (simp [plainName, overriddenIn]; done) | decide +kernel
theorem d14_0 : decode jdk_43_method_3_code 0 = .ok (.iload_n 0, 1) := by decide +kernel
theorem d14_1 : decode jdk_43_method_3_code 1 = .ok (.sipush 255, 3) := by decide +kernel
theorem d14_4 : decode jdk_43_method_3_code 4 = .ok (.if_icmp .gt 7, 3) := by decide +kernel
theorem d14_7 : decode jdk_43_method_3_code 7 = .ok (.iconst 1, 1) := by decide +kernel
theorem d14_8 : decode jdk_43_method_3_code 8 = .ok (.goto 4, 3) := by decide +kernel
theorem d14_12 : decode jdk_43_method_3_code 12 = .ok (.ireturn, 1) := by decide +kernel
theorem ef_14 (m : MethodId) (x0 : Int32)  : entryFrame m #[(.int x0)] 1 = mkF m 0 #[.val (.int x0)] [] := by first | (simp [entryFrame, mkF, argsToLocals, Value.category]; done) | rfl
def Q14 (Z : State) (p0 : Int32) (h0 : Heap) (n0 : Nat) (v : Option Value) (h : Heap) (L : List Loc) : Prop := v = some (.int (1 : Int32)) ∧ Fr n0 L ∧ h = h0
set_option maxRecDepth 65536 in
set_option maxHeartbeats 40000000 in
theorem rm14 (l : Launch) (Z : State) (aw : Array Value) (hw : ∀ d ∈ tables_1, d.before aw Z = true) (ws : List Jvm.Cond) (p0 : Int32) (h0 : Heap) (n0 : Nat) (Z0 : n0 ≤ h0.size) (hc0 : ¬ ((255 : Int32) < p0)) :
    MetFree l (⟨"java/lang/StringLatin1", "canEncode", "(C)Z"⟩ : MethodName) (head1 (Jvm.Cond.code (⟨"java/lang/StringLatin1", "canEncode", "(C)Z"⟩ : MethodName) jdk_43_method_3_code 1 (some .boolean) :: ws) ({ frames := 0, cells := 0, slots := 0, locals := 0 } : Room)) (fun a U => a = #[(.int p0)] ∧ Z.Warmed39 U.vm ∧ U.heap = h0) (fun _ _ _ _ _ => True) (fun _ U o U' => ∃ v L, o = .returned v ∧ Q14 Z p0 h0 n0 v U'.heap L ∧ FrameEnd U o U' L ({ frames := 0, cells := 0, slots := 0, locals := 0 } : Room).cells ({ frames := 0, cells := 0, slots := 0, locals := 0 } : Room).slots) := by
  refine MetFree.of_bodySF (plainFor_of_name pn_0) hisR ?_
  intro p e s m args below meth c s₁ Bd hml0 hP hK
  obtain ⟨rfl, hZ, hh⟩ := hP
  have hx := Bd.exec
  have hby := Bd.bytes
  have hml : c.maxLocals = 1 := hml0
  have hown : s.vm.findClass "java/lang/StringLatin1" = some m.cls := findClass_of_methodNamed Bd.named
  have hnm := (name_of_methodNamed Bd.named Bd.method).1
  have X0 : Stand p l e ({ frames := 0, cells := 0, slots := 0, locals := 0 } : Room) s m #[(.int p0)] below meth c s₁ [] 0 0 := Stand.of_body Bd
  have e0 : s₁.heap = h0 := by rw [← hh, Bd.state]; rfl
  have N0 := Fr.nil n0
  have pre0 : ∀ t, Steps p.tables e below (s₁.setTop (mkF m 0 #[.val (.int p0)] [])) t → Steps p.tables e below (s₁.setTop (entryFrame m #[(.int p0)] 1)) t := fun t k => castTop (ef_14 m p0 ) k
  have pre1 : ∀ t, Steps p.tables e below (s₁.setTop (mkF m 12 #[.val (.int p0)] [(.int (1 : Int32))])) t → Steps p.tables e below (s₁.setTop (entryFrame m #[(.int p0)] 1)) t := fun t kt => pre0 t (by
      show Steps p.tables e below (s₁.setTop (mkF m 0 #[.val (.int p0)] [])) _
      refine XS.iloadN X0.here hx rfl (hb hby d14_0) rfl ?_
      show Steps p.tables e below (s₁.setTop (mkF m 1 #[.val (.int p0)] [(.int p0)])) _
      refine XS.sipush X0.here hx rfl (hb hby d14_1) ?_
      show Steps p.tables e below (s₁.setTop (mkF m 4 #[.val (.int p0)] [(.int (255 : Int32)), (.int p0)])) _
      refine XS.icmpNo X0.here hx rfl (hb hby d14_4) rfl (flt hc0).2.2.1 ?_
      show Steps p.tables e below (s₁.setTop (mkF m 7 #[.val (.int p0)] [])) _
      refine XS.iconst X0.here hx rfl (hb hby d14_7) ?_
      show Steps p.tables e below (s₁.setTop (mkF m 8 #[.val (.int p0)] [(.int (1 : Int32))])) _
      refine XS.goto X0.here hx rfl (pc0 := 8) (pc' := 12) rfl (hb hby d14_8) (by decide) (by decide) ?_
      exact kt)
  obtain ⟨fs, hr, hrun, hended, hW, hsame⟩ := X0.leave (v := some (.int (1 : Int32))) (fun h => by rw [Bd.returns] at h; cases h)
  refine ⟨_, _, pre1 _ ?_, hrun, hended, _, _, rfl, ?_, ⟨_, rfl⟩, hW, hsame.mono (by decide) (by decide)⟩
  · show Steps p.tables e below (s₁.setTop (mkF m 12 #[.val (.int p0)] [(.int (1 : Int32))])) _
    exact retN X0 hx (t := .boolean) Bd.returns (by simp) (hb hby d14_12) hr
  · show Q14 Z _ h0 n0 _ s₁.heap _
    rw [e0]
    exact ⟨rfl, N0, rfl⟩
theorem d15_0 : decode jdk_43_method_46_code 0 = .ok (.iconst 1, 1) := by decide +kernel
theorem d15_1 : decode jdk_43_method_46_code 1 = .ok (.newarray .byte, 2) := by decide +kernel
theorem d15_3 : decode jdk_43_method_46_code 3 = .ok (.dup, 1) := by decide +kernel
theorem d15_4 : decode jdk_43_method_46_code 4 = .ok (.iconst 0, 1) := by decide +kernel
theorem d15_5 : decode jdk_43_method_46_code 5 = .ok (.iload_n 0, 1) := by decide +kernel
theorem d15_6 : decode jdk_43_method_46_code 6 = .ok (.i2b, 1) := by decide +kernel
theorem d15_7 : decode jdk_43_method_46_code 7 = .ok (.bastore, 1) := by decide +kernel
theorem d15_8 : decode jdk_43_method_46_code 8 = .ok (.areturn, 1) := by decide +kernel
theorem ef_15 (m : MethodId) (x0 : Int32)  : entryFrame m #[(.int x0)] 1 = mkF m 0 #[.val (.int x0)] [] := by first | (simp [entryFrame, mkF, argsToLocals, Value.category]; done) | rfl
def Q15 (Z : State) (p0 : Int32) (h0 : Heap) (n0 : Nat) (v : Option Value) (h : Heap) (L : List Loc) : Prop := (∃ (r : Addr) (kb : ClassId), v = some (.ref r) ∧ (h0.size ≤ r) ∧ (Arv Z h r kb .byte (1 : Int32) [(.int ((p0.toInt8.toInt32)).toInt8.toInt32)] (.int (0 : Int32)))) ∧ Fr n0 L ∧ (Keep h0 h [])
set_option maxRecDepth 65536 in
set_option maxHeartbeats 40000000 in
theorem rm15 (l : Launch) (Z : State) (aw : Array Value) (hw : ∀ d ∈ tables_1, d.before aw Z = true) (ws : List Jvm.Cond) (p0 : Int32) (h0 : Heap) (n0 : Nat) (Z0 : n0 ≤ h0.size) :
    MetFree l (⟨"java/lang/StringLatin1", "toBytes", "(C)[B"⟩ : MethodName) (head1 (Jvm.Cond.code (⟨"java/lang/StringLatin1", "toBytes", "(C)[B"⟩ : MethodName) jdk_43_method_46_code 1 (some (.array .byte)) :: ws) ({ frames := 0, cells := 1, slots := 1, locals := 0 } : Room)) (fun a U => a = #[(.int p0)] ∧ Z.Warmed39 U.vm ∧ U.heap = h0) (fun _ _ _ _ _ => True) (fun _ U o U' => ∃ v L, o = .returned v ∧ Q15 Z p0 h0 n0 v U'.heap L ∧ FrameEnd U o U' L ({ frames := 0, cells := 1, slots := 1, locals := 0 } : Room).cells ({ frames := 0, cells := 1, slots := 1, locals := 0 } : Room).slots) := by
  refine MetFree.of_bodySF (plainFor_of_name pn_0) hisR ?_
  intro p e s m args below meth c s₁ Bd hml0 hP hK
  obtain ⟨rfl, hZ, hh⟩ := hP
  have hx := Bd.exec
  have hby := Bd.bytes
  have hml : c.maxLocals = 1 := hml0
  have hown : s.vm.findClass "java/lang/StringLatin1" = some m.cls := findClass_of_methodNamed Bd.named
  have hnm := (name_of_methodNamed Bd.named Bd.method).1
  have X0 : Stand p l e ({ frames := 0, cells := 1, slots := 1, locals := 0 } : Room) s m #[(.int p0)] below meth c s₁ [] 0 0 := Stand.of_body Bd
  have e0 : s₁.heap = h0 := by rw [← hh, Bd.state]; rfl
  have N0 := Fr.nil n0
  have pre0 : ∀ t, Steps p.tables e below (s₁.setTop (mkF m 0 #[.val (.int p0)] [])) t → Steps p.tables e below (s₁.setTop (entryFrame m #[(.int p0)] 1)) t := fun t k => castTop (ef_15 m p0 ) k
  obtain ⟨T1, h1, k1, X1, e1, E1, A1, st1⟩ := newP X0 hx hZ (hw _ (List.mem_of_getElem? (i := 11) rfl)) e0 (g := (mkF m 1 #[.val (.int p0)] [(.int (1 : Int32))])) rfl (hb hby d15_1) rfl (by decide) (cap := 1) (by decide) (by decide) (by decide) (by decide)
  obtain ⟨b1, g1⟩ : ∃ z, z = h0.size := ⟨_, rfl⟩
  rw [← g1] at A1 st1
  have ge_b1 : n0 ≤ b1 := Nat.le_trans Z0 (Nat.le_of_eq g1.symm)
  have sz_b1 : h0.size ≤ b1 := Nat.le_trans (Keep.refl h0 []).1 (Nat.le_of_eq g1.symm)
  have K1 : Keep h0 h1 [] := Keep.ext (Keep.refl h0 []) E1
  have V1 : Arv Z h1 b1 k1 .byte (1 : Int32) [(.int (0 : Int32))] (.int (0 : Int32)) := (Arv.new A1 (by decide)).pad (pad_rep [] (.int (0 : Int32)) 1)
  obtain ⟨co2, Ao2, qo2, So2, No2, Ho2, Go2⟩ := id V1
  have hin3 : ¬ ((0 : Int32) < 0 ∨ co2.slots.size ≤ ((0 : Int32)).toNatClampNeg) := inb_of So2 ⟨by decide, by decide⟩
  obtain ⟨T4, h4, X4, e4, W4, st4⟩ := stB X1 hx hZ e1 Ao2 (j := (0 : Int32)) hin3 (g := (mkF m 7 #[.val (.int p0)] [(.int (p0.toInt8.toInt32)), (.int (0 : Int32)), (.ref b1), (.ref b1)])) rfl rfl (hb hby d15_7)
  have V4 : Arv Z h4 b1 k1 .byte (1 : Int32) [(.int ((p0.toInt8.toInt32)).toInt8.toInt32)] (.int (0 : Int32)) := Arv.set Ao2 qo2 So2 No2 Ho2 Go2 (fits_nar_byte _) W4 0 rfl (Nat.le_of_ble_eq_true rfl)
  have N4 := Fr.snoc X4 N0 ge_b1
  have K4 : Keep h0 h4 [] := Keep.wr K1 W4 (Or.inr sz_b1)
  have pre5 : ∀ t, Steps p.tables e below (T4.setTop (mkF m 8 #[.val (.int p0)] [(.ref b1)])) t → Steps p.tables e below (s₁.setTop (entryFrame m #[(.int p0)] 1)) t := fun t kt => pre0 t (by
      show Steps p.tables e below (s₁.setTop (mkF m 0 #[.val (.int p0)] [])) _
      refine XS.iconst X0.here hx rfl (hb hby d15_0) ?_
      show Steps p.tables e below (s₁.setTop (mkF m 1 #[.val (.int p0)] [(.int (1 : Int32))])) _
      refine st1 _ ?_
      show Steps p.tables e below (T1.setTop (mkF m 3 #[.val (.int p0)] [(.ref b1)])) _
      refine XS.dup X1.here hx rfl (hb hby d15_3) rfl rfl ?_
      show Steps p.tables e below (T1.setTop (mkF m 4 #[.val (.int p0)] [(.ref b1), (.ref b1)])) _
      refine XS.iconst X1.here hx rfl (hb hby d15_4) ?_
      show Steps p.tables e below (T1.setTop (mkF m 5 #[.val (.int p0)] [(.int (0 : Int32)), (.ref b1), (.ref b1)])) _
      refine XS.iloadN X1.here hx rfl (hb hby d15_5) rfl ?_
      show Steps p.tables e below (T1.setTop (mkF m 6 #[.val (.int p0)] [(.int p0), (.int (0 : Int32)), (.ref b1), (.ref b1)])) _
      refine XS.i2b X1.here hx rfl (hb hby d15_6) rfl ?_
      show Steps p.tables e below (T1.setTop (mkF m 7 #[.val (.int p0)] [(.int (p0.toInt8.toInt32)), (.int (0 : Int32)), (.ref b1), (.ref b1)])) _
      refine st4 _ ?_
      exact kt)
  obtain ⟨fs, hr, hrun, hended, hW, hsame⟩ := X4.leave (v := some (.ref b1)) (fun h => by rw [Bd.returns] at h; cases h)
  refine ⟨_, _, pre5 _ ?_, hrun, hended, _, _, rfl, ?_, ⟨_, rfl⟩, hW, hsame.mono (by decide) (by decide)⟩
  · show Steps p.tables e below (T4.setTop (mkF m 8 #[.val (.int p0)] [(.ref b1)])) _
    jvm_step X4.here [X4.here.top, hx, (hb hby d15_8), X4.method', Bd.returns, Value.isRef, FieldType.isReference]
    first | (intro acts; rw [hr _ acts rfl rfl rfl]) | rw [hr _ _ rfl rfl rfl]
    exact Steps.refl _
  · show Q15 Z _ h0 n0 _ T4.heap _
    rw [e4]
    exact ⟨⟨_, _, rfl, sz_b1, V4⟩, N4, K4⟩
theorem pn_1 : plainName "java/lang/String" = true := by first | (simp [plainName, overriddenIn]; done) | decide +kernel
theorem d16_0 : decode jdk_42_method_151_code 0 = .ok (.aload_n 0, 1) := by decide +kernel
theorem d16_1 : decode jdk_42_method_151_code 1 = .ok (.invokespecial 1, 3) := by decide +kernel
theorem d16_4 : decode jdk_42_method_151_code 4 = .ok (.aload_n 0, 1) := by decide +kernel
theorem d16_5 : decode jdk_42_method_151_code 5 = .ok (.aload_n 1, 1) := by decide +kernel
theorem d16_6 : decode jdk_42_method_151_code 6 = .ok (.putfield 9, 3) := by decide +kernel
theorem d16_9 : decode jdk_42_method_151_code 9 = .ok (.aload_n 0, 1) := by decide +kernel
theorem d16_10 : decode jdk_42_method_151_code 10 = .ok (.iload_n 2, 1) := by decide +kernel
theorem d16_11 : decode jdk_42_method_151_code 11 = .ok (.putfield 15, 3) := by decide +kernel
theorem d16_14 : decode jdk_42_method_151_code 14 = .ok (.return_, 1) := by decide +kernel
theorem ef_16 (m : MethodId) (x0 : Addr) (x1 : Addr) (x2 : Int32)  : entryFrame m #[(.ref x0), (.ref x1), (.int x2)] 3 = mkF m 0 #[.val (.ref x0), .val (.ref x1), .val (.int x2)] [] := by first | (simp [entryFrame, mkF, argsToLocals, Value.category]; done) | rfl
def Q16 (Z : State) (a0 : Addr) (a1 : Addr) (u_value_0 : Value) (u_coder_1 : Value) (h0 : Heap) (n0 : Nat) (v : Option Value) (h : Heap) (L : List Loc) : Prop := v = none ∧ Fr n0 L ∧ (Keep h0 h [a0]) ∧ (Exa Z h a0 "java/lang/String") ∧ (Fld Z h a0 "java/lang/String" "coder" "B" (.int (0 : Int32))) ∧ (Fld Z h a0 "java/lang/String" "value" "[B" (.ref a1))
set_option maxRecDepth 65536 in
set_option maxHeartbeats 40000000 in
theorem rm16 (l : Launch) (Z : State) (aw : Array Value) (hw : ∀ d ∈ tables_1, d.before aw Z = true) (ws : List Jvm.Cond) (a0 : Addr) (a1 : Addr) (u_value_0 : Value) (u_coder_1 : Value) (h0 : Heap) (n0 : Nat) (Z0 : n0 ≤ h0.size) (Exa_0 : Exa Z h0 a0 "java/lang/String") (Fo_value_1 : Fld Z h0 a0 "java/lang/String" "value" "[B" u_value_0) (g_a0 : n0 ≤ a0) (Fo_coder_3 : Fld Z h0 a0 "java/lang/String" "coder" "B" u_coder_1) :
    MetFree l (⟨"java/lang/String", "<init>", "([BB)V"⟩ : MethodName) (head1 (Jvm.Cond.code (⟨"java/lang/String", "<init>", "([BB)V"⟩ : MethodName) jdk_42_method_151_code 3 none :: ws) ({ frames := 1, cells := 0, slots := 0, locals := 12 } : Room)) (fun a U => a = #[(.ref a0), (.ref a1), (.int (0 : Int32))] ∧ Z.Warmed39 U.vm ∧ U.heap = h0) (fun _ _ _ _ _ => True) (fun _ U o U' => ∃ v L, o = .returned v ∧ Q16 Z a0 a1 u_value_0 u_coder_1 h0 n0 v U'.heap L ∧ FrameEnd U o U' L ({ frames := 1, cells := 0, slots := 0, locals := 12 } : Room).cells ({ frames := 1, cells := 0, slots := 0, locals := 12 } : Room).slots) := by
  refine MetFree.of_bodySF (plainFor_of_name pn_1) hisR ?_
  intro p e s m args below meth c s₁ Bd hml0 hP hK
  obtain ⟨rfl, hZ, hh⟩ := hP
  have hx := Bd.exec
  have hby := Bd.bytes
  have hml : c.maxLocals = 3 := hml0
  have hown : s.vm.findClass "java/lang/String" = some m.cls := findClass_of_methodNamed Bd.named
  have hnm := (name_of_methodNamed Bd.named Bd.method).1
  have X0 : Stand p l e ({ frames := 1, cells := 0, slots := 0, locals := 12 } : Room) s m #[(.ref a0), (.ref a1), (.int (0 : Int32))] below meth c s₁ [] 0 0 := Stand.of_body Bd
  have e0 : s₁.heap = h0 := by rw [← hh, Bd.state]; rfl
  have N0 := Fr.nil n0
  have pre0 : ∀ t, Steps p.tables e below (s₁.setTop (mkF m 0 #[.val (.ref a0), .val (.ref a1), .val (.int (0 : Int32))] [])) t → Steps p.tables e below (s₁.setTop (entryFrame m #[(.ref a0), (.ref a1), (.int (0 : Int32))] 3)) t := fun t k => castTop (ef_16 m a0 a1 (0 : Int32) ) k
  obtain ⟨T1, X1, e1, st1⟩ := initO X0 hx hZ hown (hw _ (List.mem_of_getElem? (i := 56) rfl)) (hw _ (List.mem_of_getElem? (i := 28) rfl)) (hw _ (List.mem_of_getElem? (i := 29) rfl)) e0 (g := (mkF m 1 #[.val (.ref a0), .val (.ref a1), .val (.int (0 : Int32))] [(.ref a0)])) rfl (by rw [hml]; rfl) rfl (hb hby d16_1) (by decide) (W := 0) (by show 2 * 0 + _ ≤ _; exact Nat.le_of_eq rfl) (by decide)
  obtain ⟨T2, h2, X2, e2, W2, st2⟩ := putF X1 hx hZ hown (host := "") (Or.inl (hw _ (List.mem_of_getElem? (i := 46) rfl))) Via.refl e1 Fo_value_1 Exa_0 (Or.inr ⟨(hw _ (List.mem_of_getElem? (i := 12) rfl)), rfl, hnm⟩) (hw _ (List.mem_of_getElem? (i := 10) rfl)) (ty := (.array .byte)) (by decide) rfl rfl (g := (mkF m 6 #[.val (.ref a0), .val (.ref a1), .val (.int (0 : Int32))] [(.ref a1), (.ref a0)])) rfl rfl (hb hby d16_6)
  have Fw2 := Fo_value_1.same W2
  have f3 := (Exa_0.wr W2)
  have N2 := Fr.snoc X2 N0 g_a0
  have K2 : Keep h0 h2 [a0] := Keep.wr (Keep.refl h0 [a0]) W2 (Or.inl (List.mem_of_getElem? (i := 0) rfl))
  obtain ⟨T4, h4, X4, e4, W4, st4⟩ := putFN X2 hx hZ hown (hw _ (List.mem_of_getElem? (i := 68) rfl)) Via.refl e2 (Fo_coder_3.other W2 (Or.inr (slot_ne (Or.inr (hw _ (List.mem_of_getElem? (i := 13) rfl))) (Or.inr (hw _ (List.mem_of_getElem? (i := 12) rfl))) (by decide) (t := .byte) (t' := (.array .byte)) (by decide) (by decide)))) f3 (Or.inr ⟨(hw _ (List.mem_of_getElem? (i := 13) rfl)), rfl, hnm⟩) (hw _ (List.mem_of_getElem? (i := 10) rfl)) (ty := .byte) (v' := (.int (0 : Int32))) (by decide) rfl (by decide) (g := (mkF m 11 #[.val (.ref a0), .val (.ref a1), .val (.int (0 : Int32))] [(.int (0 : Int32)), (.ref a0)])) rfl rfl (hb hby d16_11)
  have Fw4 := (Fo_coder_3.other W2 (Or.inr (slot_ne (Or.inr (hw _ (List.mem_of_getElem? (i := 13) rfl))) (Or.inr (hw _ (List.mem_of_getElem? (i := 12) rfl))) (by decide) (t := .byte) (t' := (.array .byte)) (by decide) (by decide)))).same W4
  have f5 := (f3.wr W4)
  have f6 := (Fw2.other W4 (Or.inr (slot_ne (Or.inr (hw _ (List.mem_of_getElem? (i := 12) rfl))) (Or.inr (hw _ (List.mem_of_getElem? (i := 13) rfl))) (by decide) (t := (.array .byte)) (t' := .byte) (by decide) (by decide))))
  have N4 := Fr.snoc X4 N2 g_a0
  have K4 : Keep h0 h4 [a0] := Keep.wr K2 W4 (Or.inl (List.mem_of_getElem? (i := 0) rfl))
  have pre7 : ∀ t, Steps p.tables e below (T4.setTop (mkF m 14 #[.val (.ref a0), .val (.ref a1), .val (.int (0 : Int32))] [])) t → Steps p.tables e below (s₁.setTop (entryFrame m #[(.ref a0), (.ref a1), (.int (0 : Int32))] 3)) t := fun t kt => pre0 t (by
      show Steps p.tables e below (s₁.setTop (mkF m 0 #[.val (.ref a0), .val (.ref a1), .val (.int (0 : Int32))] [])) _
      refine XS.aloadN X0.here hx rfl (hb hby d16_0) rfl rfl ?_
      show Steps p.tables e below (s₁.setTop (mkF m 1 #[.val (.ref a0), .val (.ref a1), .val (.int (0 : Int32))] [(.ref a0)])) _
      refine st1 _ ?_
      show Steps p.tables e below (T1.setTop (mkF m 4 #[.val (.ref a0), .val (.ref a1), .val (.int (0 : Int32))] [])) _
      refine XS.aloadN X1.here hx rfl (hb hby d16_4) rfl rfl ?_
      show Steps p.tables e below (T1.setTop (mkF m 5 #[.val (.ref a0), .val (.ref a1), .val (.int (0 : Int32))] [(.ref a0)])) _
      refine XS.aloadN X1.here hx rfl (hb hby d16_5) rfl rfl ?_
      show Steps p.tables e below (T1.setTop (mkF m 6 #[.val (.ref a0), .val (.ref a1), .val (.int (0 : Int32))] [(.ref a1), (.ref a0)])) _
      refine st2 _ ?_
      show Steps p.tables e below (T2.setTop (mkF m 9 #[.val (.ref a0), .val (.ref a1), .val (.int (0 : Int32))] [])) _
      refine XS.aloadN X2.here hx rfl (hb hby d16_9) rfl rfl ?_
      show Steps p.tables e below (T2.setTop (mkF m 10 #[.val (.ref a0), .val (.ref a1), .val (.int (0 : Int32))] [(.ref a0)])) _
      refine XS.iloadN X2.here hx rfl (hb hby d16_10) rfl ?_
      show Steps p.tables e below (T2.setTop (mkF m 11 #[.val (.ref a0), .val (.ref a1), .val (.int (0 : Int32))] [(.int (0 : Int32)), (.ref a0)])) _
      refine st4 _ ?_
      exact kt)
  obtain ⟨fs, hr, hrun, hended, hW, hsame⟩ := X4.leave (v := none) (fun _ => rfl)
  refine ⟨_, _, pre7 _ ?_, hrun, hended, _, _, rfl, ?_, ⟨_, rfl⟩, hW, hsame.mono (by decide) (by decide)⟩
  · show Steps p.tables e below (T4.setTop (mkF m 14 #[.val (.ref a0), .val (.ref a1), .val (.int (0 : Int32))] [])) _
    exact X4.returnOut hx Bd.returns (hb hby d16_14) hr
  · show Q16 Z _ _ _ _ h0 n0 _ T4.heap _
    rw [e4]
    exact ⟨rfl, N4, K4, f5, Fw4, f6⟩
theorem pd_0 : parseMethodDescriptor "(C)Z" = some ⟨[.char], some .boolean⟩ := by decide +kernel
theorem pd_1 : parseMethodDescriptor "(C)[B" = some ⟨[.char], some (.array .byte)⟩ := by decide +kernel
theorem pd_2 : parseMethodDescriptor "([BB)V" = some ⟨[(.array .byte), .byte], none⟩ := by decide +kernel
theorem d13_0 : decode jdk_42_method_139_code 0 = .ok (.getstatic 38, 3) := by decide +kernel
theorem d13_3 : decode jdk_42_method_139_code 3 = .ok (.ifCond .eq 23, 3) := by decide +kernel
theorem d13_6 : decode jdk_42_method_139_code 6 = .ok (.iload_n 0, 1) := by decide +kernel
theorem d13_7 : decode jdk_42_method_139_code 7 = .ok (.invokestatic 1015, 3) := by decide +kernel
theorem d13_10 : decode jdk_42_method_139_code 10 = .ok (.ifCond .eq 16, 3) := by decide +kernel
theorem d13_13 : decode jdk_42_method_139_code 13 = .ok (.new 10, 3) := by decide +kernel
theorem d13_16 : decode jdk_42_method_139_code 16 = .ok (.dup, 1) := by decide +kernel
theorem d13_17 : decode jdk_42_method_139_code 17 = .ok (.iload_n 0, 1) := by decide +kernel
theorem d13_18 : decode jdk_42_method_139_code 18 = .ok (.invokestatic 1018, 3) := by decide +kernel
theorem d13_21 : decode jdk_42_method_139_code 21 = .ok (.iconst 0, 1) := by decide +kernel
theorem d13_22 : decode jdk_42_method_139_code 22 = .ok (.invokespecial 209, 3) := by decide +kernel
theorem d13_25 : decode jdk_42_method_139_code 25 = .ok (.areturn, 1) := by decide +kernel
theorem ef_13 (m : MethodId) (x0 : Int32)  : entryFrame m #[(.int x0)] 1 = mkF m 0 #[.val (.int x0)] [] := by first | (simp [entryFrame, mkF, argsToLocals, Value.category]; done) | rfl
def Q13 (Z : State) (p0 : Int32) (w_COMPACT_STRINGS_0 : Int32) (h0 : Heap) (n0 : Nat) (v : Option Value) (h : Heap) (L : List Loc) : Prop := (∃ (r : Addr) (vb : Addr) (kb : ClassId), v = some (.ref r) ∧ (h0.size ≤ r) ∧ (Exa Z h r "java/lang/String") ∧ (Fld Z h r "java/lang/String" "coder" "B" (.int (0 : Int32))) ∧ (Fld Z h r "java/lang/String" "value" "[B" (.ref vb)) ∧ (Arv Z h vb kb .byte (1 : Int32) [(.int ((p0.toInt8.toInt32)).toInt8.toInt32)] (.int (0 : Int32)))) ∧ Fr n0 L ∧ (Keep h0 h [])
set_option maxRecDepth 65536 in
set_option maxHeartbeats 40000000 in
theorem rm13 (l : Launch) (Z : State) (aw : Array Value) (hw : ∀ d ∈ tables_1, d.before aw Z = true) (ws : List Jvm.Cond) (p0 : Int32) (w_COMPACT_STRINGS_0 : Int32) (h0 : Heap) (n0 : Nat) (Z0 : n0 ≤ h0.size) (hc0 : ¬ ((255 : Int32) < p0)) (Sf_COMPACT_STRINGS_1 : Sta Z h0 "java/lang/String" "COMPACT_STRINGS" "Z" (.int w_COMPACT_STRINGS_0)) (hp2 : ¬ w_COMPACT_STRINGS_0 = (0 : Int32)) :
    MetFree l (⟨"java/lang/String", "valueOf", "(C)Ljava/lang/String;"⟩ : MethodName) (head1 (Jvm.Cond.code (⟨"java/lang/String", "valueOf", "(C)Ljava/lang/String;"⟩ : MethodName) jdk_42_method_139_code 1 (some (.object "java/lang/String")) :: ws) ({ frames := 2, cells := 2, slots := 5, locals := 27 } : Room)) (fun a U => a = #[(.int p0)] ∧ Z.Warmed39 U.vm ∧ U.heap = h0) (fun _ _ _ _ _ => True) (fun _ U o U' => ∃ v L, o = .returned v ∧ Q13 Z p0 w_COMPACT_STRINGS_0 h0 n0 v U'.heap L ∧ FrameEnd U o U' L ({ frames := 2, cells := 2, slots := 5, locals := 27 } : Room).cells ({ frames := 2, cells := 2, slots := 5, locals := 27 } : Room).slots) := by
  refine MetFree.of_bodySF (plainFor_of_name pn_1) hisR ?_
  intro p e s m args below meth c s₁ Bd hml0 hP hK
  obtain ⟨rfl, hZ, hh⟩ := hP
  have hx := Bd.exec
  have hby := Bd.bytes
  have hml : c.maxLocals = 1 := hml0
  have hown : s.vm.findClass "java/lang/String" = some m.cls := findClass_of_methodNamed Bd.named
  have hnm := (name_of_methodNamed Bd.named Bd.method).1
  have X0 : Stand p l e ({ frames := 2, cells := 2, slots := 5, locals := 27 } : Room) s m #[(.int p0)] below meth c s₁ [] 0 0 := Stand.of_body Bd
  have e0 : s₁.heap = h0 := by rw [← hh, Bd.state]; rfl
  have N0 := Fr.nil n0
  have pre0 : ∀ t, Steps p.tables e below (s₁.setTop (mkF m 0 #[.val (.int p0)] [])) t → Steps p.tables e below (s₁.setTop (entryFrame m #[(.int p0)] 1)) t := fun t k => castTop (ef_13 m p0 ) k
  obtain ⟨T1, X1, e1, st1⟩ := getS2 X0 hx hZ hown (host := "") (Or.inl (hw _ (List.mem_of_getElem? (i := 57) rfl))) Via.refl e0 Sf_COMPACT_STRINGS_1 (g := (mkF m 0 #[.val (.int p0)] [])) rfl (hb hby d13_0)
  obtain ⟨_, _, ⟨T3, L3, k3, n3⟩, -, X3, ⟨Lc3, hQ3, l3, y3, z3⟩, st3⟩ := Jvm.LawKit.callS X1 hx (y := (⟨"java/lang/StringLatin1", "canEncode", "(C)Z"⟩ : MethodName)) hown (mvT hZ (hw _ (List.mem_of_getElem? (i := 72) rfl))) (mvT hZ (hw _ (List.mem_of_getElem? (i := 73) rfl))) (mvT hZ (hw _ (List.mem_of_getElem? (i := 74) rfl))) (mvT hZ (hw _ (List.mem_of_getElem? (i := 75) rfl))) (by decide) (backOf (W := 0) (rm14 l Z aw hw [] p0 h0 n0 Z0 hc0) hZ (hw _ (List.mem_of_getElem? (i := 75) rfl)) (hw _ (List.mem_of_getElem? (i := 74) rfl)) (by decide) (by decide)) (g := (mkF m 7 #[.val (.int p0)] [(.int p0)])) rfl (by rw [hml]; rfl) (argsL := [(.int p0)]) (rest := []) (lenOf pd_0 rfl) rfl (by show 2 * 0 + _ ≤ _; exact Nat.le_of_eq rfl) (hb hby d13_7) (fun _ _ => ⟨rfl, e1, (by decide : 0 + 0 ≤ _), (by decide : 0 + 0 ≤ _)⟩)
  dsimp only [Pt.U, Pt.locs, Pt.cells, Pt.slots] at X3 l3 y3 z3 st3 hQ3
  subst l3 y3 z3
  obtain ⟨rfl, Nq3, e3⟩ := hQ3
  have N3 := Fr.app N0 Nq3
  obtain ⟨T4, h4, X4, e4, E4, A4, D4, -, st4⟩ := newO X3 hx hZ hown (hw _ (List.mem_of_getElem? (i := 76) rfl)) (hw _ (List.mem_of_getElem? (i := 10) rfl)) (hw _ (List.mem_of_getElem? (i := 9) rfl)) e3 (g := (mkF m 13 #[.val (.int p0)] [])) rfl (hb hby d13_13) (by decide) (by decide)
  obtain ⟨b4, g4⟩ : ∃ z, z = h0.size := ⟨_, rfl⟩
  rw [← g4] at A4 D4 st4
  have f5 := (Sf_COMPACT_STRINGS_1.ext E4)
  have ge_b4 : n0 ≤ b4 := Nat.le_trans Z0 (Nat.le_of_eq g4.symm)
  have sz_b4 : h0.size ≤ b4 := Nat.le_trans (Keep.refl h0 []).1 (Nat.le_of_eq g4.symm)
  have K4 : Keep h0 h4 [] := Keep.ext (Keep.refl h0 []) E4
  have F4_value : Fld Z h4 b4 "java/lang/String" "value" "[B" .null := D4 (Or.inr (hw _ (List.mem_of_getElem? (i := 12) rfl))) (ty := (.array .byte)) (by decide)
  have F4_coder : Fld Z h4 b4 "java/lang/String" "coder" "B" (.int (0 : Int32)) := D4 (Or.inr (hw _ (List.mem_of_getElem? (i := 13) rfl))) (ty := .byte) (by decide)
  obtain ⟨_, _, ⟨T6, L6, k6, n6⟩, -, X6, ⟨Lc6, hQ6, l6, y6, z6⟩, st6⟩ := Jvm.LawKit.callS X4 hx (y := (⟨"java/lang/StringLatin1", "toBytes", "(C)[B"⟩ : MethodName)) hown (mvT hZ (hw _ (List.mem_of_getElem? (i := 77) rfl))) (mvT hZ (hw _ (List.mem_of_getElem? (i := 78) rfl))) (mvT hZ (hw _ (List.mem_of_getElem? (i := 74) rfl))) (mvT hZ (hw _ (List.mem_of_getElem? (i := 79) rfl))) (by decide) (backOf (W := 2) (rm15 l Z aw hw [] p0 h4 n0 (Nat.le_trans Z0 E4.1) ) hZ (hw _ (List.mem_of_getElem? (i := 79) rfl)) (hw _ (List.mem_of_getElem? (i := 74) rfl)) (by decide) (by decide)) (g := (mkF m 18 #[.val (.int p0)] [(.int p0), (.ref b4), (.ref b4)])) rfl (by rw [hml]; rfl) (argsL := [(.int p0)]) (rest := [(.ref b4), (.ref b4)]) (lenOf pd_1 rfl) rfl (by show 2 * 0 + _ ≤ _; exact Nat.le_of_eq rfl) (hb hby d13_18) (fun _ _ => ⟨rfl, e4, (by decide : 1 + 1 ≤ _), (by decide : 4 + 1 ≤ _)⟩)
  dsimp only [Pt.U, Pt.locs, Pt.cells, Pt.slots] at X6 l6 y6 z6 st6 hQ6
  subst l6 y6 z6
  obtain ⟨⟨r7, kb8, rfl, m6_0, m6_1⟩, Nq6, c6_0⟩ := hQ6
  have N6 := Fr.app N3 Nq6
  have f9 := (own_sta_keep f5 c6_0 all0)
  have f10 := (A4.keep c6_0)
  have f11 := (F4_value.keep c6_0 nin0)
  have f12 := (F4_coder.keep c6_0 nin0)
  have K13 : Keep h0 T6.heap [] := Keep.trans K4 c6_0 all0
  obtain ⟨_, _, ⟨T14, L14, k14, n14⟩, -, X14, ⟨Lc14, hQ14, l14, y14, z14⟩, st14⟩ := X6.specialBack hx (y := (⟨"java/lang/String", "<init>", "([BB)V"⟩ : MethodName)) rfl hown (mvT hZ (hw _ (List.mem_of_getElem? (i := 80) rfl))) (mvT hZ (hw _ (List.mem_of_getElem? (i := 81) rfl))) (mvT hZ (hw _ (List.mem_of_getElem? (i := 82) rfl))) (by decide) (backOf (W := 1) (rm16 l Z aw hw [] b4 r7 .null (.int (0 : Int32)) T6.heap n0 (Nat.le_trans (Nat.le_trans Z0 E4.1) c6_0.1) f10 f11 ge_b4 f12) hZ (hw _ (List.mem_of_getElem? (i := 82) rfl)) (hw _ (List.mem_of_getElem? (i := 9) rfl)) (by decide) (by decide)) (g := (mkF m 22 #[.val (.int p0)] [(.int (0 : Int32)), (.ref r7), (.ref b4), (.ref b4)])) rfl (by rw [hml]; rfl) (Steps.refl _) (a := b4) (argsL := [(.ref r7), (.int (0 : Int32))]) (rest := [(.ref b4)]) (lenOf pd_2 rfl) rfl (by show 2 * 0 + _ ≤ _; exact Nat.le_of_eq rfl) (hb hby d13_22) (fun _ _ => ⟨rfl, rfl, (by decide : 2 + 0 ≤ _), (by decide : 5 + 0 ≤ _)⟩)
  dsimp only [Pt.U, Pt.locs, Pt.cells, Pt.slots] at X14 l14 y14 z14 st14 hQ14
  subst l14 y14 z14
  obtain ⟨rfl, Nq14, c14_0, c14_1, c14_2, c14_3⟩ := hQ14
  have N14 := Fr.app N6 Nq14
  have f15 := (own_sta_keep f9 c14_0 (allS (own_exa_ns f10) all0))
  have f16 := (f10.keep c14_0)
  have f17 := (m6_1.keep c14_0 (ninS (Nat.ne_of_gt (Nat.lt_of_lt_of_le A4.lt m6_0)) nin0))
  have K18 : Keep h0 T14.heap [] := Keep.trans K13 c14_0 (allS (Or.inr sz_b4) all0)
  have pre19 : ∀ t, Steps p.tables e below (T14.setTop (mkF m 25 #[.val (.int p0)] [(.ref b4)])) t → Steps p.tables e below (s₁.setTop (entryFrame m #[(.int p0)] 1)) t := fun t kt => pre0 t (by
      show Steps p.tables e below (s₁.setTop (mkF m 0 #[.val (.int p0)] [])) _
      refine st1 _ ?_
      show Steps p.tables e below (T1.setTop (mkF m 3 #[.val (.int p0)] [(.int w_COMPACT_STRINGS_0)])) _
      refine XS.ifNo X1.here hx rfl (hb hby d13_3) rfl ((if0 _ _).trans (feq hp2).1) ?_
      show Steps p.tables e below (T1.setTop (mkF m 6 #[.val (.int p0)] [])) _
      refine XS.iloadN X1.here hx rfl (hb hby d13_6) rfl ?_
      show Steps p.tables e below (T1.setTop (mkF m 7 #[.val (.int p0)] [(.int p0)])) _
      refine st3 _ ?_
      show Steps p.tables e below (T3.setTop (mkF m 10 #[.val (.int p0)] [(.int (1 : Int32))])) _
      refine XS.ifNo X3.here hx rfl (hb hby d13_10) rfl ((if0 _ _).trans (feq (by decide : ¬ ((1 : Int32) = (0 : Int32)))).1) ?_
      show Steps p.tables e below (T3.setTop (mkF m 13 #[.val (.int p0)] [])) _
      refine st4 _ ?_
      show Steps p.tables e below (T4.setTop (mkF m 16 #[.val (.int p0)] [(.ref b4)])) _
      refine XS.dup X4.here hx rfl (hb hby d13_16) rfl rfl ?_
      show Steps p.tables e below (T4.setTop (mkF m 17 #[.val (.int p0)] [(.ref b4), (.ref b4)])) _
      refine XS.iloadN X4.here hx rfl (hb hby d13_17) rfl ?_
      show Steps p.tables e below (T4.setTop (mkF m 18 #[.val (.int p0)] [(.int p0), (.ref b4), (.ref b4)])) _
      refine st6 _ ?_
      show Steps p.tables e below (T6.setTop (mkF m 21 #[.val (.int p0)] [(.ref r7), (.ref b4), (.ref b4)])) _
      refine XS.iconst X6.here hx rfl (hb hby d13_21) ?_
      show Steps p.tables e below (T6.setTop (mkF m 22 #[.val (.int p0)] [(.int (0 : Int32)), (.ref r7), (.ref b4), (.ref b4)])) _
      refine st14.trans ?_
      exact kt)
  obtain ⟨fs, hr, hrun, hended, hW, hsame⟩ := X14.leave (v := some (.ref b4)) (fun h => by rw [Bd.returns] at h; cases h)
  refine ⟨_, _, pre19 _ ?_, hrun, hended, _, _, rfl, ?_, ⟨_, rfl⟩, hW, hsame.mono (by decide) (by decide)⟩
  · show Steps p.tables e below (T14.setTop (mkF m 25 #[.val (.int p0)] [(.ref b4)])) _
    jvm_step X14.here [X14.here.top, hx, (hb hby d13_25), X14.method', Bd.returns, Value.isRef, FieldType.isReference]
    first | (intro acts; rw [hr _ acts rfl rfl rfl]) | rw [hr _ _ rfl rfl rfl]
    exact Steps.refl _
  · show Q13 Z _ _ h0 n0 _ T14.heap _
    exact ⟨⟨_, _, _, rfl, sz_b4, c14_1, c14_2, c14_3, f17⟩, N14, K18⟩
theorem pn_2 : plainName "java/lang/StringUTF16" = true := by first | (simp [plainName, overriddenIn]; done) | decide +kernel
theorem d11_0 : decode jdk_52_method_21_code 0 = .ok (.iconst 0, 1) := by decide +kernel
theorem d11_1 : decode jdk_52_method_21_code 1 = .ok (.istore 5, 2) := by decide +kernel
theorem d11_3 : decode jdk_52_method_21_code 3 = .ok (.iload 5, 2) := by decide +kernel
theorem d11_5 : decode jdk_52_method_21_code 5 = .ok (.iload 4, 2) := by decide +kernel
theorem d11_7 : decode jdk_52_method_21_code 7 = .ok (.if_icmp .ge 37, 3) := by decide +kernel
theorem d11_10 : decode jdk_52_method_21_code 10 = .ok (.aload_n 0, 1) := by decide +kernel
theorem d11_11 : decode jdk_52_method_21_code 11 = .ok (.iload_n 1, 1) := by decide +kernel
theorem d11_12 : decode jdk_52_method_21_code 12 = .ok (.caload, 1) := by decide +kernel
theorem d11_13 : decode jdk_52_method_21_code 13 = .ok (.istore 6, 2) := by decide +kernel
theorem d11_15 : decode jdk_52_method_21_code 15 = .ok (.iload 6, 2) := by decide +kernel
theorem d11_17 : decode jdk_52_method_21_code 17 = .ok (.sipush 255, 3) := by decide +kernel
theorem d11_20 : decode jdk_52_method_21_code 20 = .ok (.if_icmp .le 6, 3) := by decide +kernel
theorem d11_26 : decode jdk_52_method_21_code 26 = .ok (.aload_n 2, 1) := by decide +kernel
theorem d11_27 : decode jdk_52_method_21_code 27 = .ok (.iload_n 3, 1) := by decide +kernel
theorem d11_28 : decode jdk_52_method_21_code 28 = .ok (.iload 6, 2) := by decide +kernel
theorem d11_30 : decode jdk_52_method_21_code 30 = .ok (.i2b, 1) := by decide +kernel
theorem d11_31 : decode jdk_52_method_21_code 31 = .ok (.bastore, 1) := by decide +kernel
theorem d11_32 : decode jdk_52_method_21_code 32 = .ok (.iinc 1 1, 3) := by decide +kernel
theorem d11_35 : decode jdk_52_method_21_code 35 = .ok (.iinc 3 1, 3) := by decide +kernel
theorem d11_38 : decode jdk_52_method_21_code 38 = .ok (.iinc 5 1, 3) := by decide +kernel
theorem d11_41 : decode jdk_52_method_21_code 41 = .ok (.goto (-38), 3) := by decide +kernel
theorem d11_44 : decode jdk_52_method_21_code 44 = .ok (.iload 4, 2) := by decide +kernel
theorem d11_46 : decode jdk_52_method_21_code 46 = .ok (.ireturn, 1) := by decide +kernel
theorem ef_11 (m : MethodId) (x0 : Addr) (x1 : Int32) (x2 : Addr) (x3 : Int32) (x4 : Int32)  : entryFrame m #[(.ref x0), (.int x1), (.ref x2), (.int x3), (.int x4)] 7 = mkF m 0 #[.val (.ref x0), .val (.int x1), .val (.ref x2), .val (.int x3), .val (.int x4), .unset, .unset] [] := by first | (simp [entryFrame, mkF, argsToLocals, Value.category]; done) | rfl
def Q11 (Z : State) (a0 : Addr) (a2 : Addr) (c0 : Int32) (c1 : Int32) (kc : ClassId) (kb : ClassId) (h0 : Heap) (n0 : Nat) (v : Option Value) (h : Heap) (L : List Loc) : Prop := v = some (.int (2 : Int32)) ∧ Fr n0 L ∧ (Keep h0 h [a2]) ∧ (Arv Z h a2 kb .byte (2 : Int32) [(.int ((c0.toInt8.toInt32)).toInt8.toInt32), (.int ((c1.toInt8.toInt32)).toInt8.toInt32)] (.int (0 : Int32)))
set_option maxRecDepth 65536 in
set_option maxHeartbeats 40000000 in
theorem rm11 (l : Launch) (Z : State) (aw : Array Value) (hw : ∀ d ∈ tables_1, d.before aw Z = true) (ws : List Jvm.Cond) (a0 : Addr) (a2 : Addr) (c0 : Int32) (c1 : Int32) (kc : ClassId) (kb : ClassId) (h0 : Heap) (n0 : Nat) (Z0 : n0 ≤ h0.size) (h0c : ¬ (255 : Int32) < c0) (h1c : ¬ (255 : Int32) < c1) (hne : a0 ≠ a2) (Arv_3 : Arv Z h0 a0 kc .char (2 : Int32) [(.int c0), (.int c1)] (.int (0 : Int32))) (Arv_4 : Arv Z h0 a2 kb .byte (2 : Int32) [(.int (0 : Int32)), (.int (0 : Int32))] (.int (0 : Int32))) (g_a2 : n0 ≤ a2) :
    MetFree l (⟨"java/lang/StringUTF16", "compress", "([CI[BII)I"⟩ : MethodName) (head1 (Jvm.Cond.code (⟨"java/lang/StringUTF16", "compress", "([CI[BII)I"⟩ : MethodName) jdk_52_method_21_code 7 (some .int) :: ws) ({ frames := 0, cells := 0, slots := 0, locals := 0 } : Room)) (fun a U => a = #[(.ref a0), (.int (0 : Int32)), (.ref a2), (.int (0 : Int32)), (.int (2 : Int32))] ∧ Z.Warmed39 U.vm ∧ U.heap = h0) (fun _ _ _ _ _ => True) (fun _ U o U' => ∃ v L, o = .returned v ∧ Q11 Z a0 a2 c0 c1 kc kb h0 n0 v U'.heap L ∧ FrameEnd U o U' L ({ frames := 0, cells := 0, slots := 0, locals := 0 } : Room).cells ({ frames := 0, cells := 0, slots := 0, locals := 0 } : Room).slots) := by
  refine MetFree.of_bodySF (plainFor_of_name pn_2) hisR ?_
  intro p e s m args below meth c s₁ Bd hml0 hP hK
  obtain ⟨rfl, hZ, hh⟩ := hP
  have hx := Bd.exec
  have hby := Bd.bytes
  have hml : c.maxLocals = 7 := hml0
  have hown : s.vm.findClass "java/lang/StringUTF16" = some m.cls := findClass_of_methodNamed Bd.named
  have hnm := (name_of_methodNamed Bd.named Bd.method).1
  have X0 : Stand p l e ({ frames := 0, cells := 0, slots := 0, locals := 0 } : Room) s m #[(.ref a0), (.int (0 : Int32)), (.ref a2), (.int (0 : Int32)), (.int (2 : Int32))] below meth c s₁ [] 0 0 := Stand.of_body Bd
  have e0 : s₁.heap = h0 := by rw [← hh, Bd.state]; rfl
  have N0 := Fr.nil n0
  have pre0 : ∀ t, Steps p.tables e below (s₁.setTop (mkF m 0 #[.val (.ref a0), .val (.int (0 : Int32)), .val (.ref a2), .val (.int (0 : Int32)), .val (.int (2 : Int32)), .unset, .unset] [])) t → Steps p.tables e below (s₁.setTop (entryFrame m #[(.ref a0), (.int (0 : Int32)), (.ref a2), (.int (0 : Int32)), (.int (2 : Int32))] 7)) t := fun t k => castTop (ef_11 m a0 (0 : Int32) a2 (0 : Int32) (2 : Int32) ) k
  obtain ⟨co1, Ao1, qo1, So1, No1, Ho1, Go1⟩ := id Arv_3
  have hin2 : ¬ ((0 : Int32) < 0 ∨ co1.slots.size ≤ ((0 : Int32)).toNatClampNeg) := inb_of So1 ⟨by decide, by decide⟩
  have hat3 : co1.slots[((0 : Int32)).toNatClampNeg]? = some (.int c0) := Has.at Ho1 hin2 rfl
  obtain ⟨co4, Ao4, qo4, So4, No4, Ho4, Go4⟩ := id Arv_4
  have hin5 : ¬ ((0 : Int32) < 0 ∨ co4.slots.size ≤ ((0 : Int32)).toNatClampNeg) := inb_of So4 ⟨by decide, by decide⟩
  obtain ⟨T6, h6, X6, e6, W6, st6⟩ := stB X0 hx hZ e0 Ao4 (j := (0 : Int32)) hin5 (g := (mkF m 31 #[.val (.ref a0), .val (.int (0 : Int32)), .val (.ref a2), .val (.int (0 : Int32)), .val (.int (2 : Int32)), .val (.int (0 : Int32)), .val (.int c0)] [(.int (c0.toInt8.toInt32)), (.int (0 : Int32)), (.ref a2)])) rfl rfl (hb hby d11_31)
  have V6 : Arv Z h6 a2 kb .byte (2 : Int32) [(.int ((c0.toInt8.toInt32)).toInt8.toInt32), (.int (0 : Int32))] (.int (0 : Int32)) := Arv.set Ao4 qo4 So4 No4 Ho4 Go4 (fits_nar_byte _) W6 0 rfl (Nat.le_of_ble_eq_true rfl)
  have f7 := (Arv_3.other W6 hne)
  have N6 := Fr.snoc X6 N0 g_a2
  have K6 : Keep h0 h6 [a2] := Keep.wr (Keep.refl h0 [a2]) W6 (Or.inl (List.mem_of_getElem? (i := 0) rfl))
  obtain ⟨co8, Ao8, qo8, So8, No8, Ho8, Go8⟩ := id f7
  have hin9 : ¬ ((1 : Int32) < 0 ∨ co8.slots.size ≤ ((1 : Int32)).toNatClampNeg) := inb_of So8 ⟨by decide, by decide⟩
  have hat10 : co8.slots[((1 : Int32)).toNatClampNeg]? = some (.int c1) := Has.at Ho8 hin9 rfl
  obtain ⟨co11, Ao11, qo11, So11, No11, Ho11, Go11⟩ := id V6
  have hin12 : ¬ ((1 : Int32) < 0 ∨ co11.slots.size ≤ ((1 : Int32)).toNatClampNeg) := inb_of So11 ⟨by decide, by decide⟩
  obtain ⟨T13, h13, X13, e13, W13, st13⟩ := stB X6 hx hZ e6 Ao11 (j := (1 : Int32)) hin12 (g := (mkF m 31 #[.val (.ref a0), .val (.int (1 : Int32)), .val (.ref a2), .val (.int (1 : Int32)), .val (.int (2 : Int32)), .val (.int (1 : Int32)), .val (.int c1)] [(.int (c1.toInt8.toInt32)), (.int (1 : Int32)), (.ref a2)])) rfl rfl (hb hby d11_31)
  have V13 : Arv Z h13 a2 kb .byte (2 : Int32) [(.int ((c0.toInt8.toInt32)).toInt8.toInt32), (.int ((c1.toInt8.toInt32)).toInt8.toInt32)] (.int (0 : Int32)) := Arv.set Ao11 qo11 So11 No11 Ho11 Go11 (fits_nar_byte _) W13 1 rfl (Nat.le_of_ble_eq_true rfl)
  have f14 := (f7.other W13 hne)
  have N13 := Fr.snoc X13 N6 g_a2
  have K13 : Keep h0 h13 [a2] := Keep.wr K6 W13 (Or.inl (List.mem_of_getElem? (i := 0) rfl))
  have pre15 : ∀ t, Steps p.tables e below (T13.setTop (mkF m 46 #[.val (.ref a0), .val (.int (2 : Int32)), .val (.ref a2), .val (.int (2 : Int32)), .val (.int (2 : Int32)), .val (.int (2 : Int32)), .val (.int c1)] [(.int (2 : Int32))])) t → Steps p.tables e below (s₁.setTop (entryFrame m #[(.ref a0), (.int (0 : Int32)), (.ref a2), (.int (0 : Int32)), (.int (2 : Int32))] 7)) t := fun t kt => pre0 t (by
      show Steps p.tables e below (s₁.setTop (mkF m 0 #[.val (.ref a0), .val (.int (0 : Int32)), .val (.ref a2), .val (.int (0 : Int32)), .val (.int (2 : Int32)), .unset, .unset] [])) _
      refine XS.iconst X0.here hx rfl (hb hby d11_0) ?_
      show Steps p.tables e below (s₁.setTop (mkF m 1 #[.val (.ref a0), .val (.int (0 : Int32)), .val (.ref a2), .val (.int (0 : Int32)), .val (.int (2 : Int32)), .unset, .unset] [(.int (0 : Int32))])) _
      refine XS.istore X0.here hx rfl (hb hby d11_1) rfl (l' := #[.val (.ref a0), .val (.int (0 : Int32)), .val (.ref a2), .val (.int (0 : Int32)), .val (.int (2 : Int32)), .val (.int (0 : Int32)), .unset]) rfl ?_
      show Steps p.tables e below (s₁.setTop (mkF m 3 #[.val (.ref a0), .val (.int (0 : Int32)), .val (.ref a2), .val (.int (0 : Int32)), .val (.int (2 : Int32)), .val (.int (0 : Int32)), .unset] [])) _
      refine XS.iload X0.here hx rfl (hb hby d11_3) rfl ?_
      show Steps p.tables e below (s₁.setTop (mkF m 5 #[.val (.ref a0), .val (.int (0 : Int32)), .val (.ref a2), .val (.int (0 : Int32)), .val (.int (2 : Int32)), .val (.int (0 : Int32)), .unset] [(.int (0 : Int32))])) _
      refine XS.iload X0.here hx rfl (hb hby d11_5) rfl ?_
      show Steps p.tables e below (s₁.setTop (mkF m 7 #[.val (.ref a0), .val (.int (0 : Int32)), .val (.ref a2), .val (.int (0 : Int32)), .val (.int (2 : Int32)), .val (.int (0 : Int32)), .unset] [(.int (2 : Int32)), (.int (0 : Int32))])) _
      refine XS.icmpNo X0.here hx rfl (hb hby d11_7) rfl (tlt (by decide : (0 : Int32) < (2 : Int32))).2.1 ?_
      show Steps p.tables e below (s₁.setTop (mkF m 10 #[.val (.ref a0), .val (.int (0 : Int32)), .val (.ref a2), .val (.int (0 : Int32)), .val (.int (2 : Int32)), .val (.int (0 : Int32)), .unset] [])) _
      refine XS.aloadN X0.here hx rfl (hb hby d11_10) rfl rfl ?_
      show Steps p.tables e below (s₁.setTop (mkF m 11 #[.val (.ref a0), .val (.int (0 : Int32)), .val (.ref a2), .val (.int (0 : Int32)), .val (.int (2 : Int32)), .val (.int (0 : Int32)), .unset] [(.ref a0)])) _
      refine XS.iloadN X0.here hx rfl (hb hby d11_11) rfl ?_
      show Steps p.tables e below (s₁.setTop (mkF m 12 #[.val (.ref a0), .val (.int (0 : Int32)), .val (.ref a2), .val (.int (0 : Int32)), .val (.int (2 : Int32)), .val (.int (0 : Int32)), .unset] [(.int (0 : Int32)), (.ref a0)])) _
      refine X0.caload hx (j := (0 : Int32)) (v := (.int c0)) (by rw [e0]; exact Ao1.1) (State.isArrayOf_alike hZ.alike Ao1.2.1) Ao1.2.2 hin2 hat3 (g := (mkF m 12 #[.val (.ref a0), .val (.int (0 : Int32)), .val (.ref a2), .val (.int (0 : Int32)), .val (.int (2 : Int32)), .val (.int (0 : Int32)), .unset] [(.int (0 : Int32)), (.ref a0)])) rfl rfl (hb hby d11_12) _ ?_
      show Steps p.tables e below (s₁.setTop (mkF m 13 #[.val (.ref a0), .val (.int (0 : Int32)), .val (.ref a2), .val (.int (0 : Int32)), .val (.int (2 : Int32)), .val (.int (0 : Int32)), .unset] [(.int c0)])) _
      refine XS.istore X0.here hx rfl (hb hby d11_13) rfl (l' := #[.val (.ref a0), .val (.int (0 : Int32)), .val (.ref a2), .val (.int (0 : Int32)), .val (.int (2 : Int32)), .val (.int (0 : Int32)), .val (.int c0)]) rfl ?_
      show Steps p.tables e below (s₁.setTop (mkF m 15 #[.val (.ref a0), .val (.int (0 : Int32)), .val (.ref a2), .val (.int (0 : Int32)), .val (.int (2 : Int32)), .val (.int (0 : Int32)), .val (.int c0)] [])) _
      refine XS.iload X0.here hx rfl (hb hby d11_15) rfl ?_
      show Steps p.tables e below (s₁.setTop (mkF m 17 #[.val (.ref a0), .val (.int (0 : Int32)), .val (.ref a2), .val (.int (0 : Int32)), .val (.int (2 : Int32)), .val (.int (0 : Int32)), .val (.int c0)] [(.int c0)])) _
      refine XS.sipush X0.here hx rfl (hb hby d11_17) ?_
      show Steps p.tables e below (s₁.setTop (mkF m 20 #[.val (.ref a0), .val (.int (0 : Int32)), .val (.ref a2), .val (.int (0 : Int32)), .val (.int (2 : Int32)), .val (.int (0 : Int32)), .val (.int c0)] [(.int (255 : Int32)), (.int c0)])) _
      refine XS.icmpYes X0.here hx rfl (pc0 := 20) (pc' := 26) rfl (hb hby d11_20) rfl (flt h0c).2.2.2 (by decide) (by decide) ?_
      show Steps p.tables e below (s₁.setTop (mkF m 26 #[.val (.ref a0), .val (.int (0 : Int32)), .val (.ref a2), .val (.int (0 : Int32)), .val (.int (2 : Int32)), .val (.int (0 : Int32)), .val (.int c0)] [])) _
      refine XS.aloadN X0.here hx rfl (hb hby d11_26) rfl rfl ?_
      show Steps p.tables e below (s₁.setTop (mkF m 27 #[.val (.ref a0), .val (.int (0 : Int32)), .val (.ref a2), .val (.int (0 : Int32)), .val (.int (2 : Int32)), .val (.int (0 : Int32)), .val (.int c0)] [(.ref a2)])) _
      refine XS.iloadN X0.here hx rfl (hb hby d11_27) rfl ?_
      show Steps p.tables e below (s₁.setTop (mkF m 28 #[.val (.ref a0), .val (.int (0 : Int32)), .val (.ref a2), .val (.int (0 : Int32)), .val (.int (2 : Int32)), .val (.int (0 : Int32)), .val (.int c0)] [(.int (0 : Int32)), (.ref a2)])) _
      refine XS.iload X0.here hx rfl (hb hby d11_28) rfl ?_
      show Steps p.tables e below (s₁.setTop (mkF m 30 #[.val (.ref a0), .val (.int (0 : Int32)), .val (.ref a2), .val (.int (0 : Int32)), .val (.int (2 : Int32)), .val (.int (0 : Int32)), .val (.int c0)] [(.int c0), (.int (0 : Int32)), (.ref a2)])) _
      refine XS.i2b X0.here hx rfl (hb hby d11_30) rfl ?_
      show Steps p.tables e below (s₁.setTop (mkF m 31 #[.val (.ref a0), .val (.int (0 : Int32)), .val (.ref a2), .val (.int (0 : Int32)), .val (.int (2 : Int32)), .val (.int (0 : Int32)), .val (.int c0)] [(.int (c0.toInt8.toInt32)), (.int (0 : Int32)), (.ref a2)])) _
      refine st6 _ ?_
      show Steps p.tables e below (T6.setTop (mkF m 32 #[.val (.ref a0), .val (.int (0 : Int32)), .val (.ref a2), .val (.int (0 : Int32)), .val (.int (2 : Int32)), .val (.int (0 : Int32)), .val (.int c0)] [])) _
      refine XS.iinc X6.here hx rfl (hb hby d11_32) rfl (l' := #[.val (.ref a0), .val (.int (1 : Int32)), .val (.ref a2), .val (.int (0 : Int32)), .val (.int (2 : Int32)), .val (.int (0 : Int32)), .val (.int c0)]) rfl ?_
      show Steps p.tables e below (T6.setTop (mkF m 35 #[.val (.ref a0), .val (.int (1 : Int32)), .val (.ref a2), .val (.int (0 : Int32)), .val (.int (2 : Int32)), .val (.int (0 : Int32)), .val (.int c0)] [])) _
      refine XS.iinc X6.here hx rfl (hb hby d11_35) rfl (l' := #[.val (.ref a0), .val (.int (1 : Int32)), .val (.ref a2), .val (.int (1 : Int32)), .val (.int (2 : Int32)), .val (.int (0 : Int32)), .val (.int c0)]) rfl ?_
      show Steps p.tables e below (T6.setTop (mkF m 38 #[.val (.ref a0), .val (.int (1 : Int32)), .val (.ref a2), .val (.int (1 : Int32)), .val (.int (2 : Int32)), .val (.int (0 : Int32)), .val (.int c0)] [])) _
      refine XS.iinc X6.here hx rfl (hb hby d11_38) rfl (l' := #[.val (.ref a0), .val (.int (1 : Int32)), .val (.ref a2), .val (.int (1 : Int32)), .val (.int (2 : Int32)), .val (.int (1 : Int32)), .val (.int c0)]) rfl ?_
      show Steps p.tables e below (T6.setTop (mkF m 41 #[.val (.ref a0), .val (.int (1 : Int32)), .val (.ref a2), .val (.int (1 : Int32)), .val (.int (2 : Int32)), .val (.int (1 : Int32)), .val (.int c0)] [])) _
      refine XS.goto X6.here hx rfl (pc0 := 41) (pc' := 3) rfl (hb hby d11_41) (by decide) (by decide) ?_
      show Steps p.tables e below (T6.setTop (mkF m 3 #[.val (.ref a0), .val (.int (1 : Int32)), .val (.ref a2), .val (.int (1 : Int32)), .val (.int (2 : Int32)), .val (.int (1 : Int32)), .val (.int c0)] [])) _
      refine XS.iload X6.here hx rfl (hb hby d11_3) rfl ?_
      show Steps p.tables e below (T6.setTop (mkF m 5 #[.val (.ref a0), .val (.int (1 : Int32)), .val (.ref a2), .val (.int (1 : Int32)), .val (.int (2 : Int32)), .val (.int (1 : Int32)), .val (.int c0)] [(.int (1 : Int32))])) _
      refine XS.iload X6.here hx rfl (hb hby d11_5) rfl ?_
      show Steps p.tables e below (T6.setTop (mkF m 7 #[.val (.ref a0), .val (.int (1 : Int32)), .val (.ref a2), .val (.int (1 : Int32)), .val (.int (2 : Int32)), .val (.int (1 : Int32)), .val (.int c0)] [(.int (2 : Int32)), (.int (1 : Int32))])) _
      refine XS.icmpNo X6.here hx rfl (hb hby d11_7) rfl (tlt (by decide : (1 : Int32) < (2 : Int32))).2.1 ?_
      show Steps p.tables e below (T6.setTop (mkF m 10 #[.val (.ref a0), .val (.int (1 : Int32)), .val (.ref a2), .val (.int (1 : Int32)), .val (.int (2 : Int32)), .val (.int (1 : Int32)), .val (.int c0)] [])) _
      refine XS.aloadN X6.here hx rfl (hb hby d11_10) rfl rfl ?_
      show Steps p.tables e below (T6.setTop (mkF m 11 #[.val (.ref a0), .val (.int (1 : Int32)), .val (.ref a2), .val (.int (1 : Int32)), .val (.int (2 : Int32)), .val (.int (1 : Int32)), .val (.int c0)] [(.ref a0)])) _
      refine XS.iloadN X6.here hx rfl (hb hby d11_11) rfl ?_
      show Steps p.tables e below (T6.setTop (mkF m 12 #[.val (.ref a0), .val (.int (1 : Int32)), .val (.ref a2), .val (.int (1 : Int32)), .val (.int (2 : Int32)), .val (.int (1 : Int32)), .val (.int c0)] [(.int (1 : Int32)), (.ref a0)])) _
      refine X6.caload hx (j := (1 : Int32)) (v := (.int c1)) (by rw [e6]; exact Ao8.1) (State.isArrayOf_alike hZ.alike Ao8.2.1) Ao8.2.2 hin9 hat10 (g := (mkF m 12 #[.val (.ref a0), .val (.int (1 : Int32)), .val (.ref a2), .val (.int (1 : Int32)), .val (.int (2 : Int32)), .val (.int (1 : Int32)), .val (.int c0)] [(.int (1 : Int32)), (.ref a0)])) rfl rfl (hb hby d11_12) _ ?_
      show Steps p.tables e below (T6.setTop (mkF m 13 #[.val (.ref a0), .val (.int (1 : Int32)), .val (.ref a2), .val (.int (1 : Int32)), .val (.int (2 : Int32)), .val (.int (1 : Int32)), .val (.int c0)] [(.int c1)])) _
      refine XS.istore X6.here hx rfl (hb hby d11_13) rfl (l' := #[.val (.ref a0), .val (.int (1 : Int32)), .val (.ref a2), .val (.int (1 : Int32)), .val (.int (2 : Int32)), .val (.int (1 : Int32)), .val (.int c1)]) rfl ?_
      show Steps p.tables e below (T6.setTop (mkF m 15 #[.val (.ref a0), .val (.int (1 : Int32)), .val (.ref a2), .val (.int (1 : Int32)), .val (.int (2 : Int32)), .val (.int (1 : Int32)), .val (.int c1)] [])) _
      refine XS.iload X6.here hx rfl (hb hby d11_15) rfl ?_
      show Steps p.tables e below (T6.setTop (mkF m 17 #[.val (.ref a0), .val (.int (1 : Int32)), .val (.ref a2), .val (.int (1 : Int32)), .val (.int (2 : Int32)), .val (.int (1 : Int32)), .val (.int c1)] [(.int c1)])) _
      refine XS.sipush X6.here hx rfl (hb hby d11_17) ?_
      show Steps p.tables e below (T6.setTop (mkF m 20 #[.val (.ref a0), .val (.int (1 : Int32)), .val (.ref a2), .val (.int (1 : Int32)), .val (.int (2 : Int32)), .val (.int (1 : Int32)), .val (.int c1)] [(.int (255 : Int32)), (.int c1)])) _
      refine XS.icmpYes X6.here hx rfl (pc0 := 20) (pc' := 26) rfl (hb hby d11_20) rfl (flt h1c).2.2.2 (by decide) (by decide) ?_
      show Steps p.tables e below (T6.setTop (mkF m 26 #[.val (.ref a0), .val (.int (1 : Int32)), .val (.ref a2), .val (.int (1 : Int32)), .val (.int (2 : Int32)), .val (.int (1 : Int32)), .val (.int c1)] [])) _
      refine XS.aloadN X6.here hx rfl (hb hby d11_26) rfl rfl ?_
      show Steps p.tables e below (T6.setTop (mkF m 27 #[.val (.ref a0), .val (.int (1 : Int32)), .val (.ref a2), .val (.int (1 : Int32)), .val (.int (2 : Int32)), .val (.int (1 : Int32)), .val (.int c1)] [(.ref a2)])) _
      refine XS.iloadN X6.here hx rfl (hb hby d11_27) rfl ?_
      show Steps p.tables e below (T6.setTop (mkF m 28 #[.val (.ref a0), .val (.int (1 : Int32)), .val (.ref a2), .val (.int (1 : Int32)), .val (.int (2 : Int32)), .val (.int (1 : Int32)), .val (.int c1)] [(.int (1 : Int32)), (.ref a2)])) _
      refine XS.iload X6.here hx rfl (hb hby d11_28) rfl ?_
      show Steps p.tables e below (T6.setTop (mkF m 30 #[.val (.ref a0), .val (.int (1 : Int32)), .val (.ref a2), .val (.int (1 : Int32)), .val (.int (2 : Int32)), .val (.int (1 : Int32)), .val (.int c1)] [(.int c1), (.int (1 : Int32)), (.ref a2)])) _
      refine XS.i2b X6.here hx rfl (hb hby d11_30) rfl ?_
      show Steps p.tables e below (T6.setTop (mkF m 31 #[.val (.ref a0), .val (.int (1 : Int32)), .val (.ref a2), .val (.int (1 : Int32)), .val (.int (2 : Int32)), .val (.int (1 : Int32)), .val (.int c1)] [(.int (c1.toInt8.toInt32)), (.int (1 : Int32)), (.ref a2)])) _
      refine st13 _ ?_
      show Steps p.tables e below (T13.setTop (mkF m 32 #[.val (.ref a0), .val (.int (1 : Int32)), .val (.ref a2), .val (.int (1 : Int32)), .val (.int (2 : Int32)), .val (.int (1 : Int32)), .val (.int c1)] [])) _
      refine XS.iinc X13.here hx rfl (hb hby d11_32) rfl (l' := #[.val (.ref a0), .val (.int (2 : Int32)), .val (.ref a2), .val (.int (1 : Int32)), .val (.int (2 : Int32)), .val (.int (1 : Int32)), .val (.int c1)]) rfl ?_
      show Steps p.tables e below (T13.setTop (mkF m 35 #[.val (.ref a0), .val (.int (2 : Int32)), .val (.ref a2), .val (.int (1 : Int32)), .val (.int (2 : Int32)), .val (.int (1 : Int32)), .val (.int c1)] [])) _
      refine XS.iinc X13.here hx rfl (hb hby d11_35) rfl (l' := #[.val (.ref a0), .val (.int (2 : Int32)), .val (.ref a2), .val (.int (2 : Int32)), .val (.int (2 : Int32)), .val (.int (1 : Int32)), .val (.int c1)]) rfl ?_
      show Steps p.tables e below (T13.setTop (mkF m 38 #[.val (.ref a0), .val (.int (2 : Int32)), .val (.ref a2), .val (.int (2 : Int32)), .val (.int (2 : Int32)), .val (.int (1 : Int32)), .val (.int c1)] [])) _
      refine XS.iinc X13.here hx rfl (hb hby d11_38) rfl (l' := #[.val (.ref a0), .val (.int (2 : Int32)), .val (.ref a2), .val (.int (2 : Int32)), .val (.int (2 : Int32)), .val (.int (2 : Int32)), .val (.int c1)]) rfl ?_
      show Steps p.tables e below (T13.setTop (mkF m 41 #[.val (.ref a0), .val (.int (2 : Int32)), .val (.ref a2), .val (.int (2 : Int32)), .val (.int (2 : Int32)), .val (.int (2 : Int32)), .val (.int c1)] [])) _
      refine XS.goto X13.here hx rfl (pc0 := 41) (pc' := 3) rfl (hb hby d11_41) (by decide) (by decide) ?_
      show Steps p.tables e below (T13.setTop (mkF m 3 #[.val (.ref a0), .val (.int (2 : Int32)), .val (.ref a2), .val (.int (2 : Int32)), .val (.int (2 : Int32)), .val (.int (2 : Int32)), .val (.int c1)] [])) _
      refine XS.iload X13.here hx rfl (hb hby d11_3) rfl ?_
      show Steps p.tables e below (T13.setTop (mkF m 5 #[.val (.ref a0), .val (.int (2 : Int32)), .val (.ref a2), .val (.int (2 : Int32)), .val (.int (2 : Int32)), .val (.int (2 : Int32)), .val (.int c1)] [(.int (2 : Int32))])) _
      refine XS.iload X13.here hx rfl (hb hby d11_5) rfl ?_
      show Steps p.tables e below (T13.setTop (mkF m 7 #[.val (.ref a0), .val (.int (2 : Int32)), .val (.ref a2), .val (.int (2 : Int32)), .val (.int (2 : Int32)), .val (.int (2 : Int32)), .val (.int c1)] [(.int (2 : Int32)), (.int (2 : Int32))])) _
      refine XS.icmpYes X13.here hx rfl (pc0 := 7) (pc' := 44) rfl (hb hby d11_7) rfl (flt (fun z => Int32.lt_irrefl z)).2.1 (by decide) (by decide) ?_
      show Steps p.tables e below (T13.setTop (mkF m 44 #[.val (.ref a0), .val (.int (2 : Int32)), .val (.ref a2), .val (.int (2 : Int32)), .val (.int (2 : Int32)), .val (.int (2 : Int32)), .val (.int c1)] [])) _
      refine XS.iload X13.here hx rfl (hb hby d11_44) rfl ?_
      exact kt)
  obtain ⟨fs, hr, hrun, hended, hW, hsame⟩ := X13.leave (v := some (.int (2 : Int32))) (fun h => by rw [Bd.returns] at h; cases h)
  refine ⟨_, _, pre15 _ ?_, hrun, hended, _, _, rfl, ?_, ⟨_, rfl⟩, hW, hsame.mono (by decide) (by decide)⟩
  · show Steps p.tables e below (T13.setTop (mkF m 46 #[.val (.ref a0), .val (.int (2 : Int32)), .val (.ref a2), .val (.int (2 : Int32)), .val (.int (2 : Int32)), .val (.int (2 : Int32)), .val (.int c1)] [(.int (2 : Int32))])) _
    exact retI X13 hx Bd.returns (hb hby d11_46) hr
  · show Q11 Z _ _ _ _ _ _ h0 n0 _ T13.heap _
    rw [e13]
    exact ⟨rfl, N13, K13, V13⟩
theorem pd_3 : parseMethodDescriptor "([CI[BII)I" = some ⟨[(.array .char), .int, (.array .byte), .int, .int], some .int⟩ := by decide +kernel
theorem d10_0 : decode jdk_52_method_16_code 0 = .ok (.iload_n 2, 1) := by decide +kernel
theorem d10_1 : decode jdk_52_method_16_code 1 = .ok (.newarray .byte, 2) := by decide +kernel
theorem d10_3 : decode jdk_52_method_16_code 3 = .ok (.astore_n 3, 1) := by decide +kernel
theorem d10_4 : decode jdk_52_method_16_code 4 = .ok (.aload_n 0, 1) := by decide +kernel
theorem d10_5 : decode jdk_52_method_16_code 5 = .ok (.iload_n 1, 1) := by decide +kernel
theorem d10_6 : decode jdk_52_method_16_code 6 = .ok (.aload_n 3, 1) := by decide +kernel
theorem d10_7 : decode jdk_52_method_16_code 7 = .ok (.iconst 0, 1) := by decide +kernel
theorem d10_8 : decode jdk_52_method_16_code 8 = .ok (.iload_n 2, 1) := by decide +kernel
theorem d10_9 : decode jdk_52_method_16_code 9 = .ok (.invokestatic 115, 3) := by decide +kernel
theorem d10_12 : decode jdk_52_method_16_code 12 = .ok (.istore 4, 2) := by decide +kernel
theorem d10_14 : decode jdk_52_method_16_code 14 = .ok (.iload 4, 2) := by decide +kernel
theorem d10_16 : decode jdk_52_method_16_code 16 = .ok (.iload_n 2, 1) := by decide +kernel
theorem d10_17 : decode jdk_52_method_16_code 17 = .ok (.if_icmp .eq 40, 3) := by decide +kernel
theorem d10_57 : decode jdk_52_method_16_code 57 = .ok (.aload_n 3, 1) := by decide +kernel
theorem d10_58 : decode jdk_52_method_16_code 58 = .ok (.areturn, 1) := by decide +kernel
theorem ef_10 (m : MethodId) (x0 : Addr) (x1 : Int32) (x2 : Int32)  : entryFrame m #[(.ref x0), (.int x1), (.int x2)] 6 = mkF m 0 #[.val (.ref x0), .val (.int x1), .val (.int x2), .unset, .unset, .unset] [] := by first | (simp [entryFrame, mkF, argsToLocals, Value.category]; done) | rfl
def Q10 (Z : State) (a0 : Addr) (c0 : Int32) (c1 : Int32) (kc : ClassId) (h0 : Heap) (n0 : Nat) (v : Option Value) (h : Heap) (L : List Loc) : Prop := (∃ (r : Addr) (kb : ClassId), v = some (.ref r) ∧ (h0.size ≤ r) ∧ (Arv Z h r kb .byte (2 : Int32) [(.int ((c0.toInt8.toInt32)).toInt8.toInt32), (.int ((c1.toInt8.toInt32)).toInt8.toInt32)] (.int (0 : Int32)))) ∧ Fr n0 L ∧ (Keep h0 h [])
set_option maxRecDepth 65536 in
set_option maxHeartbeats 40000000 in
theorem rm10 (l : Launch) (Z : State) (aw : Array Value) (hw : ∀ d ∈ tables_1, d.before aw Z = true) (ws : List Jvm.Cond) (a0 : Addr) (c0 : Int32) (c1 : Int32) (kc : ClassId) (h0 : Heap) (n0 : Nat) (Z0 : n0 ≤ h0.size) (h0c : ¬ (255 : Int32) < c0) (h1c : ¬ (255 : Int32) < c1) (Arv_2 : Arv Z h0 a0 kc .char (2 : Int32) [(.int c0), (.int c1)] (.int (0 : Int32))) :
    MetFree l (⟨"java/lang/StringUTF16", "compress", "([CII)[B"⟩ : MethodName) (head1 (Jvm.Cond.code (⟨"java/lang/StringUTF16", "compress", "([CII)[B"⟩ : MethodName) jdk_52_method_16_code 6 (some (.array .byte)) :: ws) ({ frames := 1, cells := 1, slots := 2, locals := 18 } : Room)) (fun a U => a = #[(.ref a0), (.int (0 : Int32)), (.int (2 : Int32))] ∧ Z.Warmed39 U.vm ∧ U.heap = h0) (fun _ _ _ _ _ => True) (fun _ U o U' => ∃ v L, o = .returned v ∧ Q10 Z a0 c0 c1 kc h0 n0 v U'.heap L ∧ FrameEnd U o U' L ({ frames := 1, cells := 1, slots := 2, locals := 18 } : Room).cells ({ frames := 1, cells := 1, slots := 2, locals := 18 } : Room).slots) := by
  refine MetFree.of_bodySF (plainFor_of_name pn_2) hisR ?_
  intro p e s m args below meth c s₁ Bd hml0 hP hK
  obtain ⟨rfl, hZ, hh⟩ := hP
  have hx := Bd.exec
  have hby := Bd.bytes
  have hml : c.maxLocals = 6 := hml0
  have hown : s.vm.findClass "java/lang/StringUTF16" = some m.cls := findClass_of_methodNamed Bd.named
  have hnm := (name_of_methodNamed Bd.named Bd.method).1
  have X0 : Stand p l e ({ frames := 1, cells := 1, slots := 2, locals := 18 } : Room) s m #[(.ref a0), (.int (0 : Int32)), (.int (2 : Int32))] below meth c s₁ [] 0 0 := Stand.of_body Bd
  have e0 : s₁.heap = h0 := by rw [← hh, Bd.state]; rfl
  have N0 := Fr.nil n0
  have pre0 : ∀ t, Steps p.tables e below (s₁.setTop (mkF m 0 #[.val (.ref a0), .val (.int (0 : Int32)), .val (.int (2 : Int32)), .unset, .unset, .unset] [])) t → Steps p.tables e below (s₁.setTop (entryFrame m #[(.ref a0), (.int (0 : Int32)), (.int (2 : Int32))] 6)) t := fun t k => castTop (ef_10 m a0 (0 : Int32) (2 : Int32) ) k
  obtain ⟨T1, h1, k1, X1, e1, E1, A1, st1⟩ := newP X0 hx hZ (hw _ (List.mem_of_getElem? (i := 11) rfl)) e0 (g := (mkF m 1 #[.val (.ref a0), .val (.int (0 : Int32)), .val (.int (2 : Int32)), .unset, .unset, .unset] [(.int (2 : Int32))])) rfl (hb hby d10_1) rfl (by decide) (cap := 2) (by decide) (by decide) (by decide) (by decide)
  obtain ⟨b1, g1⟩ : ∃ z, z = h0.size := ⟨_, rfl⟩
  rw [← g1] at A1 st1
  have f2 := (Arv_2.ext E1)
  have ne3 : a0 ≠ b1 := Nat.ne_of_lt (Nat.lt_of_lt_of_le Arv_2.lt (Nat.le_of_eq g1.symm))
  have ge_b1 : n0 ≤ b1 := Nat.le_trans Z0 (Nat.le_of_eq g1.symm)
  have sz_b1 : h0.size ≤ b1 := Nat.le_trans (Keep.refl h0 []).1 (Nat.le_of_eq g1.symm)
  have K1 : Keep h0 h1 [] := Keep.ext (Keep.refl h0 []) E1
  have V1 : Arv Z h1 b1 k1 .byte (2 : Int32) [(.int (0 : Int32)), (.int (0 : Int32))] (.int (0 : Int32)) := (Arv.new A1 (by decide)).pad (pad_rep [] (.int (0 : Int32)) 2)
  obtain ⟨_, _, ⟨T4, L4, k4, n4⟩, -, X4, ⟨Lc4, hQ4, l4, y4, z4⟩, st4⟩ := Jvm.LawKit.callS X1 hx (y := (⟨"java/lang/StringUTF16", "compress", "([CI[BII)I"⟩ : MethodName)) hown (mvT hZ (hw _ (List.mem_of_getElem? (i := 62) rfl))) (mvT hZ (hw _ (List.mem_of_getElem? (i := 63) rfl))) (mvT hZ (hw _ (List.mem_of_getElem? (i := 60) rfl))) (mvT hZ (hw _ (List.mem_of_getElem? (i := 64) rfl))) (by decide) (backOf (W := 0) (rm11 l Z aw hw [] a0 b1 c0 c1 kc k1 h1 n0 (Nat.le_trans Z0 E1.1) h0c h1c ne3 f2 V1 ge_b1) hZ (hw _ (List.mem_of_getElem? (i := 64) rfl)) (hw _ (List.mem_of_getElem? (i := 60) rfl)) (by decide) (by decide)) (g := (mkF m 9 #[.val (.ref a0), .val (.int (0 : Int32)), .val (.int (2 : Int32)), .val (.ref b1), .unset, .unset] [(.int (2 : Int32)), (.int (0 : Int32)), (.ref b1), (.int (0 : Int32)), (.ref a0)])) rfl (by rw [hml]; rfl) (argsL := [(.ref a0), (.int (0 : Int32)), (.ref b1), (.int (0 : Int32)), (.int (2 : Int32))]) (rest := []) (lenOf pd_3 rfl) rfl (by show 2 * 0 + _ ≤ _; exact Nat.le_of_eq rfl) (hb hby d10_9) (fun _ _ => ⟨rfl, e1, (by decide : 1 + 0 ≤ _), (by decide : 2 + 0 ≤ _)⟩)
  dsimp only [Pt.U, Pt.locs, Pt.cells, Pt.slots] at X4 l4 y4 z4 st4 hQ4
  subst l4 y4 z4
  obtain ⟨rfl, Nq4, c4_0, c4_1⟩ := hQ4
  have N4 := Fr.app N0 Nq4
  have f5 := (f2.keep c4_0 (ninS ne3 nin0))
  have K6 : Keep h0 T4.heap [] := Keep.trans K1 c4_0 (allS (Or.inr sz_b1) all0)
  have pre7 : ∀ t, Steps p.tables e below (T4.setTop (mkF m 58 #[.val (.ref a0), .val (.int (0 : Int32)), .val (.int (2 : Int32)), .val (.ref b1), .val (.int (2 : Int32)), .unset] [(.ref b1)])) t → Steps p.tables e below (s₁.setTop (entryFrame m #[(.ref a0), (.int (0 : Int32)), (.int (2 : Int32))] 6)) t := fun t kt => pre0 t (by
      show Steps p.tables e below (s₁.setTop (mkF m 0 #[.val (.ref a0), .val (.int (0 : Int32)), .val (.int (2 : Int32)), .unset, .unset, .unset] [])) _
      refine XS.iloadN X0.here hx rfl (hb hby d10_0) rfl ?_
      show Steps p.tables e below (s₁.setTop (mkF m 1 #[.val (.ref a0), .val (.int (0 : Int32)), .val (.int (2 : Int32)), .unset, .unset, .unset] [(.int (2 : Int32))])) _
      refine st1 _ ?_
      show Steps p.tables e below (T1.setTop (mkF m 3 #[.val (.ref a0), .val (.int (0 : Int32)), .val (.int (2 : Int32)), .unset, .unset, .unset] [(.ref b1)])) _
      refine XS.astoreN X1.here hx rfl (hb hby d10_3) rfl rfl (l' := #[.val (.ref a0), .val (.int (0 : Int32)), .val (.int (2 : Int32)), .val (.ref b1), .unset, .unset]) rfl ?_
      show Steps p.tables e below (T1.setTop (mkF m 4 #[.val (.ref a0), .val (.int (0 : Int32)), .val (.int (2 : Int32)), .val (.ref b1), .unset, .unset] [])) _
      refine XS.aloadN X1.here hx rfl (hb hby d10_4) rfl rfl ?_
      show Steps p.tables e below (T1.setTop (mkF m 5 #[.val (.ref a0), .val (.int (0 : Int32)), .val (.int (2 : Int32)), .val (.ref b1), .unset, .unset] [(.ref a0)])) _
      refine XS.iloadN X1.here hx rfl (hb hby d10_5) rfl ?_
      show Steps p.tables e below (T1.setTop (mkF m 6 #[.val (.ref a0), .val (.int (0 : Int32)), .val (.int (2 : Int32)), .val (.ref b1), .unset, .unset] [(.int (0 : Int32)), (.ref a0)])) _
      refine XS.aloadN X1.here hx rfl (hb hby d10_6) rfl rfl ?_
      show Steps p.tables e below (T1.setTop (mkF m 7 #[.val (.ref a0), .val (.int (0 : Int32)), .val (.int (2 : Int32)), .val (.ref b1), .unset, .unset] [(.ref b1), (.int (0 : Int32)), (.ref a0)])) _
      refine XS.iconst X1.here hx rfl (hb hby d10_7) ?_
      show Steps p.tables e below (T1.setTop (mkF m 8 #[.val (.ref a0), .val (.int (0 : Int32)), .val (.int (2 : Int32)), .val (.ref b1), .unset, .unset] [(.int (0 : Int32)), (.ref b1), (.int (0 : Int32)), (.ref a0)])) _
      refine XS.iloadN X1.here hx rfl (hb hby d10_8) rfl ?_
      show Steps p.tables e below (T1.setTop (mkF m 9 #[.val (.ref a0), .val (.int (0 : Int32)), .val (.int (2 : Int32)), .val (.ref b1), .unset, .unset] [(.int (2 : Int32)), (.int (0 : Int32)), (.ref b1), (.int (0 : Int32)), (.ref a0)])) _
      refine st4 _ ?_
      show Steps p.tables e below (T4.setTop (mkF m 12 #[.val (.ref a0), .val (.int (0 : Int32)), .val (.int (2 : Int32)), .val (.ref b1), .unset, .unset] [(.int (2 : Int32))])) _
      refine XS.istore X4.here hx rfl (hb hby d10_12) rfl (l' := #[.val (.ref a0), .val (.int (0 : Int32)), .val (.int (2 : Int32)), .val (.ref b1), .val (.int (2 : Int32)), .unset]) rfl ?_
      show Steps p.tables e below (T4.setTop (mkF m 14 #[.val (.ref a0), .val (.int (0 : Int32)), .val (.int (2 : Int32)), .val (.ref b1), .val (.int (2 : Int32)), .unset] [])) _
      refine XS.iload X4.here hx rfl (hb hby d10_14) rfl ?_
      show Steps p.tables e below (T4.setTop (mkF m 16 #[.val (.ref a0), .val (.int (0 : Int32)), .val (.int (2 : Int32)), .val (.ref b1), .val (.int (2 : Int32)), .unset] [(.int (2 : Int32))])) _
      refine XS.iloadN X4.here hx rfl (hb hby d10_16) rfl ?_
      show Steps p.tables e below (T4.setTop (mkF m 17 #[.val (.ref a0), .val (.int (0 : Int32)), .val (.int (2 : Int32)), .val (.ref b1), .val (.int (2 : Int32)), .unset] [(.int (2 : Int32)), (.int (2 : Int32))])) _
      refine XS.icmpYes X4.here hx rfl (pc0 := 17) (pc' := 57) rfl (hb hby d10_17) rfl (teq (rfl : (2 : Int32) = (2 : Int32))).1 (by decide) (by decide) ?_
      show Steps p.tables e below (T4.setTop (mkF m 57 #[.val (.ref a0), .val (.int (0 : Int32)), .val (.int (2 : Int32)), .val (.ref b1), .val (.int (2 : Int32)), .unset] [])) _
      refine XS.aloadN X4.here hx rfl (hb hby d10_57) rfl rfl ?_
      exact kt)
  obtain ⟨fs, hr, hrun, hended, hW, hsame⟩ := X4.leave (v := some (.ref b1)) (fun h => by rw [Bd.returns] at h; cases h)
  refine ⟨_, _, pre7 _ ?_, hrun, hended, _, _, rfl, ?_, ⟨_, rfl⟩, hW, hsame.mono (by decide) (by decide)⟩
  · show Steps p.tables e below (T4.setTop (mkF m 58 #[.val (.ref a0), .val (.int (0 : Int32)), .val (.int (2 : Int32)), .val (.ref b1), .val (.int (2 : Int32)), .unset] [(.ref b1)])) _
    jvm_step X4.here [X4.here.top, hx, (hb hby d10_58), X4.method', Bd.returns, Value.isRef, FieldType.isReference]
    first | (intro acts; rw [hr _ acts rfl rfl rfl]) | rw [hr _ _ rfl rfl rfl]
    exact Steps.refl _
  · show Q10 Z _ _ _ _ h0 n0 _ T4.heap _
    exact ⟨⟨_, _, rfl, sz_b1, c4_1⟩, N4, K6⟩
theorem d12_0 : decode jdk_52_method_15_code 0 = .ok (.iload_n 1, 1) := by decide +kernel
theorem d12_1 : decode jdk_52_method_15_code 1 = .ok (.aload_n 0, 1) := by decide +kernel
theorem d12_2 : decode jdk_52_method_15_code 2 = .ok (.arraylength, 1) := by decide +kernel
theorem d12_3 : decode jdk_52_method_15_code 3 = .ok (.isub, 1) := by decide +kernel
theorem d12_4 : decode jdk_52_method_15_code 4 = .ok (.bipush 31, 2) := by decide +kernel
theorem d12_6 : decode jdk_52_method_15_code 6 = .ok (.iushr, 1) := by decide +kernel
theorem d12_7 : decode jdk_52_method_15_code 7 = .ok (.i2b, 1) := by decide +kernel
theorem d12_8 : decode jdk_52_method_15_code 8 = .ok (.ireturn, 1) := by decide +kernel
theorem ef_12 (m : MethodId) (x0 : Addr) (x1 : Int32)  : entryFrame m #[(.ref x0), (.int x1)] 2 = mkF m 0 #[.val (.ref x0), .val (.int x1)] [] := by first | (simp [entryFrame, mkF, argsToLocals, Value.category]; done) | rfl
def Q12 (Z : State) (a0 : Addr) (kb : ClassId) (vs : List Value) (h0 : Heap) (n0 : Nat) (v : Option Value) (h : Heap) (L : List Loc) : Prop := v = some (.int (0 : Int32)) ∧ Fr n0 L ∧ h = h0
set_option maxRecDepth 65536 in
set_option maxHeartbeats 40000000 in
theorem rm12 (l : Launch) (Z : State) (aw : Array Value) (hw : ∀ d ∈ tables_1, d.before aw Z = true) (ws : List Jvm.Cond) (a0 : Addr) (kb : ClassId) (vs : List Value) (h0 : Heap) (n0 : Nat) (Z0 : n0 ≤ h0.size) (Arv_0 : Arv Z h0 a0 kb .byte (2 : Int32) vs (.int (0 : Int32))) :
    MetFree l (⟨"java/lang/StringUTF16", "coderFromArrayLen", "([BI)B"⟩ : MethodName) (head1 (Jvm.Cond.code (⟨"java/lang/StringUTF16", "coderFromArrayLen", "([BI)B"⟩ : MethodName) jdk_52_method_15_code 2 (some .byte) :: ws) ({ frames := 0, cells := 0, slots := 0, locals := 0 } : Room)) (fun a U => a = #[(.ref a0), (.int (2 : Int32))] ∧ Z.Warmed39 U.vm ∧ U.heap = h0) (fun _ _ _ _ _ => True) (fun _ U o U' => ∃ v L, o = .returned v ∧ Q12 Z a0 kb vs h0 n0 v U'.heap L ∧ FrameEnd U o U' L ({ frames := 0, cells := 0, slots := 0, locals := 0 } : Room).cells ({ frames := 0, cells := 0, slots := 0, locals := 0 } : Room).slots) := by
  refine MetFree.of_bodySF (plainFor_of_name pn_2) hisR ?_
  intro p e s m args below meth c s₁ Bd hml0 hP hK
  obtain ⟨rfl, hZ, hh⟩ := hP
  have hx := Bd.exec
  have hby := Bd.bytes
  have hml : c.maxLocals = 2 := hml0
  have hown : s.vm.findClass "java/lang/StringUTF16" = some m.cls := findClass_of_methodNamed Bd.named
  have hnm := (name_of_methodNamed Bd.named Bd.method).1
  have X0 : Stand p l e ({ frames := 0, cells := 0, slots := 0, locals := 0 } : Room) s m #[(.ref a0), (.int (2 : Int32))] below meth c s₁ [] 0 0 := Stand.of_body Bd
  have e0 : s₁.heap = h0 := by rw [← hh, Bd.state]; rfl
  have N0 := Fr.nil n0
  have pre0 : ∀ t, Steps p.tables e below (s₁.setTop (mkF m 0 #[.val (.ref a0), .val (.int (2 : Int32))] [])) t → Steps p.tables e below (s₁.setTop (entryFrame m #[(.ref a0), (.int (2 : Int32))] 2)) t := fun t k => castTop (ef_12 m a0 (2 : Int32) ) k
  obtain ⟨co1, Ao1, qo1, So1, No1, Ho1, Go1⟩ := id Arv_0
  have pre2 : ∀ t, Steps p.tables e below (s₁.setTop (mkF m 8 #[.val (.ref a0), .val (.int (2 : Int32))] [(.int (((((2 : Int32) - (2 : Int32)).toUInt32 >>> ((31 : Int32) &&& 31).toUInt32).toInt32).toInt8.toInt32))])) t → Steps p.tables e below (s₁.setTop (entryFrame m #[(.ref a0), (.int (2 : Int32))] 2)) t := fun t kt => pre0 t (by
      show Steps p.tables e below (s₁.setTop (mkF m 0 #[.val (.ref a0), .val (.int (2 : Int32))] [])) _
      refine XS.iloadN X0.here hx rfl (hb hby d12_0) rfl ?_
      show Steps p.tables e below (s₁.setTop (mkF m 1 #[.val (.ref a0), .val (.int (2 : Int32))] [(.int (2 : Int32))])) _
      refine XS.aloadN X0.here hx rfl (hb hby d12_1) rfl rfl ?_
      show Steps p.tables e below (s₁.setTop (mkF m 2 #[.val (.ref a0), .val (.int (2 : Int32))] [(.ref a0), (.int (2 : Int32))])) _
      refine X0.arraylength hx (by rw [e0]; exact Ao1.1) (State.isArrayOf_alike hZ.alike Ao1.2.1) (g := (mkF m 2 #[.val (.ref a0), .val (.int (2 : Int32))] [(.ref a0), (.int (2 : Int32))])) rfl rfl (hb hby d12_2) _ ?_
      rw [len_of So1 No1]
      show Steps p.tables e below (s₁.setTop (mkF m 3 #[.val (.ref a0), .val (.int (2 : Int32))] [(.int (2 : Int32)), (.int (2 : Int32))])) _
      refine XS.isub X0.here hx rfl (hb hby d12_3) rfl ?_
      show Steps p.tables e below (s₁.setTop (mkF m 4 #[.val (.ref a0), .val (.int (2 : Int32))] [(.int ((2 : Int32) - (2 : Int32)))])) _
      refine XS.bipush X0.here hx rfl (hb hby d12_4) ?_
      show Steps p.tables e below (s₁.setTop (mkF m 6 #[.val (.ref a0), .val (.int (2 : Int32))] [(.int (31 : Int32)), (.int ((2 : Int32) - (2 : Int32)))])) _
      refine XS.iushr X0.here hx rfl (hb hby d12_6) rfl ?_
      show Steps p.tables e below (s₁.setTop (mkF m 7 #[.val (.ref a0), .val (.int (2 : Int32))] [(.int ((((2 : Int32) - (2 : Int32)).toUInt32 >>> ((31 : Int32) &&& 31).toUInt32).toInt32))])) _
      refine XS.i2b X0.here hx rfl (hb hby d12_7) rfl ?_
      exact kt)
  obtain ⟨fs, hr, hrun, hended, hW, hsame⟩ := X0.leave (v := some (.int (((((2 : Int32) - (2 : Int32)).toUInt32 >>> ((31 : Int32) &&& 31).toUInt32).toInt32).toInt8.toInt32))) (fun h => by rw [Bd.returns] at h; cases h)
  refine ⟨_, _, pre2 _ ?_, hrun, hended, _, _, rfl, ?_, ⟨_, rfl⟩, hW, hsame.mono (by decide) (by decide)⟩
  · show Steps p.tables e below (s₁.setTop (mkF m 8 #[.val (.ref a0), .val (.int (2 : Int32))] [(.int (((((2 : Int32) - (2 : Int32)).toUInt32 >>> ((31 : Int32) &&& 31).toUInt32).toInt32).toInt8.toInt32))])) _
    exact retN X0 hx (t := .byte) Bd.returns (by simp) (hb hby d12_8) hr
  · show Q12 Z _ _ _ h0 n0 _ s₁.heap _
    rw [e0]
    exact ⟨rfl, N0, rfl⟩
theorem pd_4 : parseMethodDescriptor "([CII)[B" = some ⟨[(.array .char), .int, .int], some (.array .byte)⟩ := by decide +kernel
theorem pd_5 : parseMethodDescriptor "([BI)B" = some ⟨[(.array .byte), .int], some .byte⟩ := by decide +kernel
theorem d9_0 : decode jdk_42_method_149_code 0 = .ok (.aload_n 0, 1) := by decide +kernel
theorem d9_1 : decode jdk_42_method_149_code 1 = .ok (.invokespecial 1, 3) := by decide +kernel
theorem d9_4 : decode jdk_42_method_149_code 4 = .ok (.iload_n 3, 1) := by decide +kernel
theorem d9_5 : decode jdk_42_method_149_code 5 = .ok (.ifCond .ne 22, 3) := by decide +kernel
theorem d9_27 : decode jdk_42_method_149_code 27 = .ok (.getstatic 38, 3) := by decide +kernel
theorem d9_30 : decode jdk_42_method_149_code 30 = .ok (.ifCond .eq 28, 3) := by decide +kernel
theorem d9_33 : decode jdk_42_method_149_code 33 = .ok (.aload_n 1, 1) := by decide +kernel
theorem d9_34 : decode jdk_42_method_149_code 34 = .ok (.iload_n 2, 1) := by decide +kernel
theorem d9_35 : decode jdk_42_method_149_code 35 = .ok (.iload_n 3, 1) := by decide +kernel
theorem d9_36 : decode jdk_42_method_149_code 36 = .ok (.invokestatic 177, 3) := by decide +kernel
theorem d9_39 : decode jdk_42_method_149_code 39 = .ok (.astore 5, 2) := by decide +kernel
theorem d9_41 : decode jdk_42_method_149_code 41 = .ok (.aload_n 0, 1) := by decide +kernel
theorem d9_42 : decode jdk_42_method_149_code 42 = .ok (.aload 5, 2) := by decide +kernel
theorem d9_44 : decode jdk_42_method_149_code 44 = .ok (.iload_n 3, 1) := by decide +kernel
theorem d9_45 : decode jdk_42_method_149_code 45 = .ok (.invokestatic 47, 3) := by decide +kernel
theorem d9_48 : decode jdk_42_method_149_code 48 = .ok (.putfield 15, 3) := by decide +kernel
theorem d9_51 : decode jdk_42_method_149_code 51 = .ok (.aload_n 0, 1) := by decide +kernel
theorem d9_52 : decode jdk_42_method_149_code 52 = .ok (.aload 5, 2) := by decide +kernel
theorem d9_54 : decode jdk_42_method_149_code 54 = .ok (.putfield 9, 3) := by decide +kernel
theorem d9_57 : decode jdk_42_method_149_code 57 = .ok (.return_, 1) := by decide +kernel
theorem ef_I4 (m : MethodId) (x0 : Addr) (x1 : Addr) (x2 : Int32) (x3 : Int32)  : entryFrame m #[(.ref x0), (.ref x1), (.int x2), (.int x3), .null] 6 = mkF m 0 #[.val (.ref x0), .val (.ref x1), .val (.int x2), .val (.int x3), .val .null, .unset] [] := by first | (simp [entryFrame, mkF, argsToLocals, Value.category]; done) | rfl
def QI4 (Z : State) (a0 : Addr) (a1 : Addr) (c0 : Int32) (c1 : Int32) (kc : ClassId) (w_COMPACT_STRINGS_3 : Int32) (u_coder_4 : Value) (u_value_5 : Value) (h0 : Heap) (n0 : Nat) (v : Option Value) (h : Heap) (L : List Loc) : Prop := v = none ∧ Fr n0 L ∧ (Keep h0 h [a0]) ∧ ∃ (vb : Addr) (kb : ClassId), (Exa Z h a0 "java/lang/String") ∧ (Fld Z h a0 "java/lang/String" "coder" "B" (.int (0 : Int32))) ∧ (Fld Z h a0 "java/lang/String" "value" "[B" (.ref vb)) ∧ (Arv Z h vb kb .byte (2 : Int32) [(.int ((c0.toInt8.toInt32)).toInt8.toInt32), (.int ((c1.toInt8.toInt32)).toInt8.toInt32)] (.int (0 : Int32)))
set_option maxRecDepth 65536 in
set_option maxHeartbeats 40000000 in
theorem rmI4 (l : Launch) (Z : State) (aw : Array Value) (hw : ∀ d ∈ tables_1, d.before aw Z = true) (ws : List Jvm.Cond) (a0 : Addr) (a1 : Addr) (c0 : Int32) (c1 : Int32) (kc : ClassId) (w_COMPACT_STRINGS_3 : Int32) (u_coder_4 : Value) (u_value_5 : Value) (h0 : Heap) (n0 : Nat) (Z0 : n0 ≤ h0.size) (h0c : ¬ (255 : Int32) < c0) (h1c : ¬ (255 : Int32) < c1) (Arv_2 : Arv Z h0 a1 kc .char (2 : Int32) [(.int c0), (.int c1)] (.int (0 : Int32))) (Sf_COMPACT_STRINGS_3 : Sta Z h0 "java/lang/String" "COMPACT_STRINGS" "Z" (.int w_COMPACT_STRINGS_3)) (hp3 : ¬ w_COMPACT_STRINGS_3 = (0 : Int32)) (Exa_5 : Exa Z h0 a0 "java/lang/String") (Fo_coder_6 : Fld Z h0 a0 "java/lang/String" "coder" "B" u_coder_4) (g_a0 : n0 ≤ a0) (Fo_value_8 : Fld Z h0 a0 "java/lang/String" "value" "[B" u_value_5) :
    MetFree l (⟨"java/lang/String", "<init>", "([CIILjava/lang/Void;)V"⟩ : MethodName) (head1 (Jvm.Cond.code (⟨"java/lang/String", "<init>", "([CIILjava/lang/Void;)V"⟩ : MethodName) jdk_42_method_149_code 6 none :: ws) ({ frames := 2, cells := 1, slots := 2, locals := 35 } : Room)) (fun a U => a = #[(.ref a0), (.ref a1), (.int (0 : Int32)), (.int (2 : Int32)), .null] ∧ Z.Warmed39 U.vm ∧ U.heap = h0) (fun _ _ _ _ _ => True) (fun _ U o U' => ∃ v L, o = .returned v ∧ QI4 Z a0 a1 c0 c1 kc w_COMPACT_STRINGS_3 u_coder_4 u_value_5 h0 n0 v U'.heap L ∧ FrameEnd U o U' L ({ frames := 2, cells := 1, slots := 2, locals := 35 } : Room).cells ({ frames := 2, cells := 1, slots := 2, locals := 35 } : Room).slots) := by
  refine MetFree.of_bodySF (plainFor_of_name pn_1) hisR ?_
  intro p e s m args below meth c s₁ Bd hml0 hP hK
  obtain ⟨rfl, hZ, hh⟩ := hP
  have hx := Bd.exec
  have hby := Bd.bytes
  have hml : c.maxLocals = 6 := hml0
  have hown : s.vm.findClass "java/lang/String" = some m.cls := findClass_of_methodNamed Bd.named
  have hnm := (name_of_methodNamed Bd.named Bd.method).1
  have X0 : Stand p l e ({ frames := 2, cells := 1, slots := 2, locals := 35 } : Room) s m #[(.ref a0), (.ref a1), (.int (0 : Int32)), (.int (2 : Int32)), .null] below meth c s₁ [] 0 0 := Stand.of_body Bd
  have e0 : s₁.heap = h0 := by rw [← hh, Bd.state]; rfl
  have N0 := Fr.nil n0
  have pre0 : ∀ t, Steps p.tables e below (s₁.setTop (mkF m 0 #[.val (.ref a0), .val (.ref a1), .val (.int (0 : Int32)), .val (.int (2 : Int32)), .val .null, .unset] [])) t → Steps p.tables e below (s₁.setTop (entryFrame m #[(.ref a0), (.ref a1), (.int (0 : Int32)), (.int (2 : Int32)), .null] 6)) t := fun t k => castTop (ef_I4 m a0 a1 (0 : Int32) (2 : Int32) ) k
  obtain ⟨T1, X1, e1, st1⟩ := initO X0 hx hZ hown (hw _ (List.mem_of_getElem? (i := 56) rfl)) (hw _ (List.mem_of_getElem? (i := 28) rfl)) (hw _ (List.mem_of_getElem? (i := 29) rfl)) e0 (g := (mkF m 1 #[.val (.ref a0), .val (.ref a1), .val (.int (0 : Int32)), .val (.int (2 : Int32)), .val .null, .unset] [(.ref a0)])) rfl (by rw [hml]; rfl) rfl (hb hby d9_1) (by decide) (W := 0) (by show 2 * 0 + _ ≤ _; exact Nat.le_of_eq rfl) (by decide)
  obtain ⟨T2, X2, e2, st2⟩ := getS2 X1 hx hZ hown (host := "") (Or.inl (hw _ (List.mem_of_getElem? (i := 57) rfl))) Via.refl e1 Sf_COMPACT_STRINGS_3 (g := (mkF m 27 #[.val (.ref a0), .val (.ref a1), .val (.int (0 : Int32)), .val (.int (2 : Int32)), .val .null, .unset] [])) rfl (hb hby d9_27)
  obtain ⟨_, _, ⟨T4, L4, k4, n4⟩, -, X4, ⟨Lc4, hQ4, l4, y4, z4⟩, st4⟩ := Jvm.LawKit.callS X2 hx (y := (⟨"java/lang/StringUTF16", "compress", "([CII)[B"⟩ : MethodName)) hown (mvT hZ (hw _ (List.mem_of_getElem? (i := 58) rfl))) (mvT hZ (hw _ (List.mem_of_getElem? (i := 59) rfl))) (mvT hZ (hw _ (List.mem_of_getElem? (i := 60) rfl))) (mvT hZ (hw _ (List.mem_of_getElem? (i := 61) rfl))) (by decide) (backOf (W := 0) (rm10 l Z aw hw [] a1 c0 c1 kc h0 n0 Z0 h0c h1c Arv_2) hZ (hw _ (List.mem_of_getElem? (i := 61) rfl)) (hw _ (List.mem_of_getElem? (i := 60) rfl)) (by decide) (by decide)) (g := (mkF m 36 #[.val (.ref a0), .val (.ref a1), .val (.int (0 : Int32)), .val (.int (2 : Int32)), .val .null, .unset] [(.int (2 : Int32)), (.int (0 : Int32)), (.ref a1)])) rfl (by rw [hml]; rfl) (argsL := [(.ref a1), (.int (0 : Int32)), (.int (2 : Int32))]) (rest := []) (lenOf pd_4 rfl) rfl (by show 2 * 0 + _ ≤ _; exact Nat.le_of_eq rfl) (hb hby d9_36) (fun _ _ => ⟨rfl, e2, (by decide : 0 + 1 ≤ _), (by decide : 0 + 2 ≤ _)⟩)
  dsimp only [Pt.U, Pt.locs, Pt.cells, Pt.slots] at X4 l4 y4 z4 st4 hQ4
  subst l4 y4 z4
  obtain ⟨⟨r5, kb6, rfl, m4_0, m4_1⟩, Nq4, c4_0⟩ := hQ4
  have N4 := Fr.app N0 Nq4
  have f7 := (Arv_2.keep c4_0 nin0)
  have f8 := (own_sta_keep Sf_COMPACT_STRINGS_3 c4_0 all0)
  have K9 : Keep h0 T4.heap [a0] := Keep.trans (Keep.refl h0 [a0]) c4_0 all0
  obtain ⟨_, _, ⟨T10, L10, k10, n10⟩, -, X10, ⟨Lc10, hQ10, l10, y10, z10⟩, st10⟩ := Jvm.LawKit.callS X4 hx (y := (⟨"java/lang/StringUTF16", "coderFromArrayLen", "([BI)B"⟩ : MethodName)) hown (mvT hZ (hw _ (List.mem_of_getElem? (i := 65) rfl))) (mvT hZ (hw _ (List.mem_of_getElem? (i := 66) rfl))) (mvT hZ (hw _ (List.mem_of_getElem? (i := 60) rfl))) (mvT hZ (hw _ (List.mem_of_getElem? (i := 67) rfl))) (by decide) (backOf (W := 1) (rm12 l Z aw hw [] r5 kb6 [(.int ((c0.toInt8.toInt32)).toInt8.toInt32), (.int ((c1.toInt8.toInt32)).toInt8.toInt32)] T4.heap n0 (Nat.le_trans Z0 c4_0.1) m4_1) hZ (hw _ (List.mem_of_getElem? (i := 67) rfl)) (hw _ (List.mem_of_getElem? (i := 60) rfl)) (by decide) (by decide)) (g := (mkF m 45 #[.val (.ref a0), .val (.ref a1), .val (.int (0 : Int32)), .val (.int (2 : Int32)), .val .null, .val (.ref r5)] [(.int (2 : Int32)), (.ref r5), (.ref a0)])) rfl (by rw [hml]; rfl) (argsL := [(.ref r5), (.int (2 : Int32))]) (rest := [(.ref a0)]) (lenOf pd_5 rfl) rfl (by show 2 * 0 + _ ≤ _; exact Nat.le_of_eq rfl) (hb hby d9_45) (fun _ _ => ⟨rfl, rfl, (by decide : 1 + 0 ≤ _), (by decide : 2 + 0 ≤ _)⟩)
  dsimp only [Pt.U, Pt.locs, Pt.cells, Pt.slots] at X10 l10 y10 z10 st10 hQ10
  subst l10 y10 z10
  obtain ⟨rfl, Nq10, e10⟩ := hQ10
  have N10 := Fr.app N4 Nq10
  obtain ⟨T11, h11, X11, e11, W11, st11⟩ := putFN X10 hx hZ hown (hw _ (List.mem_of_getElem? (i := 68) rfl)) Via.refl e10 (Fo_coder_6.keep c4_0 nin0) (Exa_5.keep c4_0) (Or.inr ⟨(hw _ (List.mem_of_getElem? (i := 13) rfl)), rfl, hnm⟩) (hw _ (List.mem_of_getElem? (i := 10) rfl)) (ty := .byte) (v' := (.int (0 : Int32))) (by decide) rfl (by decide) (g := (mkF m 48 #[.val (.ref a0), .val (.ref a1), .val (.int (0 : Int32)), .val (.int (2 : Int32)), .val .null, .val (.ref r5)] [(.int (0 : Int32)), (.ref a0)])) rfl rfl (hb hby d9_48)
  have Fw11 := (Fo_coder_6.keep c4_0 nin0).same W11
  have f12 := (f7.other W11 (Ne.symm (Exa.neArv (Exa_5.keep c4_0) f7 (hw _ (List.mem_of_getElem? (i := 10) rfl)))))
  have f13 := (f8.wr W11)
  have f14 := (m4_1.other W11 (Ne.symm (Exa.neArv (Exa_5.keep c4_0) m4_1 (hw _ (List.mem_of_getElem? (i := 10) rfl)))))
  have f15 := ((Exa_5.keep c4_0).wr W11)
  have N11 := Fr.snoc X11 N10 g_a0
  have K11 : Keep h0 h11 [a0] := Keep.wr K9 W11 (Or.inl (List.mem_of_getElem? (i := 0) rfl))
  obtain ⟨T16, h16, X16, e16, W16, st16⟩ := putF X11 hx hZ hown (host := "") (Or.inl (hw _ (List.mem_of_getElem? (i := 46) rfl))) Via.refl e11 ((Fo_value_8.keep c4_0 nin0).other W11 (Or.inr (slot_ne (Or.inr (hw _ (List.mem_of_getElem? (i := 12) rfl))) (Or.inr (hw _ (List.mem_of_getElem? (i := 13) rfl))) (by decide) (t := (.array .byte)) (t' := .byte) (by decide) (by decide)))) f15 (Or.inr ⟨(hw _ (List.mem_of_getElem? (i := 12) rfl)), rfl, hnm⟩) (hw _ (List.mem_of_getElem? (i := 10) rfl)) (ty := (.array .byte)) (by decide) rfl rfl (g := (mkF m 54 #[.val (.ref a0), .val (.ref a1), .val (.int (0 : Int32)), .val (.int (2 : Int32)), .val .null, .val (.ref r5)] [(.ref r5), (.ref a0)])) rfl rfl (hb hby d9_54)
  have Fw16 := ((Fo_value_8.keep c4_0 nin0).other W11 (Or.inr (slot_ne (Or.inr (hw _ (List.mem_of_getElem? (i := 12) rfl))) (Or.inr (hw _ (List.mem_of_getElem? (i := 13) rfl))) (by decide) (t := (.array .byte)) (t' := .byte) (by decide) (by decide)))).same W16
  have f17 := (f12.other W16 (Ne.symm (Exa.neArv f15 f12 (hw _ (List.mem_of_getElem? (i := 10) rfl)))))
  have f18 := (f13.wr W16)
  have f19 := (f14.other W16 (Ne.symm (Exa.neArv f15 f14 (hw _ (List.mem_of_getElem? (i := 10) rfl)))))
  have f20 := (f15.wr W16)
  have f21 := (Fw11.other W16 (Or.inr (slot_ne (Or.inr (hw _ (List.mem_of_getElem? (i := 13) rfl))) (Or.inr (hw _ (List.mem_of_getElem? (i := 12) rfl))) (by decide) (t := .byte) (t' := (.array .byte)) (by decide) (by decide))))
  have N16 := Fr.snoc X16 N11 g_a0
  have K16 : Keep h0 h16 [a0] := Keep.wr K11 W16 (Or.inl (List.mem_of_getElem? (i := 0) rfl))
  have pre22 : ∀ t, Steps p.tables e below (T16.setTop (mkF m 57 #[.val (.ref a0), .val (.ref a1), .val (.int (0 : Int32)), .val (.int (2 : Int32)), .val .null, .val (.ref r5)] [])) t → Steps p.tables e below (s₁.setTop (entryFrame m #[(.ref a0), (.ref a1), (.int (0 : Int32)), (.int (2 : Int32)), .null] 6)) t := fun t kt => pre0 t (by
      show Steps p.tables e below (s₁.setTop (mkF m 0 #[.val (.ref a0), .val (.ref a1), .val (.int (0 : Int32)), .val (.int (2 : Int32)), .val .null, .unset] [])) _
      refine XS.aloadN X0.here hx rfl (hb hby d9_0) rfl rfl ?_
      show Steps p.tables e below (s₁.setTop (mkF m 1 #[.val (.ref a0), .val (.ref a1), .val (.int (0 : Int32)), .val (.int (2 : Int32)), .val .null, .unset] [(.ref a0)])) _
      refine st1 _ ?_
      show Steps p.tables e below (T1.setTop (mkF m 4 #[.val (.ref a0), .val (.ref a1), .val (.int (0 : Int32)), .val (.int (2 : Int32)), .val .null, .unset] [])) _
      refine XS.iloadN X1.here hx rfl (hb hby d9_4) rfl ?_
      show Steps p.tables e below (T1.setTop (mkF m 5 #[.val (.ref a0), .val (.ref a1), .val (.int (0 : Int32)), .val (.int (2 : Int32)), .val .null, .unset] [(.int (2 : Int32))])) _
      refine XS.ifYes X1.here hx rfl (pc0 := 5) (pc' := 27) rfl (hb hby d9_5) rfl ((if0 _ _).trans (feq (by decide : ¬ ((2 : Int32) = (0 : Int32)))).2) (by decide) (by decide) ?_
      show Steps p.tables e below (T1.setTop (mkF m 27 #[.val (.ref a0), .val (.ref a1), .val (.int (0 : Int32)), .val (.int (2 : Int32)), .val .null, .unset] [])) _
      refine st2 _ ?_
      show Steps p.tables e below (T2.setTop (mkF m 30 #[.val (.ref a0), .val (.ref a1), .val (.int (0 : Int32)), .val (.int (2 : Int32)), .val .null, .unset] [(.int w_COMPACT_STRINGS_3)])) _
      refine XS.ifNo X2.here hx rfl (hb hby d9_30) rfl ((if0 _ _).trans (feq hp3).1) ?_
      show Steps p.tables e below (T2.setTop (mkF m 33 #[.val (.ref a0), .val (.ref a1), .val (.int (0 : Int32)), .val (.int (2 : Int32)), .val .null, .unset] [])) _
      refine XS.aloadN X2.here hx rfl (hb hby d9_33) rfl rfl ?_
      show Steps p.tables e below (T2.setTop (mkF m 34 #[.val (.ref a0), .val (.ref a1), .val (.int (0 : Int32)), .val (.int (2 : Int32)), .val .null, .unset] [(.ref a1)])) _
      refine XS.iloadN X2.here hx rfl (hb hby d9_34) rfl ?_
      show Steps p.tables e below (T2.setTop (mkF m 35 #[.val (.ref a0), .val (.ref a1), .val (.int (0 : Int32)), .val (.int (2 : Int32)), .val .null, .unset] [(.int (0 : Int32)), (.ref a1)])) _
      refine XS.iloadN X2.here hx rfl (hb hby d9_35) rfl ?_
      show Steps p.tables e below (T2.setTop (mkF m 36 #[.val (.ref a0), .val (.ref a1), .val (.int (0 : Int32)), .val (.int (2 : Int32)), .val .null, .unset] [(.int (2 : Int32)), (.int (0 : Int32)), (.ref a1)])) _
      refine st4 _ ?_
      show Steps p.tables e below (T4.setTop (mkF m 39 #[.val (.ref a0), .val (.ref a1), .val (.int (0 : Int32)), .val (.int (2 : Int32)), .val .null, .unset] [(.ref r5)])) _
      refine XS.astore X4.here hx rfl (hb hby d9_39) rfl rfl (l' := #[.val (.ref a0), .val (.ref a1), .val (.int (0 : Int32)), .val (.int (2 : Int32)), .val .null, .val (.ref r5)]) rfl ?_
      show Steps p.tables e below (T4.setTop (mkF m 41 #[.val (.ref a0), .val (.ref a1), .val (.int (0 : Int32)), .val (.int (2 : Int32)), .val .null, .val (.ref r5)] [])) _
      refine XS.aloadN X4.here hx rfl (hb hby d9_41) rfl rfl ?_
      show Steps p.tables e below (T4.setTop (mkF m 42 #[.val (.ref a0), .val (.ref a1), .val (.int (0 : Int32)), .val (.int (2 : Int32)), .val .null, .val (.ref r5)] [(.ref a0)])) _
      refine XS.aload X4.here hx rfl (hb hby d9_42) rfl rfl ?_
      show Steps p.tables e below (T4.setTop (mkF m 44 #[.val (.ref a0), .val (.ref a1), .val (.int (0 : Int32)), .val (.int (2 : Int32)), .val .null, .val (.ref r5)] [(.ref r5), (.ref a0)])) _
      refine XS.iloadN X4.here hx rfl (hb hby d9_44) rfl ?_
      show Steps p.tables e below (T4.setTop (mkF m 45 #[.val (.ref a0), .val (.ref a1), .val (.int (0 : Int32)), .val (.int (2 : Int32)), .val .null, .val (.ref r5)] [(.int (2 : Int32)), (.ref r5), (.ref a0)])) _
      refine st10 _ ?_
      show Steps p.tables e below (T10.setTop (mkF m 48 #[.val (.ref a0), .val (.ref a1), .val (.int (0 : Int32)), .val (.int (2 : Int32)), .val .null, .val (.ref r5)] [(.int (0 : Int32)), (.ref a0)])) _
      refine st11 _ ?_
      show Steps p.tables e below (T11.setTop (mkF m 51 #[.val (.ref a0), .val (.ref a1), .val (.int (0 : Int32)), .val (.int (2 : Int32)), .val .null, .val (.ref r5)] [])) _
      refine XS.aloadN X11.here hx rfl (hb hby d9_51) rfl rfl ?_
      show Steps p.tables e below (T11.setTop (mkF m 52 #[.val (.ref a0), .val (.ref a1), .val (.int (0 : Int32)), .val (.int (2 : Int32)), .val .null, .val (.ref r5)] [(.ref a0)])) _
      refine XS.aload X11.here hx rfl (hb hby d9_52) rfl rfl ?_
      show Steps p.tables e below (T11.setTop (mkF m 54 #[.val (.ref a0), .val (.ref a1), .val (.int (0 : Int32)), .val (.int (2 : Int32)), .val .null, .val (.ref r5)] [(.ref r5), (.ref a0)])) _
      refine st16 _ ?_
      exact kt)
  obtain ⟨fs, hr, hrun, hended, hW, hsame⟩ := X16.leave (v := none) (fun _ => rfl)
  refine ⟨_, _, pre22 _ ?_, hrun, hended, _, _, rfl, ?_, ⟨_, rfl⟩, hW, hsame.mono (by decide) (by decide)⟩
  · show Steps p.tables e below (T16.setTop (mkF m 57 #[.val (.ref a0), .val (.ref a1), .val (.int (0 : Int32)), .val (.int (2 : Int32)), .val .null, .val (.ref r5)] [])) _
    exact X16.returnOut hx Bd.returns (hb hby d9_57) hr
  · show QI4 Z _ _ _ _ _ _ _ _ h0 n0 _ T16.heap _
    rw [e16]
    exact ⟨rfl, N16, K16, _, _, f20, f21, Fw16, f19⟩
theorem pd_6 : parseMethodDescriptor "([CIILjava/lang/Void;)V" = some ⟨[(.array .char), .int, .int, (.object "java/lang/Void")], none⟩ := by decide +kernel
theorem d8_0 : decode jdk_42_method_3_code 0 = .ok (.aload_n 0, 1) := by decide +kernel
theorem d8_1 : decode jdk_42_method_3_code 1 = .ok (.aload_n 1, 1) := by decide +kernel
theorem d8_2 : decode jdk_42_method_3_code 2 = .ok (.iconst 0, 1) := by decide +kernel
theorem d8_3 : decode jdk_42_method_3_code 3 = .ok (.aload_n 1, 1) := by decide +kernel
theorem d8_4 : decode jdk_42_method_3_code 4 = .ok (.arraylength, 1) := by decide +kernel
theorem d8_5 : decode jdk_42_method_3_code 5 = .ok (.aconst_null, 1) := by decide +kernel
theorem d8_6 : decode jdk_42_method_3_code 6 = .ok (.invokespecial 27, 3) := by decide +kernel
theorem d8_9 : decode jdk_42_method_3_code 9 = .ok (.return_, 1) := by decide +kernel
theorem ef_I1 (m : MethodId) (x0 : Addr) (x1 : Addr)  : entryFrame m #[(.ref x0), (.ref x1)] 2 = mkF m 0 #[.val (.ref x0), .val (.ref x1)] [] := by first | (simp [entryFrame, mkF, argsToLocals, Value.category]; done) | rfl
def QI1 (Z : State) (a0 : Addr) (a1 : Addr) (c0 : Int32) (c1 : Int32) (kc : ClassId) (w_COMPACT_STRINGS_3 : Int32) (u_coder_4 : Value) (u_value_5 : Value) (h0 : Heap) (n0 : Nat) (v : Option Value) (h : Heap) (L : List Loc) : Prop := v = none ∧ Fr n0 L ∧ (Keep h0 h [a0]) ∧ ∃ (vb : Addr) (kb : ClassId), (Exa Z h a0 "java/lang/String") ∧ (Fld Z h a0 "java/lang/String" "coder" "B" (.int (0 : Int32))) ∧ (Fld Z h a0 "java/lang/String" "value" "[B" (.ref vb)) ∧ (Arv Z h vb kb .byte (2 : Int32) [(.int ((c0.toInt8.toInt32)).toInt8.toInt32), (.int ((c1.toInt8.toInt32)).toInt8.toInt32)] (.int (0 : Int32)))
set_option maxRecDepth 65536 in
set_option maxHeartbeats 40000000 in
theorem rmI1 (l : Launch) (Z : State) (aw : Array Value) (hw : ∀ d ∈ tables_1, d.before aw Z = true) (ws : List Jvm.Cond) (a0 : Addr) (a1 : Addr) (c0 : Int32) (c1 : Int32) (kc : ClassId) (w_COMPACT_STRINGS_3 : Int32) (u_coder_4 : Value) (u_value_5 : Value) (h0 : Heap) (n0 : Nat) (Z0 : n0 ≤ h0.size) (h0c : ¬ (255 : Int32) < c0) (h1c : ¬ (255 : Int32) < c1) (Arv_2 : Arv Z h0 a1 kc .char (2 : Int32) [(.int c0), (.int c1)] (.int (0 : Int32))) (Sf_COMPACT_STRINGS_3 : Sta Z h0 "java/lang/String" "COMPACT_STRINGS" "Z" (.int w_COMPACT_STRINGS_3)) (hp3 : ¬ w_COMPACT_STRINGS_3 = (0 : Int32)) (Exa_5 : Exa Z h0 a0 "java/lang/String") (Fo_coder_6 : Fld Z h0 a0 "java/lang/String" "coder" "B" u_coder_4) (g_a0 : n0 ≤ a0) (Fo_value_8 : Fld Z h0 a0 "java/lang/String" "value" "[B" u_value_5) :
    MetFree l (⟨"java/lang/String", "<init>", "([C)V"⟩ : MethodName) (head1 (Jvm.Cond.code (⟨"java/lang/String", "<init>", "([C)V"⟩ : MethodName) jdk_42_method_3_code 2 none :: ws) ({ frames := 3, cells := 1, slots := 2, locals := 52 } : Room)) (fun a U => a = #[(.ref a0), (.ref a1)] ∧ Z.Warmed39 U.vm ∧ U.heap = h0) (fun _ _ _ _ _ => True) (fun _ U o U' => ∃ v L, o = .returned v ∧ QI1 Z a0 a1 c0 c1 kc w_COMPACT_STRINGS_3 u_coder_4 u_value_5 h0 n0 v U'.heap L ∧ FrameEnd U o U' L ({ frames := 3, cells := 1, slots := 2, locals := 52 } : Room).cells ({ frames := 3, cells := 1, slots := 2, locals := 52 } : Room).slots) := by
  refine MetFree.of_bodySF (plainFor_of_name pn_1) hisR ?_
  intro p e s m args below meth c s₁ Bd hml0 hP hK
  obtain ⟨rfl, hZ, hh⟩ := hP
  have hx := Bd.exec
  have hby := Bd.bytes
  have hml : c.maxLocals = 2 := hml0
  have hown : s.vm.findClass "java/lang/String" = some m.cls := findClass_of_methodNamed Bd.named
  have hnm := (name_of_methodNamed Bd.named Bd.method).1
  have X0 : Stand p l e ({ frames := 3, cells := 1, slots := 2, locals := 52 } : Room) s m #[(.ref a0), (.ref a1)] below meth c s₁ [] 0 0 := Stand.of_body Bd
  have e0 : s₁.heap = h0 := by rw [← hh, Bd.state]; rfl
  have N0 := Fr.nil n0
  have pre0 : ∀ t, Steps p.tables e below (s₁.setTop (mkF m 0 #[.val (.ref a0), .val (.ref a1)] [])) t → Steps p.tables e below (s₁.setTop (entryFrame m #[(.ref a0), (.ref a1)] 2)) t := fun t k => castTop (ef_I1 m a0 a1 ) k
  obtain ⟨co1, Ao1, qo1, So1, No1, Ho1, Go1⟩ := id Arv_2
  obtain ⟨_, _, ⟨T2, L2, k2, n2⟩, -, X2, ⟨Lc2, hQ2, l2, y2, z2⟩, st2⟩ := X0.specialBack hx (y := (⟨"java/lang/String", "<init>", "([CIILjava/lang/Void;)V"⟩ : MethodName)) rfl hown (mvT hZ (hw _ (List.mem_of_getElem? (i := 52) rfl))) (mvT hZ (hw _ (List.mem_of_getElem? (i := 53) rfl))) (mvT hZ (hw _ (List.mem_of_getElem? (i := 55) rfl))) (by decide) (backOf (W := 0) (rmI4 l Z aw hw [] a0 a1 c0 c1 kc w_COMPACT_STRINGS_3 u_coder_4 u_value_5 h0 n0 Z0 h0c h1c Arv_2 Sf_COMPACT_STRINGS_3 hp3 Exa_5 Fo_coder_6 g_a0 Fo_value_8) hZ (hw _ (List.mem_of_getElem? (i := 55) rfl)) (hw _ (List.mem_of_getElem? (i := 9) rfl)) (by decide) (by decide)) (g := (mkF m 6 #[.val (.ref a0), .val (.ref a1)] [.null, (.int (2 : Int32)), (.int (0 : Int32)), (.ref a1), (.ref a0)])) rfl (by rw [hml]; rfl) (Steps.refl _) (a := a0) (argsL := [(.ref a1), (.int (0 : Int32)), (.int (2 : Int32)), .null]) (rest := []) (lenOf pd_6 rfl) rfl (by show 2 * 0 + _ ≤ _; exact Nat.le_of_eq rfl) (hb hby d8_6) (fun _ _ => ⟨rfl, e0, (by decide : 0 + 1 ≤ _), (by decide : 0 + 2 ≤ _)⟩)
  dsimp only [Pt.U, Pt.locs, Pt.cells, Pt.slots] at X2 l2 y2 z2 st2 hQ2
  subst l2 y2 z2
  obtain ⟨rfl, Nq2, c2_0, vb4, kb5, c2_1, c2_2, c2_3, c2_4⟩ := hQ2
  have N2 := Fr.app N0 Nq2
  have f6 := (Arv_2.keep c2_0 (ninS (Ne.symm (Exa.neArv Exa_5 Arv_2 (hw _ (List.mem_of_getElem? (i := 10) rfl)))) nin0))
  have f7 := (own_sta_keep Sf_COMPACT_STRINGS_3 c2_0 (allS (own_exa_ns Exa_5) all0))
  have f8 := (Exa_5.keep c2_0)
  have K9 : Keep h0 T2.heap [a0] := Keep.trans (Keep.refl h0 [a0]) c2_0 (allS (Or.inl (List.mem_of_getElem? (i := 0) rfl)) all0)
  have pre10 : ∀ t, Steps p.tables e below (T2.setTop (mkF m 9 #[.val (.ref a0), .val (.ref a1)] [])) t → Steps p.tables e below (s₁.setTop (entryFrame m #[(.ref a0), (.ref a1)] 2)) t := fun t kt => pre0 t (by
      show Steps p.tables e below (s₁.setTop (mkF m 0 #[.val (.ref a0), .val (.ref a1)] [])) _
      refine XS.aloadN X0.here hx rfl (hb hby d8_0) rfl rfl ?_
      show Steps p.tables e below (s₁.setTop (mkF m 1 #[.val (.ref a0), .val (.ref a1)] [(.ref a0)])) _
      refine XS.aloadN X0.here hx rfl (hb hby d8_1) rfl rfl ?_
      show Steps p.tables e below (s₁.setTop (mkF m 2 #[.val (.ref a0), .val (.ref a1)] [(.ref a1), (.ref a0)])) _
      refine XS.iconst X0.here hx rfl (hb hby d8_2) ?_
      show Steps p.tables e below (s₁.setTop (mkF m 3 #[.val (.ref a0), .val (.ref a1)] [(.int (0 : Int32)), (.ref a1), (.ref a0)])) _
      refine XS.aloadN X0.here hx rfl (hb hby d8_3) rfl rfl ?_
      show Steps p.tables e below (s₁.setTop (mkF m 4 #[.val (.ref a0), .val (.ref a1)] [(.ref a1), (.int (0 : Int32)), (.ref a1), (.ref a0)])) _
      refine X0.arraylength hx (by rw [e0]; exact Ao1.1) (State.isArrayOf_alike hZ.alike Ao1.2.1) (g := (mkF m 4 #[.val (.ref a0), .val (.ref a1)] [(.ref a1), (.int (0 : Int32)), (.ref a1), (.ref a0)])) rfl rfl (hb hby d8_4) _ ?_
      rw [len_of So1 No1]
      show Steps p.tables e below (s₁.setTop (mkF m 5 #[.val (.ref a0), .val (.ref a1)] [(.int (2 : Int32)), (.int (0 : Int32)), (.ref a1), (.ref a0)])) _
      refine XS.aconstNull X0.here hx rfl (hb hby d8_5) ?_
      show Steps p.tables e below (s₁.setTop (mkF m 6 #[.val (.ref a0), .val (.ref a1)] [.null, (.int (2 : Int32)), (.int (0 : Int32)), (.ref a1), (.ref a0)])) _
      refine st2.trans ?_
      exact kt)
  obtain ⟨fs, hr, hrun, hended, hW, hsame⟩ := X2.leave (v := none) (fun _ => rfl)
  refine ⟨_, _, pre10 _ ?_, hrun, hended, _, _, rfl, ?_, ⟨_, rfl⟩, hW, hsame.mono (by decide) (by decide)⟩
  · show Steps p.tables e below (T2.setTop (mkF m 9 #[.val (.ref a0), .val (.ref a1)] [])) _
    exact X2.returnOut hx Bd.returns (hb hby d8_9) hr
  · show QI1 Z _ _ _ _ _ _ _ _ h0 n0 _ T2.heap _
    exact ⟨rfl, N2, K9, _, _, c2_1, c2_2, c2_3, c2_4⟩
theorem pn_3 : plainName "java/lang/Record" = true := by first | (simp [plainName, overriddenIn]; done) | decide +kernel
theorem d4_0 : decode jdk_30_method_1_code 0 = .ok (.aload_n 0, 1) := by decide +kernel
theorem d4_1 : decode jdk_30_method_1_code 1 = .ok (.invokespecial 1, 3) := by decide +kernel
theorem d4_4 : decode jdk_30_method_1_code 4 = .ok (.return_, 1) := by decide +kernel
theorem ef_4 (m : MethodId) (x0 : Addr)  : entryFrame m #[(.ref x0)] 1 = mkF m 0 #[.val (.ref x0)] [] := by first | (simp [entryFrame, mkF, argsToLocals, Value.category]; done) | rfl
def Q4 (Z : State) (a0 : Addr) (h0 : Heap) (n0 : Nat) (v : Option Value) (h : Heap) (L : List Loc) : Prop := v = none ∧ Fr n0 L ∧ h = h0
set_option maxRecDepth 65536 in
set_option maxHeartbeats 40000000 in
theorem rm4 (l : Launch) (Z : State) (aw : Array Value) (hw : ∀ d ∈ tables_1, d.before aw Z = true) (ws : List Jvm.Cond) (a0 : Addr) (h0 : Heap) (n0 : Nat) (Z0 : n0 ≤ h0.size) :
    MetFree l (⟨"java/lang/Record", "<init>", "()V"⟩ : MethodName) (head1 (Jvm.Cond.code (⟨"java/lang/Record", "<init>", "()V"⟩ : MethodName) jdk_30_method_1_code 1 none :: ws) ({ frames := 1, cells := 0, slots := 0, locals := 12 } : Room)) (fun a U => a = #[(.ref a0)] ∧ Z.Warmed39 U.vm ∧ U.heap = h0) (fun _ _ _ _ _ => True) (fun _ U o U' => ∃ v L, o = .returned v ∧ Q4 Z a0 h0 n0 v U'.heap L ∧ FrameEnd U o U' L ({ frames := 1, cells := 0, slots := 0, locals := 12 } : Room).cells ({ frames := 1, cells := 0, slots := 0, locals := 12 } : Room).slots) := by
  refine MetFree.of_bodySF (plainFor_of_name pn_3) hisR ?_
  intro p e s m args below meth c s₁ Bd hml0 hP hK
  obtain ⟨rfl, hZ, hh⟩ := hP
  have hx := Bd.exec
  have hby := Bd.bytes
  have hml : c.maxLocals = 1 := hml0
  have hown : s.vm.findClass "java/lang/Record" = some m.cls := findClass_of_methodNamed Bd.named
  have hnm := (name_of_methodNamed Bd.named Bd.method).1
  have X0 : Stand p l e ({ frames := 1, cells := 0, slots := 0, locals := 12 } : Room) s m #[(.ref a0)] below meth c s₁ [] 0 0 := Stand.of_body Bd
  have e0 : s₁.heap = h0 := by rw [← hh, Bd.state]; rfl
  have N0 := Fr.nil n0
  have pre0 : ∀ t, Steps p.tables e below (s₁.setTop (mkF m 0 #[.val (.ref a0)] [])) t → Steps p.tables e below (s₁.setTop (entryFrame m #[(.ref a0)] 1)) t := fun t k => castTop (ef_4 m a0 ) k
  obtain ⟨T1, X1, e1, st1⟩ := initO X0 hx hZ hown (hw _ (List.mem_of_getElem? (i := 27) rfl)) (hw _ (List.mem_of_getElem? (i := 28) rfl)) (hw _ (List.mem_of_getElem? (i := 29) rfl)) e0 (g := (mkF m 1 #[.val (.ref a0)] [(.ref a0)])) rfl (by rw [hml]; rfl) rfl (hb hby d4_1) (by decide) (W := 0) (by show 2 * 0 + _ ≤ _; exact Nat.le_of_eq rfl) (by decide)
  have pre2 : ∀ t, Steps p.tables e below (T1.setTop (mkF m 4 #[.val (.ref a0)] [])) t → Steps p.tables e below (s₁.setTop (entryFrame m #[(.ref a0)] 1)) t := fun t kt => pre0 t (by
      show Steps p.tables e below (s₁.setTop (mkF m 0 #[.val (.ref a0)] [])) _
      refine XS.aloadN X0.here hx rfl (hb hby d4_0) rfl rfl ?_
      show Steps p.tables e below (s₁.setTop (mkF m 1 #[.val (.ref a0)] [(.ref a0)])) _
      refine st1 _ ?_
      exact kt)
  obtain ⟨fs, hr, hrun, hended, hW, hsame⟩ := X1.leave (v := none) (fun _ => rfl)
  refine ⟨_, _, pre2 _ ?_, hrun, hended, _, _, rfl, ?_, ⟨_, rfl⟩, hW, hsame.mono (by decide) (by decide)⟩
  · show Steps p.tables e below (T1.setTop (mkF m 4 #[.val (.ref a0)] [])) _
    exact X1.returnOut hx Bd.returns (hb hby d4_4) hr
  · show Q4 Z _ h0 n0 _ T1.heap _
    rw [e1]
    exact ⟨rfl, N0, rfl⟩
theorem pd_7 : parseMethodDescriptor "()V" = some ⟨[], none⟩ := by decide +kernel
theorem pn_4 : plainName "cartouche/mapping/Decimal" = true := by first | (simp [plainName, overriddenIn]; done) | decide +kernel
theorem d3_0 : decode prog_58_method_1_code 0 = .ok (.aload_n 0, 1) := by decide +kernel
theorem d3_1 : decode prog_58_method_1_code 1 = .ok (.invokespecial 1, 3) := by decide +kernel
theorem d3_4 : decode prog_58_method_1_code 4 = .ok (.aload_n 0, 1) := by decide +kernel
theorem d3_5 : decode prog_58_method_1_code 5 = .ok (.iload_n 1, 1) := by decide +kernel
theorem d3_6 : decode prog_58_method_1_code 6 = .ok (.putfield 7, 3) := by decide +kernel
theorem d3_9 : decode prog_58_method_1_code 9 = .ok (.aload_n 0, 1) := by decide +kernel
theorem d3_10 : decode prog_58_method_1_code 10 = .ok (.aload_n 2, 1) := by decide +kernel
theorem d3_11 : decode prog_58_method_1_code 11 = .ok (.putfield 13, 3) := by decide +kernel
theorem d3_14 : decode prog_58_method_1_code 14 = .ok (.aload_n 0, 1) := by decide +kernel
theorem d3_15 : decode prog_58_method_1_code 15 = .ok (.aload_n 3, 1) := by decide +kernel
theorem d3_16 : decode prog_58_method_1_code 16 = .ok (.putfield 17, 3) := by decide +kernel
theorem d3_19 : decode prog_58_method_1_code 19 = .ok (.return_, 1) := by decide +kernel
theorem ef_3 (m : MethodId) (x0 : Addr) (x1 : Int32) (x2 : Addr) (x3 : Addr)  : entryFrame m #[(.ref x0), (.int x1), (.ref x2), (.ref x3)] 4 = mkF m 0 #[.val (.ref x0), .val (.int x1), .val (.ref x2), .val (.ref x3)] [] := by first | (simp [entryFrame, mkF, argsToLocals, Value.category]; done) | rfl
def Q3 (Z : State) (a0 : Addr) (p1 : Int32) (a2 : Addr) (a3 : Addr) (u_sign_0 : Value) (u_whole_1 : Value) (u_fraction_2 : Value) (h0 : Heap) (n0 : Nat) (v : Option Value) (h : Heap) (L : List Loc) : Prop := v = none ∧ Fr n0 L ∧ (Keep h0 h [a0]) ∧ (Exa Z h a0 "cartouche/mapping/Decimal") ∧ (Fld Z h a0 "cartouche/mapping/Decimal" "sign" "I" (.int p1)) ∧ (Fld Z h a0 "cartouche/mapping/Decimal" "fraction" "Ljava/lang/String;" (.ref a3))
set_option maxRecDepth 65536 in
set_option maxHeartbeats 40000000 in
theorem rm3 (l : Launch) (Z : State) (aw : Array Value) (hw : ∀ d ∈ tables_1, d.before aw Z = true) (ws : List Jvm.Cond) (a0 : Addr) (p1 : Int32) (a2 : Addr) (a3 : Addr) (u_sign_0 : Value) (u_whole_1 : Value) (u_fraction_2 : Value) (h0 : Heap) (n0 : Nat) (Z0 : n0 ≤ h0.size) (Exa_0 : Exa Z h0 a0 "cartouche/mapping/Decimal") (Fo_sign_1 : Fld Z h0 a0 "cartouche/mapping/Decimal" "sign" "I" u_sign_0) (g_a0 : n0 ≤ a0) (Fo_whole_3 : Fld Z h0 a0 "cartouche/mapping/Decimal" "whole" "Ljava/lang/String;" u_whole_1) (Fo_fraction_4 : Fld Z h0 a0 "cartouche/mapping/Decimal" "fraction" "Ljava/lang/String;" u_fraction_2) :
    MetFree l (⟨"cartouche/mapping/Decimal", "<init>", "(ILjava/lang/String;Ljava/lang/String;)V"⟩ : MethodName) (head1 (Jvm.Cond.code (⟨"cartouche/mapping/Decimal", "<init>", "(ILjava/lang/String;Ljava/lang/String;)V"⟩ : MethodName) prog_58_method_1_code 4 none :: ws) ({ frames := 2, cells := 0, slots := 0, locals := 24 } : Room)) (fun a U => a = #[(.ref a0), (.int p1), (.ref a2), (.ref a3)] ∧ Z.Warmed39 U.vm ∧ U.heap = h0) (fun _ _ _ _ _ => True) (fun _ U o U' => ∃ v L, o = .returned v ∧ Q3 Z a0 p1 a2 a3 u_sign_0 u_whole_1 u_fraction_2 h0 n0 v U'.heap L ∧ FrameEnd U o U' L ({ frames := 2, cells := 0, slots := 0, locals := 24 } : Room).cells ({ frames := 2, cells := 0, slots := 0, locals := 24 } : Room).slots) := by
  refine MetFree.of_bodySF (plainFor_of_name pn_4) hisR ?_
  intro p e s m args below meth c s₁ Bd hml0 hP hK
  obtain ⟨rfl, hZ, hh⟩ := hP
  have hx := Bd.exec
  have hby := Bd.bytes
  have hml : c.maxLocals = 4 := hml0
  have hown : s.vm.findClass "cartouche/mapping/Decimal" = some m.cls := findClass_of_methodNamed Bd.named
  have hnm := (name_of_methodNamed Bd.named Bd.method).1
  have X0 : Stand p l e ({ frames := 2, cells := 0, slots := 0, locals := 24 } : Room) s m #[(.ref a0), (.int p1), (.ref a2), (.ref a3)] below meth c s₁ [] 0 0 := Stand.of_body Bd
  have e0 : s₁.heap = h0 := by rw [← hh, Bd.state]; rfl
  have N0 := Fr.nil n0
  have pre0 : ∀ t, Steps p.tables e below (s₁.setTop (mkF m 0 #[.val (.ref a0), .val (.int p1), .val (.ref a2), .val (.ref a3)] [])) t → Steps p.tables e below (s₁.setTop (entryFrame m #[(.ref a0), (.int p1), (.ref a2), (.ref a3)] 4)) t := fun t k => castTop (ef_3 m a0 p1 a2 a3 ) k
  obtain ⟨_, _, ⟨T1, L1, k1, n1⟩, -, X1, ⟨Lc1, hQ1, l1, y1, z1⟩, st1⟩ := X0.specialBack hx (y := (⟨"java/lang/Record", "<init>", "()V"⟩ : MethodName)) rfl hown (mvT hZ (hw _ (List.mem_of_getElem? (i := 22) rfl))) (mvT hZ (hw _ (List.mem_of_getElem? (i := 23) rfl))) (mvT hZ (hw _ (List.mem_of_getElem? (i := 26) rfl))) (by decide) (backOf (W := 0) (rm4 l Z aw hw [] a0 h0 n0 Z0 ) hZ (hw _ (List.mem_of_getElem? (i := 26) rfl)) (hw _ (List.mem_of_getElem? (i := 25) rfl)) (by decide) (by decide)) (g := (mkF m 1 #[.val (.ref a0), .val (.int p1), .val (.ref a2), .val (.ref a3)] [(.ref a0)])) rfl (by rw [hml]; rfl) (Steps.refl _) (a := a0) (argsL := []) (rest := []) (lenOf pd_7 rfl) rfl (by show 2 * 0 + _ ≤ _; exact Nat.le_of_eq rfl) (hb hby d3_1) (fun _ _ => ⟨rfl, e0, (by decide : 0 + 0 ≤ _), (by decide : 0 + 0 ≤ _)⟩)
  dsimp only [Pt.U, Pt.locs, Pt.cells, Pt.slots] at X1 l1 y1 z1 st1 hQ1
  subst l1 y1 z1
  obtain ⟨rfl, Nq1, e1⟩ := hQ1
  have N1 := Fr.app N0 Nq1
  obtain ⟨T2, h2, X2, e2, W2, st2⟩ := putF X1 hx hZ hown (host := "") (Or.inl (hw _ (List.mem_of_getElem? (i := 30) rfl))) Via.refl e1 Fo_sign_1 Exa_0 (Or.inr ⟨(hw _ (List.mem_of_getElem? (i := 31) rfl)), rfl, hnm⟩) (hw _ (List.mem_of_getElem? (i := 2) rfl)) (ty := .int) (by decide) rfl rfl (g := (mkF m 6 #[.val (.ref a0), .val (.int p1), .val (.ref a2), .val (.ref a3)] [(.int p1), (.ref a0)])) rfl rfl (hb hby d3_6)
  have Fw2 := Fo_sign_1.same W2
  have f3 := (Exa_0.wr W2)
  have N2 := Fr.snoc X2 N1 g_a0
  have K2 : Keep h0 h2 [a0] := Keep.wr (Keep.refl h0 [a0]) W2 (Or.inl (List.mem_of_getElem? (i := 0) rfl))
  obtain ⟨T4, h4, X4, e4, W4, st4⟩ := putF X2 hx hZ hown (host := "") (Or.inl (hw _ (List.mem_of_getElem? (i := 32) rfl))) Via.refl e2 (Fo_whole_3.other W2 (Or.inr (slot_ne (Or.inr (hw _ (List.mem_of_getElem? (i := 33) rfl))) (Or.inr (hw _ (List.mem_of_getElem? (i := 31) rfl))) (by decide) (t := (.object "java/lang/String")) (t' := .int) (by decide) (by decide)))) f3 (Or.inr ⟨(hw _ (List.mem_of_getElem? (i := 33) rfl)), rfl, hnm⟩) (hw _ (List.mem_of_getElem? (i := 2) rfl)) (ty := (.object "java/lang/String")) (by decide) rfl rfl (g := (mkF m 11 #[.val (.ref a0), .val (.int p1), .val (.ref a2), .val (.ref a3)] [(.ref a2), (.ref a0)])) rfl rfl (hb hby d3_11)
  have Fw4 := (Fo_whole_3.other W2 (Or.inr (slot_ne (Or.inr (hw _ (List.mem_of_getElem? (i := 33) rfl))) (Or.inr (hw _ (List.mem_of_getElem? (i := 31) rfl))) (by decide) (t := (.object "java/lang/String")) (t' := .int) (by decide) (by decide)))).same W4
  have f5 := (f3.wr W4)
  have f6 := (Fw2.other W4 (Or.inr (slot_ne (Or.inr (hw _ (List.mem_of_getElem? (i := 31) rfl))) (Or.inr (hw _ (List.mem_of_getElem? (i := 33) rfl))) (by decide) (t := .int) (t' := (.object "java/lang/String")) (by decide) (by decide))))
  have N4 := Fr.snoc X4 N2 g_a0
  have K4 : Keep h0 h4 [a0] := Keep.wr K2 W4 (Or.inl (List.mem_of_getElem? (i := 0) rfl))
  obtain ⟨T7, h7, X7, e7, W7, st7⟩ := putF X4 hx hZ hown (host := "") (Or.inl (hw _ (List.mem_of_getElem? (i := 34) rfl))) Via.refl e4 ((Fo_fraction_4.other W2 (Or.inr (slot_ne (Or.inr (hw _ (List.mem_of_getElem? (i := 35) rfl))) (Or.inr (hw _ (List.mem_of_getElem? (i := 31) rfl))) (by decide) (t := (.object "java/lang/String")) (t' := .int) (by decide) (by decide)))).other W4 (Or.inr (slot_ne (Or.inr (hw _ (List.mem_of_getElem? (i := 35) rfl))) (Or.inr (hw _ (List.mem_of_getElem? (i := 33) rfl))) (by decide) (t := (.object "java/lang/String")) (t' := (.object "java/lang/String")) (by decide) (by decide)))) f5 (Or.inr ⟨(hw _ (List.mem_of_getElem? (i := 35) rfl)), rfl, hnm⟩) (hw _ (List.mem_of_getElem? (i := 2) rfl)) (ty := (.object "java/lang/String")) (by decide) rfl rfl (g := (mkF m 16 #[.val (.ref a0), .val (.int p1), .val (.ref a2), .val (.ref a3)] [(.ref a3), (.ref a0)])) rfl rfl (hb hby d3_16)
  have Fw7 := ((Fo_fraction_4.other W2 (Or.inr (slot_ne (Or.inr (hw _ (List.mem_of_getElem? (i := 35) rfl))) (Or.inr (hw _ (List.mem_of_getElem? (i := 31) rfl))) (by decide) (t := (.object "java/lang/String")) (t' := .int) (by decide) (by decide)))).other W4 (Or.inr (slot_ne (Or.inr (hw _ (List.mem_of_getElem? (i := 35) rfl))) (Or.inr (hw _ (List.mem_of_getElem? (i := 33) rfl))) (by decide) (t := (.object "java/lang/String")) (t' := (.object "java/lang/String")) (by decide) (by decide)))).same W7
  have f8 := (f5.wr W7)
  have f9 := (f6.other W7 (Or.inr (slot_ne (Or.inr (hw _ (List.mem_of_getElem? (i := 31) rfl))) (Or.inr (hw _ (List.mem_of_getElem? (i := 35) rfl))) (by decide) (t := .int) (t' := (.object "java/lang/String")) (by decide) (by decide))))
  have f10 := (Fw4.other W7 (Or.inr (slot_ne (Or.inr (hw _ (List.mem_of_getElem? (i := 33) rfl))) (Or.inr (hw _ (List.mem_of_getElem? (i := 35) rfl))) (by decide) (t := (.object "java/lang/String")) (t' := (.object "java/lang/String")) (by decide) (by decide))))
  have N7 := Fr.snoc X7 N4 g_a0
  have K7 : Keep h0 h7 [a0] := Keep.wr K4 W7 (Or.inl (List.mem_of_getElem? (i := 0) rfl))
  have pre11 : ∀ t, Steps p.tables e below (T7.setTop (mkF m 19 #[.val (.ref a0), .val (.int p1), .val (.ref a2), .val (.ref a3)] [])) t → Steps p.tables e below (s₁.setTop (entryFrame m #[(.ref a0), (.int p1), (.ref a2), (.ref a3)] 4)) t := fun t kt => pre0 t (by
      show Steps p.tables e below (s₁.setTop (mkF m 0 #[.val (.ref a0), .val (.int p1), .val (.ref a2), .val (.ref a3)] [])) _
      refine XS.aloadN X0.here hx rfl (hb hby d3_0) rfl rfl ?_
      show Steps p.tables e below (s₁.setTop (mkF m 1 #[.val (.ref a0), .val (.int p1), .val (.ref a2), .val (.ref a3)] [(.ref a0)])) _
      refine st1.trans ?_
      show Steps p.tables e below (T1.setTop (mkF m 4 #[.val (.ref a0), .val (.int p1), .val (.ref a2), .val (.ref a3)] [])) _
      refine XS.aloadN X1.here hx rfl (hb hby d3_4) rfl rfl ?_
      show Steps p.tables e below (T1.setTop (mkF m 5 #[.val (.ref a0), .val (.int p1), .val (.ref a2), .val (.ref a3)] [(.ref a0)])) _
      refine XS.iloadN X1.here hx rfl (hb hby d3_5) rfl ?_
      show Steps p.tables e below (T1.setTop (mkF m 6 #[.val (.ref a0), .val (.int p1), .val (.ref a2), .val (.ref a3)] [(.int p1), (.ref a0)])) _
      refine st2 _ ?_
      show Steps p.tables e below (T2.setTop (mkF m 9 #[.val (.ref a0), .val (.int p1), .val (.ref a2), .val (.ref a3)] [])) _
      refine XS.aloadN X2.here hx rfl (hb hby d3_9) rfl rfl ?_
      show Steps p.tables e below (T2.setTop (mkF m 10 #[.val (.ref a0), .val (.int p1), .val (.ref a2), .val (.ref a3)] [(.ref a0)])) _
      refine XS.aloadN X2.here hx rfl (hb hby d3_10) rfl rfl ?_
      show Steps p.tables e below (T2.setTop (mkF m 11 #[.val (.ref a0), .val (.int p1), .val (.ref a2), .val (.ref a3)] [(.ref a2), (.ref a0)])) _
      refine st4 _ ?_
      show Steps p.tables e below (T4.setTop (mkF m 14 #[.val (.ref a0), .val (.int p1), .val (.ref a2), .val (.ref a3)] [])) _
      refine XS.aloadN X4.here hx rfl (hb hby d3_14) rfl rfl ?_
      show Steps p.tables e below (T4.setTop (mkF m 15 #[.val (.ref a0), .val (.int p1), .val (.ref a2), .val (.ref a3)] [(.ref a0)])) _
      refine XS.aloadN X4.here hx rfl (hb hby d3_15) rfl rfl ?_
      show Steps p.tables e below (T4.setTop (mkF m 16 #[.val (.ref a0), .val (.int p1), .val (.ref a2), .val (.ref a3)] [(.ref a3), (.ref a0)])) _
      refine st7 _ ?_
      exact kt)
  obtain ⟨fs, hr, hrun, hended, hW, hsame⟩ := X7.leave (v := none) (fun _ => rfl)
  refine ⟨_, _, pre11 _ ?_, hrun, hended, _, _, rfl, ?_, ⟨_, rfl⟩, hW, hsame.mono (by decide) (by decide)⟩
  · show Steps p.tables e below (T7.setTop (mkF m 19 #[.val (.ref a0), .val (.int p1), .val (.ref a2), .val (.ref a3)] [])) _
    exact X7.returnOut hx Bd.returns (hb hby d3_19) hr
  · show Q3 Z _ _ _ _ _ _ _ h0 n0 _ T7.heap _
    rw [e7]
    exact ⟨rfl, N7, K7, f8, f9, Fw7⟩
theorem d7_0 : decode jdk_42_method_55_code 0 = .ok (.aload_n 0, 1) := by decide +kernel
theorem d7_1 : decode jdk_42_method_55_code 1 = .ok (.getfield 9, 3) := by decide +kernel
theorem d7_4 : decode jdk_42_method_55_code 4 = .ok (.arraylength, 1) := by decide +kernel
theorem d7_5 : decode jdk_42_method_55_code 5 = .ok (.ifCond .ne 7, 3) := by decide +kernel
theorem d7_8 : decode jdk_42_method_55_code 8 = .ok (.iconst 1, 1) := by decide +kernel
theorem d7_9 : decode jdk_42_method_55_code 9 = .ok (.goto 4, 3) := by decide +kernel
theorem d7_12 : decode jdk_42_method_55_code 12 = .ok (.iconst 0, 1) := by decide +kernel
theorem d7_13 : decode jdk_42_method_55_code 13 = .ok (.ireturn, 1) := by decide +kernel
theorem ef_7 (m : MethodId) (x0 : Addr)  : entryFrame m #[(.ref x0)] 1 = mkF m 0 #[.val (.ref x0)] [] := by first | (simp [entryFrame, mkF, argsToLocals, Value.category]; done) | rfl
def Q7 (Z : State) (a0 : Addr) (vb : Addr) (kb : ClassId) (z : Int32) (vs : List Value) (h0 : Heap) (n0 : Nat) (v : Option Value) (h : Heap) (L : List Loc) : Prop := (∃ (r : Int32), v = some (.int r) ∧ ((z = (0 : Int32) → (1 : Int32) = r) ∧ (¬ z = (0 : Int32) → (0 : Int32) = r))) ∧ Fr n0 L ∧ h = h0
set_option maxRecDepth 65536 in
set_option maxHeartbeats 40000000 in
theorem rm7 (l : Launch) (Z : State) (aw : Array Value) (hw : ∀ d ∈ tables_1, d.before aw Z = true) (ws : List Jvm.Cond) (a0 : Addr) (vb : Addr) (kb : ClassId) (z : Int32) (vs : List Value) (h0 : Heap) (n0 : Nat) (Z0 : n0 ≤ h0.size) (Arv_0 : Arv Z h0 vb kb .byte z vs (.int (0 : Int32))) (Ff_value_1 : Fld Z h0 a0 "java/lang/String" "value" "[B" (.ref vb)) :
    MetFree l (⟨"java/lang/String", "isEmpty", "()Z"⟩ : MethodName) (head1 (Jvm.Cond.code (⟨"java/lang/String", "isEmpty", "()Z"⟩ : MethodName) jdk_42_method_55_code 1 (some .boolean) :: ws) ({ frames := 0, cells := 0, slots := 0, locals := 0 } : Room)) (fun a U => a = #[(.ref a0)] ∧ Z.Warmed39 U.vm ∧ U.heap = h0) (fun _ _ _ _ _ => True) (fun _ U o U' => ∃ v L, o = .returned v ∧ Q7 Z a0 vb kb z vs h0 n0 v U'.heap L ∧ FrameEnd U o U' L ({ frames := 0, cells := 0, slots := 0, locals := 0 } : Room).cells ({ frames := 0, cells := 0, slots := 0, locals := 0 } : Room).slots) := by
  refine MetFree.of_bodySF (plainFor_of_name pn_1) hisR ?_
  intro p e s m args below meth c s₁ Bd hml0 hP hK
  obtain ⟨rfl, hZ, hh⟩ := hP
  have hx := Bd.exec
  have hby := Bd.bytes
  have hml : c.maxLocals = 1 := hml0
  have hown : s.vm.findClass "java/lang/String" = some m.cls := findClass_of_methodNamed Bd.named
  have hnm := (name_of_methodNamed Bd.named Bd.method).1
  have X0 : Stand p l e ({ frames := 0, cells := 0, slots := 0, locals := 0 } : Room) s m #[(.ref a0)] below meth c s₁ [] 0 0 := Stand.of_body Bd
  have e0 : s₁.heap = h0 := by rw [← hh, Bd.state]; rfl
  have N0 := Fr.nil n0
  have pre0 : ∀ t, Steps p.tables e below (s₁.setTop (mkF m 0 #[.val (.ref a0)] [])) t → Steps p.tables e below (s₁.setTop (entryFrame m #[(.ref a0)] 1)) t := fun t k => castTop (ef_7 m a0 ) k
  obtain ⟨T1, X1, e1, st1⟩ := getF X0 hx hZ hown (host := "") (Or.inl (hw _ (List.mem_of_getElem? (i := 46) rfl))) Via.refl e0 Ff_value_1 (g := (mkF m 1 #[.val (.ref a0)] [(.ref a0)])) rfl rfl (hb hby d7_1)
  obtain ⟨co2, Ao2, qo2, So2, No2, Ho2, Go2⟩ := id Arv_0
  have pre3 : ∀ t, Steps p.tables e below (T1.setTop (mkF m 5 #[.val (.ref a0)] [(.int z)])) t → Steps p.tables e below (s₁.setTop (entryFrame m #[(.ref a0)] 1)) t := fun t kt => pre0 t (by
      show Steps p.tables e below (s₁.setTop (mkF m 0 #[.val (.ref a0)] [])) _
      refine XS.aloadN X0.here hx rfl (hb hby d7_0) rfl rfl ?_
      show Steps p.tables e below (s₁.setTop (mkF m 1 #[.val (.ref a0)] [(.ref a0)])) _
      refine st1 _ ?_
      show Steps p.tables e below (T1.setTop (mkF m 4 #[.val (.ref a0)] [(.ref vb)])) _
      refine X1.arraylength hx (by rw [e1]; exact Ao2.1) (State.isArrayOf_alike hZ.alike Ao2.2.1) (g := (mkF m 4 #[.val (.ref a0)] [(.ref vb)])) rfl rfl (hb hby d7_4) _ ?_
      rw [len_of So2 No2]
      exact kt)
  by_cases hc4 : z = (0 : Int32)
  · skip
    have pre5 : ∀ t, Steps p.tables e below (T1.setTop (mkF m 13 #[.val (.ref a0)] [(.int (1 : Int32))])) t → Steps p.tables e below (s₁.setTop (entryFrame m #[(.ref a0)] 1)) t := fun t kt => pre3 t (by
        show Steps p.tables e below (T1.setTop (mkF m 5 #[.val (.ref a0)] [(.int z)])) _
        refine XS.ifNo X1.here hx rfl (hb hby d7_5) rfl ((if0 _ _).trans (teq hc4).2) ?_
        show Steps p.tables e below (T1.setTop (mkF m 8 #[.val (.ref a0)] [])) _
        refine XS.iconst X1.here hx rfl (hb hby d7_8) ?_
        show Steps p.tables e below (T1.setTop (mkF m 9 #[.val (.ref a0)] [(.int (1 : Int32))])) _
        refine XS.goto X1.here hx rfl (pc0 := 9) (pc' := 13) rfl (hb hby d7_9) (by decide) (by decide) ?_
        exact kt)
    obtain ⟨fs, hr, hrun, hended, hW, hsame⟩ := X1.leave (v := some (.int (1 : Int32))) (fun h => by rw [Bd.returns] at h; cases h)
    refine ⟨_, _, pre5 _ ?_, hrun, hended, _, _, rfl, ?_, ⟨_, rfl⟩, hW, hsame.mono (by decide) (by decide)⟩
    · show Steps p.tables e below (T1.setTop (mkF m 13 #[.val (.ref a0)] [(.int (1 : Int32))])) _
      exact retN X1 hx (t := .boolean) Bd.returns (by simp) (hb hby d7_13) hr
    · show Q7 Z _ _ _ _ _ h0 n0 _ T1.heap _
      rw [e1]
      exact ⟨⟨_, rfl, by simp [hc4]⟩, N0, rfl⟩
  · skip
    have pre6 : ∀ t, Steps p.tables e below (T1.setTop (mkF m 13 #[.val (.ref a0)] [(.int (0 : Int32))])) t → Steps p.tables e below (s₁.setTop (entryFrame m #[(.ref a0)] 1)) t := fun t kt => pre3 t (by
        show Steps p.tables e below (T1.setTop (mkF m 5 #[.val (.ref a0)] [(.int z)])) _
        refine XS.ifYes X1.here hx rfl (pc0 := 5) (pc' := 12) rfl (hb hby d7_5) rfl ((if0 _ _).trans (feq hc4).2) (by decide) (by decide) ?_
        show Steps p.tables e below (T1.setTop (mkF m 12 #[.val (.ref a0)] [])) _
        refine XS.iconst X1.here hx rfl (hb hby d7_12) ?_
        exact kt)
    obtain ⟨fs, hr, hrun, hended, hW, hsame⟩ := X1.leave (v := some (.int (0 : Int32))) (fun h => by rw [Bd.returns] at h; cases h)
    refine ⟨_, _, pre6 _ ?_, hrun, hended, _, _, rfl, ?_, ⟨_, rfl⟩, hW, hsame.mono (by decide) (by decide)⟩
    · show Steps p.tables e below (T1.setTop (mkF m 13 #[.val (.ref a0)] [(.int (0 : Int32))])) _
      exact retN X1 hx (t := .boolean) Bd.returns (by simp) (hb hby d7_13) hr
    · show Q7 Z _ _ _ _ _ h0 n0 _ T1.heap _
      rw [e1]
      exact ⟨⟨_, rfl, by simp [hc4]⟩, N0, rfl⟩
theorem pd_8 : parseMethodDescriptor "()Z" = some ⟨[], some .boolean⟩ := by decide +kernel
theorem d6_0 : decode prog_58_method_4_code 0 = .ok (.aload_n 0, 1) := by decide +kernel
theorem d6_1 : decode prog_58_method_4_code 1 = .ok (.getfield 7, 3) := by decide +kernel
theorem d6_4 : decode prog_58_method_4_code 4 = .ok (.ifCond .lt 17, 3) := by decide +kernel
theorem d6_7 : decode prog_58_method_4_code 7 = .ok (.aload_n 0, 1) := by decide +kernel
theorem d6_8 : decode prog_58_method_4_code 8 = .ok (.getfield 17, 3) := by decide +kernel
theorem d6_11 : decode prog_58_method_4_code 11 = .ok (.invokevirtual 48, 3) := by decide +kernel
theorem d6_14 : decode prog_58_method_4_code 14 = .ok (.ifCond .eq 7, 3) := by decide +kernel
theorem d6_17 : decode prog_58_method_4_code 17 = .ok (.iconst 1, 1) := by decide +kernel
theorem d6_18 : decode prog_58_method_4_code 18 = .ok (.goto 4, 3) := by decide +kernel
theorem d6_21 : decode prog_58_method_4_code 21 = .ok (.iconst 0, 1) := by decide +kernel
theorem d6_22 : decode prog_58_method_4_code 22 = .ok (.ireturn, 1) := by decide +kernel
theorem ef_6 (m : MethodId) (x0 : Addr)  : entryFrame m #[(.ref x0)] 1 = mkF m 0 #[.val (.ref x0)] [] := by first | (simp [entryFrame, mkF, argsToLocals, Value.category]; done) | rfl
def Q6 (Z : State) (a0 : Addr) (sg : Int32) (fr : Addr) (vb : Addr) (kb : ClassId) (z : Int32) (vs : List Value) (h0 : Heap) (n0 : Nat) (v : Option Value) (h : Heap) (L : List Loc) : Prop := (∃ (r : Int32), v = some (.int r) ∧ ((sg < (0 : Int32) → (0 : Int32) = r) ∧ (¬ sg < (0 : Int32) → z = (0 : Int32) → (1 : Int32) = r) ∧ (¬ sg < (0 : Int32) → ¬ z = (0 : Int32) → (0 : Int32) = r))) ∧ Fr n0 L ∧ h = h0
set_option maxRecDepth 65536 in
set_option maxHeartbeats 40000000 in
theorem rm6 (l : Launch) (Z : State) (aw : Array Value) (hw : ∀ d ∈ tables_1, d.before aw Z = true) (ws : List Jvm.Cond) (a0 : Addr) (sg : Int32) (fr : Addr) (vb : Addr) (kb : ClassId) (z : Int32) (vs : List Value) (h0 : Heap) (n0 : Nat) (Z0 : n0 ≤ h0.size) (Exa_0 : Exa Z h0 fr "java/lang/String") (Fld_1 : Fld Z h0 fr "java/lang/String" "value" "[B" (.ref vb)) (Arv_2 : Arv Z h0 vb kb .byte z vs (.int (0 : Int32))) (Ff_sign_3 : Fld Z h0 a0 "cartouche/mapping/Decimal" "sign" "I" (.int sg)) (Ff_fraction_4 : Fld Z h0 a0 "cartouche/mapping/Decimal" "fraction" "Ljava/lang/String;" (.ref fr)) :
    MetFree l (⟨"cartouche/mapping/Decimal", "isCount", "()Z"⟩ : MethodName) (head1 (Jvm.Cond.code (⟨"cartouche/mapping/Decimal", "isCount", "()Z"⟩ : MethodName) prog_58_method_4_code 1 (some .boolean) :: ws) ({ frames := 1, cells := 0, slots := 0, locals := 12 } : Room)) (fun a U => a = #[(.ref a0)] ∧ Z.Warmed39 U.vm ∧ U.heap = h0) (fun _ _ _ _ _ => True) (fun _ U o U' => ∃ v L, o = .returned v ∧ Q6 Z a0 sg fr vb kb z vs h0 n0 v U'.heap L ∧ FrameEnd U o U' L ({ frames := 1, cells := 0, slots := 0, locals := 12 } : Room).cells ({ frames := 1, cells := 0, slots := 0, locals := 12 } : Room).slots) := by
  refine MetFree.of_bodySF (plainFor_of_name pn_4) hisR ?_
  intro p e s m args below meth c s₁ Bd hml0 hP hK
  obtain ⟨rfl, hZ, hh⟩ := hP
  have hx := Bd.exec
  have hby := Bd.bytes
  have hml : c.maxLocals = 1 := hml0
  have hown : s.vm.findClass "cartouche/mapping/Decimal" = some m.cls := findClass_of_methodNamed Bd.named
  have hnm := (name_of_methodNamed Bd.named Bd.method).1
  have X0 : Stand p l e ({ frames := 1, cells := 0, slots := 0, locals := 12 } : Room) s m #[(.ref a0)] below meth c s₁ [] 0 0 := Stand.of_body Bd
  have e0 : s₁.heap = h0 := by rw [← hh, Bd.state]; rfl
  have N0 := Fr.nil n0
  have pre0 : ∀ t, Steps p.tables e below (s₁.setTop (mkF m 0 #[.val (.ref a0)] [])) t → Steps p.tables e below (s₁.setTop (entryFrame m #[(.ref a0)] 1)) t := fun t k => castTop (ef_6 m a0 ) k
  obtain ⟨T1, X1, e1, st1⟩ := getF X0 hx hZ hown (host := "") (Or.inl (hw _ (List.mem_of_getElem? (i := 30) rfl))) Via.refl e0 Ff_sign_3 (g := (mkF m 1 #[.val (.ref a0)] [(.ref a0)])) rfl rfl (hb hby d6_1)
  have pre2 : ∀ t, Steps p.tables e below (T1.setTop (mkF m 4 #[.val (.ref a0)] [(.int sg)])) t → Steps p.tables e below (s₁.setTop (entryFrame m #[(.ref a0)] 1)) t := fun t kt => pre0 t (by
      show Steps p.tables e below (s₁.setTop (mkF m 0 #[.val (.ref a0)] [])) _
      refine XS.aloadN X0.here hx rfl (hb hby d6_0) rfl rfl ?_
      show Steps p.tables e below (s₁.setTop (mkF m 1 #[.val (.ref a0)] [(.ref a0)])) _
      refine st1 _ ?_
      exact kt)
  by_cases hc3 : sg < (0 : Int32)
  · skip
    have pre4 : ∀ t, Steps p.tables e below (T1.setTop (mkF m 22 #[.val (.ref a0)] [(.int (0 : Int32))])) t → Steps p.tables e below (s₁.setTop (entryFrame m #[(.ref a0)] 1)) t := fun t kt => pre2 t (by
        show Steps p.tables e below (T1.setTop (mkF m 4 #[.val (.ref a0)] [(.int sg)])) _
        refine XS.ifYes X1.here hx rfl (pc0 := 4) (pc' := 21) rfl (hb hby d6_4) rfl ((if0 _ _).trans (tlt hc3).1) (by decide) (by decide) ?_
        show Steps p.tables e below (T1.setTop (mkF m 21 #[.val (.ref a0)] [])) _
        refine XS.iconst X1.here hx rfl (hb hby d6_21) ?_
        exact kt)
    obtain ⟨fs, hr, hrun, hended, hW, hsame⟩ := X1.leave (v := some (.int (0 : Int32))) (fun h => by rw [Bd.returns] at h; cases h)
    refine ⟨_, _, pre4 _ ?_, hrun, hended, _, _, rfl, ?_, ⟨_, rfl⟩, hW, hsame.mono (by decide) (by decide)⟩
    · show Steps p.tables e below (T1.setTop (mkF m 22 #[.val (.ref a0)] [(.int (0 : Int32))])) _
      exact retN X1 hx (t := .boolean) Bd.returns (by simp) (hb hby d6_22) hr
    · show Q6 Z _ _ _ _ _ _ _ h0 n0 _ T1.heap _
      rw [e1]
      exact ⟨⟨_, rfl, by simp [hc3]⟩, N0, rfl⟩
  · skip
    obtain ⟨T5, X5, e5, st5⟩ := getF X1 hx hZ hown (host := "") (Or.inl (hw _ (List.mem_of_getElem? (i := 34) rfl))) Via.refl e1 Ff_fraction_4 (g := (mkF m 8 #[.val (.ref a0)] [(.ref a0)])) rfl rfl (hb hby d6_8)
    obtain ⟨cq6, kq6, q6a, q6b, q6c⟩ := isOf hZ e5 Exa_0
    obtain ⟨_, _, ⟨T6, L6, k6, n6⟩, -, X6, ⟨Lc6, hQ6, l6, y6, z6⟩, st6⟩ := X5.virtualBack hx (y := (⟨"java/lang/String", "isEmpty", "()Z"⟩ : MethodName)) (z := (⟨"java/lang/String", "isEmpty", "()Z"⟩ : MethodName)) hown (mvT hZ (hw _ (List.mem_of_getElem? (i := 41) rfl))) (mvT hZ (hw _ (List.mem_of_getElem? (i := 42) rfl))) (notFace_of_selects (args := #[]) (mvT hZ (hw _ (List.mem_of_getElem? (i := 44) rfl)))) (mvT hZ (hw _ (List.mem_of_getElem? (i := 44) rfl))) (mvT hZ (hw _ (List.mem_of_getElem? (i := 43) rfl))) (by decide) (backOf (W := 0) (rm7 l Z aw hw [] fr vb kb z vs h0 n0 Z0 Arv_2 Fld_1) hZ (hw _ (List.mem_of_getElem? (i := 45) rfl)) (hw _ (List.mem_of_getElem? (i := 9) rfl)) (by decide) (by decide)) q6a q6c (g := (mkF m 11 #[.val (.ref a0)] [(.ref fr)])) rfl (by rw [hml]; rfl) (Steps.refl _) (argsL := []) (rest := []) (lenOf pd_8 rfl) rfl (by show 2 * 0 + _ ≤ _; exact Nat.le_of_eq rfl) (hb hby d6_11) (fun _ _ => ⟨rfl, e5, (by decide : 0 + 0 ≤ _), (by decide : 0 + 0 ≤ _)⟩)
    dsimp only [Pt.U, Pt.locs, Pt.cells, Pt.slots] at X6 l6 y6 z6 st6 hQ6
    subst l6 y6 z6
    obtain ⟨⟨r7, rfl, Pr7⟩, Nq6, e6⟩ := hQ6
    have N6 := Fr.app N0 Nq6
    have pre8 : ∀ t, Steps p.tables e below (T6.setTop (mkF m 14 #[.val (.ref a0)] [(.int r7)])) t → Steps p.tables e below (s₁.setTop (entryFrame m #[(.ref a0)] 1)) t := fun t kt => pre2 t (by
        show Steps p.tables e below (T1.setTop (mkF m 4 #[.val (.ref a0)] [(.int sg)])) _
        refine XS.ifNo X1.here hx rfl (hb hby d6_4) rfl ((if0 _ _).trans (flt hc3).1) ?_
        show Steps p.tables e below (T1.setTop (mkF m 7 #[.val (.ref a0)] [])) _
        refine XS.aloadN X1.here hx rfl (hb hby d6_7) rfl rfl ?_
        show Steps p.tables e below (T1.setTop (mkF m 8 #[.val (.ref a0)] [(.ref a0)])) _
        refine st5 _ ?_
        show Steps p.tables e below (T5.setTop (mkF m 11 #[.val (.ref a0)] [(.ref fr)])) _
        refine st6.trans ?_
        exact kt)
    by_cases hz9 : z = (0 : Int32)
    · skip
      obtain rfl : (1 : Int32) = r7 := Pr7.1 hz9
      have pre10 : ∀ t, Steps p.tables e below (T6.setTop (mkF m 22 #[.val (.ref a0)] [(.int (1 : Int32))])) t → Steps p.tables e below (s₁.setTop (entryFrame m #[(.ref a0)] 1)) t := fun t kt => pre8 t (by
          show Steps p.tables e below (T6.setTop (mkF m 14 #[.val (.ref a0)] [(.int (1 : Int32))])) _
          refine XS.ifNo X6.here hx rfl (hb hby d6_14) rfl ((if0 _ _).trans (feq (by decide : ¬ ((1 : Int32) = (0 : Int32)))).1) ?_
          show Steps p.tables e below (T6.setTop (mkF m 17 #[.val (.ref a0)] [])) _
          refine XS.iconst X6.here hx rfl (hb hby d6_17) ?_
          show Steps p.tables e below (T6.setTop (mkF m 18 #[.val (.ref a0)] [(.int (1 : Int32))])) _
          refine XS.goto X6.here hx rfl (pc0 := 18) (pc' := 22) rfl (hb hby d6_18) (by decide) (by decide) ?_
          exact kt)
      obtain ⟨fs, hr, hrun, hended, hW, hsame⟩ := X6.leave (v := some (.int (1 : Int32))) (fun h => by rw [Bd.returns] at h; cases h)
      refine ⟨_, _, pre10 _ ?_, hrun, hended, _, _, rfl, ?_, ⟨_, rfl⟩, hW, hsame.mono (by decide) (by decide)⟩
      · show Steps p.tables e below (T6.setTop (mkF m 22 #[.val (.ref a0)] [(.int (1 : Int32))])) _
        exact retN X6 hx (t := .boolean) Bd.returns (by simp) (hb hby d6_22) hr
      · show Q6 Z _ _ _ _ _ _ _ h0 n0 _ T6.heap _
        rw [e6]
        exact ⟨⟨_, rfl, by simp [hc3, hz9]⟩, N6, rfl⟩
    · skip
      obtain rfl : (0 : Int32) = r7 := Pr7.2 hz9
      have pre11 : ∀ t, Steps p.tables e below (T6.setTop (mkF m 22 #[.val (.ref a0)] [(.int (0 : Int32))])) t → Steps p.tables e below (s₁.setTop (entryFrame m #[(.ref a0)] 1)) t := fun t kt => pre8 t (by
          show Steps p.tables e below (T6.setTop (mkF m 14 #[.val (.ref a0)] [(.int (0 : Int32))])) _
          refine XS.ifYes X6.here hx rfl (pc0 := 14) (pc' := 21) rfl (hb hby d6_14) rfl ((if0 _ _).trans (teq (rfl : (0 : Int32) = (0 : Int32))).1) (by decide) (by decide) ?_
          show Steps p.tables e below (T6.setTop (mkF m 21 #[.val (.ref a0)] [])) _
          refine XS.iconst X6.here hx rfl (hb hby d6_21) ?_
          exact kt)
      obtain ⟨fs, hr, hrun, hended, hW, hsame⟩ := X6.leave (v := some (.int (0 : Int32))) (fun h => by rw [Bd.returns] at h; cases h)
      refine ⟨_, _, pre11 _ ?_, hrun, hended, _, _, rfl, ?_, ⟨_, rfl⟩, hW, hsame.mono (by decide) (by decide)⟩
      · show Steps p.tables e below (T6.setTop (mkF m 22 #[.val (.ref a0)] [(.int (0 : Int32))])) _
        exact retN X6 hx (t := .boolean) Bd.returns (by simp) (hb hby d6_22) hr
      · show Q6 Z _ _ _ _ _ _ _ h0 n0 _ T6.heap _
        rw [e6]
        exact ⟨⟨_, rfl, by simp [hc3, hz9]⟩, N6, rfl⟩
theorem pd_9 : parseMethodDescriptor "(C)Ljava/lang/String;" = some ⟨[.char], some (.object "java/lang/String")⟩ := by decide +kernel
theorem pd_10 : parseMethodDescriptor "([C)V" = some ⟨[(.array .char)], none⟩ := by decide +kernel
theorem pn_5 : plainName "cartouche/mapping/DecimalIsCountPinLaw" = true := by first | (simp [plainName, overriddenIn]; done) | decide +kernel
theorem d1_0 : decode method_2_code 0 = .ok (.iload_n 0, 1) := by decide +kernel
theorem d1_1 : decode method_2_code 1 = .ok (.ifCond .ne 6, 3) := by decide +kernel
theorem d1_4 : decode method_2_code 4 = .ok (.ldc 7, 2) := by decide +kernel
theorem d1_6 : decode method_2_code 6 = .ok (.areturn, 1) := by decide +kernel
theorem d1_7 : decode method_2_code 7 = .ok (.iload_n 0, 1) := by decide +kernel
theorem d1_8 : decode method_2_code 8 = .ok (.bipush 10, 2) := by decide +kernel
theorem d1_10 : decode method_2_code 10 = .ok (.if_icmp .ge 12, 3) := by decide +kernel
theorem d1_13 : decode method_2_code 13 = .ok (.bipush 48, 2) := by decide +kernel
theorem d1_15 : decode method_2_code 15 = .ok (.iload_n 0, 1) := by decide +kernel
theorem d1_16 : decode method_2_code 16 = .ok (.iadd, 1) := by decide +kernel
theorem d1_17 : decode method_2_code 17 = .ok (.i2c, 1) := by decide +kernel
theorem d1_18 : decode method_2_code 18 = .ok (.invokestatic 9, 3) := by decide +kernel
theorem d1_21 : decode method_2_code 21 = .ok (.areturn, 1) := by decide +kernel
theorem d1_22 : decode method_2_code 22 = .ok (.new 10, 3) := by decide +kernel
theorem d1_25 : decode method_2_code 25 = .ok (.dup, 1) := by decide +kernel
theorem d1_26 : decode method_2_code 26 = .ok (.iconst 2, 1) := by decide +kernel
theorem d1_27 : decode method_2_code 27 = .ok (.newarray .char, 2) := by decide +kernel
theorem d1_29 : decode method_2_code 29 = .ok (.dup, 1) := by decide +kernel
theorem d1_30 : decode method_2_code 30 = .ok (.iconst 0, 1) := by decide +kernel
theorem d1_31 : decode method_2_code 31 = .ok (.bipush 48, 2) := by decide +kernel
theorem d1_33 : decode method_2_code 33 = .ok (.iload_n 0, 1) := by decide +kernel
theorem d1_34 : decode method_2_code 34 = .ok (.bipush 10, 2) := by decide +kernel
theorem d1_36 : decode method_2_code 36 = .ok (.idiv, 1) := by decide +kernel
theorem d1_37 : decode method_2_code 37 = .ok (.iadd, 1) := by decide +kernel
theorem d1_38 : decode method_2_code 38 = .ok (.i2c, 1) := by decide +kernel
theorem d1_39 : decode method_2_code 39 = .ok (.castore, 1) := by decide +kernel
theorem d1_40 : decode method_2_code 40 = .ok (.dup, 1) := by decide +kernel
theorem d1_41 : decode method_2_code 41 = .ok (.iconst 1, 1) := by decide +kernel
theorem d1_42 : decode method_2_code 42 = .ok (.bipush 48, 2) := by decide +kernel
theorem d1_44 : decode method_2_code 44 = .ok (.iload_n 0, 1) := by decide +kernel
theorem d1_45 : decode method_2_code 45 = .ok (.bipush 10, 2) := by decide +kernel
theorem d1_47 : decode method_2_code 47 = .ok (.irem, 1) := by decide +kernel
theorem d1_48 : decode method_2_code 48 = .ok (.iadd, 1) := by decide +kernel
theorem d1_49 : decode method_2_code 49 = .ok (.i2c, 1) := by decide +kernel
theorem d1_50 : decode method_2_code 50 = .ok (.castore, 1) := by decide +kernel
theorem d1_51 : decode method_2_code 51 = .ok (.invokespecial 15, 3) := by decide +kernel
theorem d1_54 : decode method_2_code 54 = .ok (.areturn, 1) := by decide +kernel
theorem ef_1 (m : MethodId) (x0 : Int32)  : entryFrame m #[(.int x0)] 1 = mkF m 0 #[.val (.int x0)] [] := by first | (simp [entryFrame, mkF, argsToLocals, Value.category]; done) | rfl
def Q1 (Z : State) (p0 : Int32) (w_COMPACT_STRINGS_0 : Int32) (h0 : Heap) (n0 : Nat) (v : Option Value) (h : Heap) (L : List Loc) : Prop := (∃ (r : Addr), v = some (.ref r) ∧ (True)) ∧ Fr n0 L ∧ (Keep h0 h [])
set_option maxRecDepth 65536 in
set_option maxHeartbeats 40000000 in
theorem rm1 (l : Launch) (Z : State) (aw : Array Value) (hw : ∀ d ∈ tables_1, d.before aw Z = true) (ws : List Jvm.Cond) (p0 : Int32) (w_COMPACT_STRINGS_0 : Int32) (h0 : Heap) (n0 : Nat) (Z0 : n0 ≤ h0.size) (hr0 : 0 ≤ p0.toInt ∧ p0.toInt < 100) (Sf_COMPACT_STRINGS_1 : Sta Z h0 "java/lang/String" "COMPACT_STRINGS" "Z" (.int w_COMPACT_STRINGS_0)) (hp8 : ¬ w_COMPACT_STRINGS_0 = (0 : Int32)) :
    MetFree l (⟨"cartouche/mapping/DecimalIsCountPinLaw", "wholeDigits", "(I)Ljava/lang/String;"⟩ : MethodName) (head1 (Jvm.Cond.code (⟨"cartouche/mapping/DecimalIsCountPinLaw", "wholeDigits", "(I)Ljava/lang/String;"⟩ : MethodName) method_2_code 1 (some (.object "java/lang/String")) :: ws) ({ frames := 4, cells := 3, slots := 8, locals := 66 } : Room)) (fun a U => a = #[(.int p0)] ∧ Z.Warmed39 U.vm ∧ U.heap = h0 ∧ CHv Z consts_1 U.vm h0) (fun _ _ _ _ _ => True) (fun _ U o U' => ∃ v L, o = .returned v ∧ Q1 Z p0 w_COMPACT_STRINGS_0 h0 n0 v U'.heap L ∧ CHr Z consts_1 U.vm U.heap U'.vm U'.heap ∧ ReturnedEndW U o U' L ({ frames := 4, cells := 3, slots := 8, locals := 66 } : Room).cells ({ frames := 4, cells := 3, slots := 8, locals := 66 } : Room).slots) := by
  refine MetFree.of_bodySF (plainFor_of_name pn_5) hisR ?_
  intro p e s m args below meth c s₁ Bd hml0 hP hK
  obtain ⟨rfl, hZ, hh, H0⟩ := hP
  have hx := Bd.exec
  have hby := Bd.bytes
  have hml : c.maxLocals = 1 := hml0
  have hown : s.vm.findClass "cartouche/mapping/DecimalIsCountPinLaw" = some m.cls := findClass_of_methodNamed Bd.named
  have hnm := (name_of_methodNamed Bd.named Bd.method).1
  have X0 : Stand p l e ({ frames := 4, cells := 3, slots := 8, locals := 66 } : Room) (s.setVm s.vm) m #[(.int p0)] below meth c s₁ [] 0 0 := Stand.of_body Bd
  have e0 : s₁.heap = h0 := by rw [← hh, Bd.state]; rfl
  have N0 := Fr.nil n0
  have hEL := own_EW hw
  have wS := own_wS hw
  have hS0 : s.Since s.vm 0 := (State.WarmedH.refl s).since 0
  have pre0 : ∀ t, Steps p.tables e below (s₁.setTop (mkF m 0 #[.val (.int p0)] [])) t → Steps p.tables e below (s₁.setTop (entryFrame m #[(.int p0)] 1)) t := fun t k => castTop (ef_1 m p0 ) k
  have pre1 : ∀ t, Steps p.tables e below (s₁.setTop (mkF m 1 #[.val (.int p0)] [(.int p0)])) t → Steps p.tables e below (s₁.setTop (entryFrame m #[(.int p0)] 1)) t := fun t kt => pre0 t (by
      show Steps p.tables e below (s₁.setTop (mkF m 0 #[.val (.int p0)] [])) _
      refine XS.iloadN X0.here hx rfl (hb hby d1_0) rfl ?_
      exact kt)
  by_cases hc2 : p0 = (0 : Int32)
  · skip
    obtain ⟨lt3, T3, h3, kk3, X3, e3, E3, hS3, hk3, hZ3, hown3, hCq3, hL3, st3⟩ := ldcOH X0 hx hZ hown (hw _ (List.mem_of_getElem? (i := 8) rfl)) wS e0 hS0 (Nat.zero_le _) hEL H0 (g := (mkF m 4 #[.val (.int p0)] [])) rfl (hb hby d1_4) (n := 0) (by decide) (by decide) (by decide) (by decide)
    have CR3 := CHr.trans (CHr.refl H0) hCq3
    have K3 : Keep h0 h3 [] := Keep.ext (Keep.refl h0 []) E3
    have pre4 : ∀ t, Steps p.tables e below (T3.setTop (mkF m 6 #[.val (.int p0)] [(.ref lt3)])) t → Steps p.tables e below (s₁.setTop (entryFrame m #[(.int p0)] 1)) t := fun t kt => pre1 t (by
        show Steps p.tables e below (s₁.setTop (mkF m 1 #[.val (.int p0)] [(.int p0)])) _
        refine XS.ifNo X0.here hx rfl (hb hby d1_1) rfl ((if0 _ _).trans (teq hc2).2) ?_
        show Steps p.tables e below (s₁.setTop (mkF m 4 #[.val (.int p0)] [])) _
        refine st3 _ ?_
        exact kt)
    obtain ⟨fs, hr, hrun, hended, hRE⟩ := X3.leaveW hS3 (by rw [e3]; exact hk3) (v := some (.ref lt3)) (fun h => by rw [Bd.returns] at h; cases h)
    have hCR : CHr Z consts_1 s.vm s.heap T3.vm T3.heap := by rw [e3, hh]; exact CHr.trans CR3 (CHv.at X3 hZ3 hEL hCq3.1)
    refine ⟨_, _, pre4 _ ?_, hrun, hended, _, _, rfl, ?_, hCR, own_mono hRE (by decide) (by decide)⟩
    · show Steps p.tables e below (T3.setTop (mkF m 6 #[.val (.int p0)] [(.ref lt3)])) _
      jvm_step X3.here [X3.here.top, hx, (hb hby d1_6), X3.method', Bd.returns, Value.isRef, FieldType.isReference]
      first | (intro acts; rw [hr _ acts rfl rfl rfl]) | rw [hr _ _ rfl rfl rfl]
      exact Steps.refl _
    · show Q1 Z _ _ h0 n0 _ T3.heap _
      rw [e3]
      exact ⟨⟨_, rfl, trivial⟩, N0, K3⟩
  · skip
    have pre5 : ∀ t, Steps p.tables e below (s₁.setTop (mkF m 10 #[.val (.int p0)] [(.int (10 : Int32)), (.int p0)])) t → Steps p.tables e below (s₁.setTop (entryFrame m #[(.int p0)] 1)) t := fun t kt => pre1 t (by
        show Steps p.tables e below (s₁.setTop (mkF m 1 #[.val (.int p0)] [(.int p0)])) _
        refine XS.ifYes X0.here hx rfl (pc0 := 1) (pc' := 7) rfl (hb hby d1_1) rfl ((if0 _ _).trans (feq hc2).2) (by decide) (by decide) ?_
        show Steps p.tables e below (s₁.setTop (mkF m 7 #[.val (.int p0)] [])) _
        refine XS.iloadN X0.here hx rfl (hb hby d1_7) rfl ?_
        show Steps p.tables e below (s₁.setTop (mkF m 8 #[.val (.int p0)] [(.int p0)])) _
        refine XS.bipush X0.here hx rfl (hb hby d1_8) ?_
        exact kt)
    by_cases hc6 : p0 < (10 : Int32)
    · skip
      obtain ⟨_, _, ⟨T7, L7, k7, n7⟩, -, X7, ⟨Lc7, hQ7, l7, y7, z7⟩, st7⟩ := Jvm.LawKit.callS X0 hx (y := (⟨"java/lang/String", "valueOf", "(C)Ljava/lang/String;"⟩ : MethodName)) hown (mvT hZ (hw _ (List.mem_of_getElem? (i := 69) rfl))) (mvT hZ (hw _ (List.mem_of_getElem? (i := 70) rfl))) (mvT hZ (hw _ (List.mem_of_getElem? (i := 9) rfl))) (mvT hZ (hw _ (List.mem_of_getElem? (i := 71) rfl))) (by decide) (backOf (W := 0) (rm13 l Z aw hw [] (((48 : Int32) + p0).toUInt32.toUInt16.toUInt32.toInt32) w_COMPACT_STRINGS_0 h0 n0 Z0 (own_chr hr0) Sf_COMPACT_STRINGS_1 hp8) hZ (hw _ (List.mem_of_getElem? (i := 71) rfl)) (hw _ (List.mem_of_getElem? (i := 9) rfl)) (by decide) (by decide)) (g := (mkF m 18 #[.val (.int p0)] [(.int (((48 : Int32) + p0).toUInt32.toUInt16.toUInt32.toInt32))])) rfl (by rw [hml]; rfl) (argsL := [(.int (((48 : Int32) + p0).toUInt32.toUInt16.toUInt32.toInt32))]) (rest := []) (lenOf pd_9 rfl) rfl (by show 2 * 0 + _ ≤ _; exact Nat.le_of_eq rfl) (hb hby d1_18) (fun _ _ => ⟨rfl, e0, (by decide : 0 + 2 ≤ _), (by decide : 0 + 5 ≤ _)⟩)
      dsimp only [Pt.U, Pt.locs, Pt.cells, Pt.slots] at X7 l7 y7 z7 st7 hQ7
      subst l7 y7 z7
      obtain ⟨⟨r9, vb10, kb11, rfl, m7_0, m7_1, m7_2, m7_3, m7_4⟩, Nq7, c7_0⟩ := hQ7
      have N7 := Fr.app N0 Nq7
      have hs12 : ∀ x ∈ [], Safe Z consts_1 s.vm h0 x := all0
      have CR7 := CHr.trans (CHr.refl H0) (CHr.keep c7_0 hs12 H0)
      have CH7 := CHv.keep c7_0 hs12 H0
      have f13 := (own_sta_keep Sf_COMPACT_STRINGS_1 c7_0 all0)
      have K14 : Keep h0 T7.heap [] := Keep.trans (Keep.refl h0 []) c7_0 all0
      have pre15 : ∀ t, Steps p.tables e below (T7.setTop (mkF m 21 #[.val (.int p0)] [(.ref r9)])) t → Steps p.tables e below (s₁.setTop (entryFrame m #[(.int p0)] 1)) t := fun t kt => pre5 t (by
          show Steps p.tables e below (s₁.setTop (mkF m 10 #[.val (.int p0)] [(.int (10 : Int32)), (.int p0)])) _
          refine XS.icmpNo X0.here hx rfl (hb hby d1_10) rfl (tlt hc6).2.1 ?_
          show Steps p.tables e below (s₁.setTop (mkF m 13 #[.val (.int p0)] [])) _
          refine XS.bipush X0.here hx rfl (hb hby d1_13) ?_
          show Steps p.tables e below (s₁.setTop (mkF m 15 #[.val (.int p0)] [(.int (48 : Int32))])) _
          refine XS.iloadN X0.here hx rfl (hb hby d1_15) rfl ?_
          show Steps p.tables e below (s₁.setTop (mkF m 16 #[.val (.int p0)] [(.int p0), (.int (48 : Int32))])) _
          refine XS.iadd X0.here hx rfl (hb hby d1_16) rfl ?_
          show Steps p.tables e below (s₁.setTop (mkF m 17 #[.val (.int p0)] [(.int ((48 : Int32) + p0))])) _
          refine XS.i2c X0.here hx rfl (hb hby d1_17) rfl ?_
          show Steps p.tables e below (s₁.setTop (mkF m 18 #[.val (.int p0)] [(.int (((48 : Int32) + p0).toUInt32.toUInt16.toUInt32.toInt32))])) _
          refine st7 _ ?_
          exact kt)
      obtain ⟨fs, hr, hrun, hended, hRE⟩ := X7.leaveW hS0 (Nat.le_trans (Nat.zero_le _) c7_0.1) (v := some (.ref r9)) (fun h => by rw [Bd.returns] at h; cases h)
      have hCR : CHr Z consts_1 s.vm s.heap T7.vm T7.heap := by rw [hh]; exact CHr.trans CR7 (CHv.at X7 hZ hEL CH7)
      refine ⟨_, _, pre15 _ ?_, hrun, hended, _, _, rfl, ?_, hCR, own_mono hRE (by decide) (by decide)⟩
      · show Steps p.tables e below (T7.setTop (mkF m 21 #[.val (.int p0)] [(.ref r9)])) _
        jvm_step X7.here [X7.here.top, hx, (hb hby d1_21), X7.method', Bd.returns, Value.isRef, FieldType.isReference]
        first | (intro acts; rw [hr _ acts rfl rfl rfl]) | rw [hr _ _ rfl rfl rfl]
        exact Steps.refl _
      · show Q1 Z _ _ h0 n0 _ T7.heap _
        exact ⟨⟨_, rfl, trivial⟩, N7, K14⟩
    · skip
      obtain ⟨T16, h16, X16, e16, E16, A16, D16, -, st16⟩ := newO X0 hx hZ hown (hw _ (List.mem_of_getElem? (i := 47) rfl)) (hw _ (List.mem_of_getElem? (i := 10) rfl)) (hw _ (List.mem_of_getElem? (i := 9) rfl)) e0 (g := (mkF m 22 #[.val (.int p0)] [])) rfl (hb hby d1_22) (by decide) (by decide)
      obtain ⟨b16, g16⟩ : ∃ z, z = h0.size := ⟨_, rfl⟩
      rw [← g16] at A16 D16 st16
      have Sn16 : Safe Z consts_1 s.vm h0 b16 := Safe.new (Nat.le_of_eq g16.symm)
      have CR16 := CHr.trans (CHr.refl H0) (CHr.ext E16 H0)
      have CH16 := CHv.ext E16 H0
      have ge_b16 : n0 ≤ b16 := Nat.le_trans Z0 (Nat.le_of_eq g16.symm)
      have sz_b16 : h0.size ≤ b16 := Nat.le_trans (Keep.refl h0 []).1 (Nat.le_of_eq g16.symm)
      have K16 : Keep h0 h16 [] := Keep.ext (Keep.refl h0 []) E16
      have F16_value : Fld Z h16 b16 "java/lang/String" "value" "[B" .null := D16 (Or.inr (hw _ (List.mem_of_getElem? (i := 12) rfl))) (ty := (.array .byte)) (by decide)
      have F16_coder : Fld Z h16 b16 "java/lang/String" "coder" "B" (.int (0 : Int32)) := D16 (Or.inr (hw _ (List.mem_of_getElem? (i := 13) rfl))) (ty := .byte) (by decide)
      obtain ⟨T17, h17, k17, X17, e17, E17, A17, st17⟩ := newP X16 hx hZ (hw _ (List.mem_of_getElem? (i := 48) rfl)) e16 (g := (mkF m 27 #[.val (.int p0)] [(.int (2 : Int32)), (.ref b16), (.ref b16)])) rfl (hb hby d1_27) rfl (by decide) (cap := 2) (by decide) (by decide) (by decide) (by decide)
      obtain ⟨b17, g17⟩ : ∃ z, z = h16.size := ⟨_, rfl⟩
      rw [← g17] at A17 st17
      have Sn17 : Safe Z consts_1 s.vm h16 b17 := Safe.new (Nat.le_of_eq g17.symm)
      have CR17 := CHr.trans CR16 (CHr.ext E17 CH16)
      have CH17 := CHv.ext E17 CH16
      have f18 := (A16.ext E17)
      have f19 := (F16_value.ext E17)
      have f20 := (F16_coder.ext E17)
      have ne21 : b16 ≠ b17 := Nat.ne_of_lt (Nat.lt_of_lt_of_le A16.lt (Nat.le_of_eq g17.symm))
      have ge_b17 : n0 ≤ b17 := Nat.le_trans (Nat.le_trans Z0 E16.1) (Nat.le_of_eq g17.symm)
      have sz_b17 : h0.size ≤ b17 := Nat.le_trans K16.1 (Nat.le_of_eq g17.symm)
      have K17 : Keep h0 h17 [] := Keep.ext K16 E17
      have V17 : Arv Z h17 b17 k17 .char (2 : Int32) [(.int (0 : Int32)), (.int (0 : Int32))] (.int (0 : Int32)) := (Arv.new A17 (by decide)).pad (pad_rep [] (.int (0 : Int32)) 2)
      obtain ⟨co22, Ao22, qo22, So22, No22, Ho22, Go22⟩ := id V17
      have hin23 : ¬ ((0 : Int32) < 0 ∨ co22.slots.size ≤ ((0 : Int32)).toNatClampNeg) := inb_of So22 ⟨by decide, by decide⟩
      obtain ⟨T24, h24, X24, e24, W24, st24⟩ := stC X17 hx hZ e17 Ao22 (j := (0 : Int32)) hin23 (g := (mkF m 39 #[.val (.int p0)] [(.int (((48 : Int32) + (p0 / (10 : Int32))).toUInt32.toUInt16.toUInt32.toInt32)), (.int (0 : Int32)), (.ref b17), (.ref b17), (.ref b16), (.ref b16)])) rfl rfl (hb hby d1_39)
      have V24 : Arv Z h24 b17 k17 .char (2 : Int32) [(.int (nar .char (((48 : Int32) + (p0 / (10 : Int32))).toUInt32.toUInt16.toUInt32.toInt32))), (.int (0 : Int32))] (.int (0 : Int32)) := Arv.set Ao22 qo22 So22 No22 Ho22 Go22 (fits_nar_char _) W24 0 rfl (Nat.le_of_ble_eq_true rfl)
      have Sa25 : Safe Z consts_1 s.vm h17 b17 := (Safe.ext E17 CH16 Sn17)
      have f26 := (f18.wr W24)
      have f27 := (f19.other W24 (Or.inl ne21))
      have f28 := (f20.other W24 (Or.inl ne21))
      have N24 := Fr.snoc X24 N0 ge_b17
      have K24 : Keep h0 h24 [] := Keep.wr K17 W24 (Or.inr sz_b17)
      have CR24 := CHr.trans CR17 (CHr.wr W24 Sa25 CH17)
      have CH24 := CHv.wr W24 Sa25 CH17
      obtain ⟨co29, Ao29, qo29, So29, No29, Ho29, Go29⟩ := id V24
      have hin30 : ¬ ((1 : Int32) < 0 ∨ co29.slots.size ≤ ((1 : Int32)).toNatClampNeg) := inb_of So29 ⟨by decide, by decide⟩
      obtain ⟨T31, h31, X31, e31, W31, st31⟩ := stC X24 hx hZ e24 Ao29 (j := (1 : Int32)) hin30 (g := (mkF m 50 #[.val (.int p0)] [(.int (((48 : Int32) + (p0 % (10 : Int32))).toUInt32.toUInt16.toUInt32.toInt32)), (.int (1 : Int32)), (.ref b17), (.ref b17), (.ref b16), (.ref b16)])) rfl rfl (hb hby d1_50)
      have V31 : Arv Z h31 b17 k17 .char (2 : Int32) [(.int (nar .char (((48 : Int32) + (p0 / (10 : Int32))).toUInt32.toUInt16.toUInt32.toInt32))), (.int (nar .char (((48 : Int32) + (p0 % (10 : Int32))).toUInt32.toUInt16.toUInt32.toInt32)))] (.int (0 : Int32)) := Arv.set Ao29 qo29 So29 No29 Ho29 Go29 (fits_nar_char _) W31 1 rfl (Nat.le_of_ble_eq_true rfl)
      have Sa32 : Safe Z consts_1 s.vm h24 b17 := (Safe.wr W24 Sa25 CH17 (Safe.ext E17 CH16 Sn17))
      have f33 := (f26.wr W31)
      have f34 := (f27.other W31 (Or.inl ne21))
      have f35 := (f28.other W31 (Or.inl ne21))
      have N31 := Fr.snoc X31 N24 ge_b17
      have K31 : Keep h0 h31 [] := Keep.wr K24 W31 (Or.inr sz_b17)
      have CR31 := CHr.trans CR24 (CHr.wr W31 Sa32 CH24)
      have CH31 := CHv.wr W31 Sa32 CH24
      obtain ⟨_, _, ⟨T36, L36, k36, n36⟩, -, X36, ⟨Lc36, hQ36, l36, y36, z36⟩, st36⟩ := X31.specialBack hx (y := (⟨"java/lang/String", "<init>", "([C)V"⟩ : MethodName)) rfl hown (mvT hZ (hw _ (List.mem_of_getElem? (i := 49) rfl))) (mvT hZ (hw _ (List.mem_of_getElem? (i := 50) rfl))) (mvT hZ (hw _ (List.mem_of_getElem? (i := 51) rfl))) (by decide) (backOf (W := 1) (rmI1 l Z aw hw [] b16 b17 (nar .char (((48 : Int32) + (p0 / (10 : Int32))).toUInt32.toUInt16.toUInt32.toInt32)) (nar .char (((48 : Int32) + (p0 % (10 : Int32))).toUInt32.toUInt16.toUInt32.toInt32)) k17 w_COMPACT_STRINGS_0 (.int (0 : Int32)) .null h31 n0 (Nat.le_trans (Nat.le_trans (Nat.le_trans (Nat.le_trans Z0 E16.1) E17.1) (Keep.of_wr W24).1) (Keep.of_wr W31).1) (own_nar (own_d10 hr0)) (own_nar (own_r10 hr0)) V31 ((((Sf_COMPACT_STRINGS_1.ext E16).ext E17).wr W24).wr W31) hp8 f33 f35 ge_b16 f34) hZ (hw _ (List.mem_of_getElem? (i := 51) rfl)) (hw _ (List.mem_of_getElem? (i := 9) rfl)) (by decide) (by decide)) (g := (mkF m 51 #[.val (.int p0)] [(.ref b17), (.ref b16), (.ref b16)])) rfl (by rw [hml]; rfl) (Steps.refl _) (a := b16) (argsL := [(.ref b17)]) (rest := [(.ref b16)]) (lenOf pd_10 rfl) rfl (by show 2 * 0 + _ ≤ _; exact Nat.le_of_eq rfl) (hb hby d1_51) (fun _ _ => ⟨rfl, e31, (by decide : 2 + 1 ≤ _), (by decide : 6 + 2 ≤ _)⟩)
      dsimp only [Pt.U, Pt.locs, Pt.cells, Pt.slots] at X36 l36 y36 z36 st36 hQ36
      subst l36 y36 z36
      obtain ⟨rfl, Nq36, c36_0, vb37, kb38, c36_1, c36_2, c36_3, c36_4⟩ := hQ36
      have N36 := Fr.app N31 Nq36
      have hs39 : ∀ x ∈ [b16], Safe Z consts_1 s.vm h31 x := (allS (show Safe Z consts_1 s.vm h31 b16 from (Safe.wr W31 Sa32 CH24 (Safe.wr W24 Sa25 CH17 (Safe.ext E17 CH16 (Safe.ext E16 H0 Sn16))))) all0)
      have CR36 := CHr.trans CR31 (CHr.keep c36_0 hs39 CH31)
      have CH36 := CHv.keep c36_0 hs39 CH31
      have f40 := (f33.keep c36_0)
      have f41 := (V31.keep c36_0 (ninS (Ne.symm ne21) nin0))
      have f42 := (own_sta_keep ((((Sf_COMPACT_STRINGS_1.ext E16).ext E17).wr W24).wr W31) c36_0 (allS (own_exa_ns f33) all0))
      have K43 : Keep h0 T36.heap [] := Keep.trans K31 c36_0 (allS (Or.inr sz_b16) all0)
      have pre44 : ∀ t, Steps p.tables e below (T36.setTop (mkF m 54 #[.val (.int p0)] [(.ref b16)])) t → Steps p.tables e below (s₁.setTop (entryFrame m #[(.int p0)] 1)) t := fun t kt => pre5 t (by
          show Steps p.tables e below (s₁.setTop (mkF m 10 #[.val (.int p0)] [(.int (10 : Int32)), (.int p0)])) _
          refine XS.icmpYes X0.here hx rfl (pc0 := 10) (pc' := 22) rfl (hb hby d1_10) rfl (flt hc6).2.1 (by decide) (by decide) ?_
          show Steps p.tables e below (s₁.setTop (mkF m 22 #[.val (.int p0)] [])) _
          refine st16 _ ?_
          show Steps p.tables e below (T16.setTop (mkF m 25 #[.val (.int p0)] [(.ref b16)])) _
          refine XS.dup X16.here hx rfl (hb hby d1_25) rfl rfl ?_
          show Steps p.tables e below (T16.setTop (mkF m 26 #[.val (.int p0)] [(.ref b16), (.ref b16)])) _
          refine XS.iconst X16.here hx rfl (hb hby d1_26) ?_
          show Steps p.tables e below (T16.setTop (mkF m 27 #[.val (.int p0)] [(.int (2 : Int32)), (.ref b16), (.ref b16)])) _
          refine st17 _ ?_
          show Steps p.tables e below (T17.setTop (mkF m 29 #[.val (.int p0)] [(.ref b17), (.ref b16), (.ref b16)])) _
          refine XS.dup X17.here hx rfl (hb hby d1_29) rfl rfl ?_
          show Steps p.tables e below (T17.setTop (mkF m 30 #[.val (.int p0)] [(.ref b17), (.ref b17), (.ref b16), (.ref b16)])) _
          refine XS.iconst X17.here hx rfl (hb hby d1_30) ?_
          show Steps p.tables e below (T17.setTop (mkF m 31 #[.val (.int p0)] [(.int (0 : Int32)), (.ref b17), (.ref b17), (.ref b16), (.ref b16)])) _
          refine XS.bipush X17.here hx rfl (hb hby d1_31) ?_
          show Steps p.tables e below (T17.setTop (mkF m 33 #[.val (.int p0)] [(.int (48 : Int32)), (.int (0 : Int32)), (.ref b17), (.ref b17), (.ref b16), (.ref b16)])) _
          refine XS.iloadN X17.here hx rfl (hb hby d1_33) rfl ?_
          show Steps p.tables e below (T17.setTop (mkF m 34 #[.val (.int p0)] [(.int p0), (.int (48 : Int32)), (.int (0 : Int32)), (.ref b17), (.ref b17), (.ref b16), (.ref b16)])) _
          refine XS.bipush X17.here hx rfl (hb hby d1_34) ?_
          show Steps p.tables e below (T17.setTop (mkF m 36 #[.val (.int p0)] [(.int (10 : Int32)), (.int p0), (.int (48 : Int32)), (.int (0 : Int32)), (.ref b17), (.ref b17), (.ref b16), (.ref b16)])) _
          refine XS.idiv X17.here hx rfl (hb hby d1_36) rfl (by decide) ?_
          show Steps p.tables e below (T17.setTop (mkF m 37 #[.val (.int p0)] [(.int (p0 / (10 : Int32))), (.int (48 : Int32)), (.int (0 : Int32)), (.ref b17), (.ref b17), (.ref b16), (.ref b16)])) _
          refine XS.iadd X17.here hx rfl (hb hby d1_37) rfl ?_
          show Steps p.tables e below (T17.setTop (mkF m 38 #[.val (.int p0)] [(.int ((48 : Int32) + (p0 / (10 : Int32)))), (.int (0 : Int32)), (.ref b17), (.ref b17), (.ref b16), (.ref b16)])) _
          refine XS.i2c X17.here hx rfl (hb hby d1_38) rfl ?_
          show Steps p.tables e below (T17.setTop (mkF m 39 #[.val (.int p0)] [(.int (((48 : Int32) + (p0 / (10 : Int32))).toUInt32.toUInt16.toUInt32.toInt32)), (.int (0 : Int32)), (.ref b17), (.ref b17), (.ref b16), (.ref b16)])) _
          refine st24 _ ?_
          show Steps p.tables e below (T24.setTop (mkF m 40 #[.val (.int p0)] [(.ref b17), (.ref b16), (.ref b16)])) _
          refine XS.dup X24.here hx rfl (hb hby d1_40) rfl rfl ?_
          show Steps p.tables e below (T24.setTop (mkF m 41 #[.val (.int p0)] [(.ref b17), (.ref b17), (.ref b16), (.ref b16)])) _
          refine XS.iconst X24.here hx rfl (hb hby d1_41) ?_
          show Steps p.tables e below (T24.setTop (mkF m 42 #[.val (.int p0)] [(.int (1 : Int32)), (.ref b17), (.ref b17), (.ref b16), (.ref b16)])) _
          refine XS.bipush X24.here hx rfl (hb hby d1_42) ?_
          show Steps p.tables e below (T24.setTop (mkF m 44 #[.val (.int p0)] [(.int (48 : Int32)), (.int (1 : Int32)), (.ref b17), (.ref b17), (.ref b16), (.ref b16)])) _
          refine XS.iloadN X24.here hx rfl (hb hby d1_44) rfl ?_
          show Steps p.tables e below (T24.setTop (mkF m 45 #[.val (.int p0)] [(.int p0), (.int (48 : Int32)), (.int (1 : Int32)), (.ref b17), (.ref b17), (.ref b16), (.ref b16)])) _
          refine XS.bipush X24.here hx rfl (hb hby d1_45) ?_
          show Steps p.tables e below (T24.setTop (mkF m 47 #[.val (.int p0)] [(.int (10 : Int32)), (.int p0), (.int (48 : Int32)), (.int (1 : Int32)), (.ref b17), (.ref b17), (.ref b16), (.ref b16)])) _
          refine iremM X24 hx rfl (hb hby d1_47) rfl (by decide) ?_
          show Steps p.tables e below (T24.setTop (mkF m 48 #[.val (.int p0)] [(.int (p0 % (10 : Int32))), (.int (48 : Int32)), (.int (1 : Int32)), (.ref b17), (.ref b17), (.ref b16), (.ref b16)])) _
          refine XS.iadd X24.here hx rfl (hb hby d1_48) rfl ?_
          show Steps p.tables e below (T24.setTop (mkF m 49 #[.val (.int p0)] [(.int ((48 : Int32) + (p0 % (10 : Int32)))), (.int (1 : Int32)), (.ref b17), (.ref b17), (.ref b16), (.ref b16)])) _
          refine XS.i2c X24.here hx rfl (hb hby d1_49) rfl ?_
          show Steps p.tables e below (T24.setTop (mkF m 50 #[.val (.int p0)] [(.int (((48 : Int32) + (p0 % (10 : Int32))).toUInt32.toUInt16.toUInt32.toInt32)), (.int (1 : Int32)), (.ref b17), (.ref b17), (.ref b16), (.ref b16)])) _
          refine st31 _ ?_
          show Steps p.tables e below (T31.setTop (mkF m 51 #[.val (.int p0)] [(.ref b17), (.ref b16), (.ref b16)])) _
          refine st36.trans ?_
          exact kt)
      obtain ⟨fs, hr, hrun, hended, hRE⟩ := X36.leaveW hS0 (Nat.le_trans (Nat.le_trans (Nat.le_trans (Nat.le_trans (Nat.le_trans (Nat.zero_le _) E16.1) E17.1) (Keep.of_wr W24).1) (Keep.of_wr W31).1) c36_0.1) (v := some (.ref b16)) (fun h => by rw [Bd.returns] at h; cases h)
      have hCR : CHr Z consts_1 s.vm s.heap T36.vm T36.heap := by rw [hh]; exact CHr.trans CR36 (CHv.at X36 hZ hEL CH36)
      refine ⟨_, _, pre44 _ ?_, hrun, hended, _, _, rfl, ?_, hCR, own_mono hRE (by decide) (by decide)⟩
      · show Steps p.tables e below (T36.setTop (mkF m 54 #[.val (.int p0)] [(.ref b16)])) _
        jvm_step X36.here [X36.here.top, hx, (hb hby d1_54), X36.method', Bd.returns, Value.isRef, FieldType.isReference]
        first | (intro acts; rw [hr _ acts rfl rfl rfl]) | rw [hr _ _ rfl rfl rfl]
        exact Steps.refl _
      · show Q1 Z _ _ h0 n0 _ T36.heap _
        exact ⟨⟨_, rfl, trivial⟩, N36, K43⟩
theorem d2_0 : decode method_3_code 0 = .ok (.iload_n 0, 1) := by decide +kernel
theorem d2_1 : decode method_3_code 1 = .ok (.ifCond .ne 6, 3) := by decide +kernel
theorem d2_4 : decode method_3_code 4 = .ok (.ldc 7, 2) := by decide +kernel
theorem d2_6 : decode method_3_code 6 = .ok (.areturn, 1) := by decide +kernel
theorem d2_7 : decode method_3_code 7 = .ok (.iload_n 0, 1) := by decide +kernel
theorem d2_8 : decode method_3_code 8 = .ok (.bipush 10, 2) := by decide +kernel
theorem d2_10 : decode method_3_code 10 = .ok (.irem, 1) := by decide +kernel
theorem d2_11 : decode method_3_code 11 = .ok (.ifCond .ne 15, 3) := by decide +kernel
theorem d2_14 : decode method_3_code 14 = .ok (.bipush 48, 2) := by decide +kernel
theorem d2_16 : decode method_3_code 16 = .ok (.iload_n 0, 1) := by decide +kernel
theorem d2_17 : decode method_3_code 17 = .ok (.bipush 10, 2) := by decide +kernel
theorem d2_19 : decode method_3_code 19 = .ok (.idiv, 1) := by decide +kernel
theorem d2_20 : decode method_3_code 20 = .ok (.iadd, 1) := by decide +kernel
theorem d2_21 : decode method_3_code 21 = .ok (.i2c, 1) := by decide +kernel
theorem d2_22 : decode method_3_code 22 = .ok (.invokestatic 9, 3) := by decide +kernel
theorem d2_25 : decode method_3_code 25 = .ok (.areturn, 1) := by decide +kernel
theorem d2_26 : decode method_3_code 26 = .ok (.new 10, 3) := by decide +kernel
theorem d2_29 : decode method_3_code 29 = .ok (.dup, 1) := by decide +kernel
theorem d2_30 : decode method_3_code 30 = .ok (.iconst 2, 1) := by decide +kernel
theorem d2_31 : decode method_3_code 31 = .ok (.newarray .char, 2) := by decide +kernel
theorem d2_33 : decode method_3_code 33 = .ok (.dup, 1) := by decide +kernel
theorem d2_34 : decode method_3_code 34 = .ok (.iconst 0, 1) := by decide +kernel
theorem d2_35 : decode method_3_code 35 = .ok (.bipush 48, 2) := by decide +kernel
theorem d2_37 : decode method_3_code 37 = .ok (.iload_n 0, 1) := by decide +kernel
theorem d2_38 : decode method_3_code 38 = .ok (.bipush 10, 2) := by decide +kernel
theorem d2_40 : decode method_3_code 40 = .ok (.idiv, 1) := by decide +kernel
theorem d2_41 : decode method_3_code 41 = .ok (.iadd, 1) := by decide +kernel
theorem d2_42 : decode method_3_code 42 = .ok (.i2c, 1) := by decide +kernel
theorem d2_43 : decode method_3_code 43 = .ok (.castore, 1) := by decide +kernel
theorem d2_44 : decode method_3_code 44 = .ok (.dup, 1) := by decide +kernel
theorem d2_45 : decode method_3_code 45 = .ok (.iconst 1, 1) := by decide +kernel
theorem d2_46 : decode method_3_code 46 = .ok (.bipush 48, 2) := by decide +kernel
theorem d2_48 : decode method_3_code 48 = .ok (.iload_n 0, 1) := by decide +kernel
theorem d2_49 : decode method_3_code 49 = .ok (.bipush 10, 2) := by decide +kernel
theorem d2_51 : decode method_3_code 51 = .ok (.irem, 1) := by decide +kernel
theorem d2_52 : decode method_3_code 52 = .ok (.iadd, 1) := by decide +kernel
theorem d2_53 : decode method_3_code 53 = .ok (.i2c, 1) := by decide +kernel
theorem d2_54 : decode method_3_code 54 = .ok (.castore, 1) := by decide +kernel
theorem d2_55 : decode method_3_code 55 = .ok (.invokespecial 15, 3) := by decide +kernel
theorem d2_58 : decode method_3_code 58 = .ok (.areturn, 1) := by decide +kernel
theorem ef_2 (m : MethodId) (x0 : Int32)  : entryFrame m #[(.int x0)] 1 = mkF m 0 #[.val (.int x0)] [] := by first | (simp [entryFrame, mkF, argsToLocals, Value.category]; done) | rfl
def Q2 (Z : State) (p0 : Int32) (w_COMPACT_STRINGS_0 : Int32) (h0 : Heap) (n0 : Nat) (v : Option Value) (h : Heap) (L : List Loc) : Prop := (∃ (r : Addr) (vb : Addr) (kb : ClassId) (z : Int32) (vs : List Value), v = some (.ref r) ∧ (Exa Z h r "java/lang/String") ∧ (Fld Z h r "java/lang/String" "value" "[B" (.ref vb)) ∧ (Arv Z h vb kb .byte z vs (.int (0 : Int32))) ∧ ((p0 = (0 : Int32) → z = (0 : Int32)) ∧ (¬ p0 = (0 : Int32) → ¬ z = (0 : Int32)))) ∧ Fr n0 L ∧ (Keep h0 h [])
set_option maxRecDepth 65536 in
set_option maxHeartbeats 40000000 in
theorem rm2 (l : Launch) (Z : State) (aw : Array Value) (hw : ∀ d ∈ tables_1, d.before aw Z = true) (ws : List Jvm.Cond) (p0 : Int32) (w_COMPACT_STRINGS_0 : Int32) (h0 : Heap) (n0 : Nat) (Z0 : n0 ≤ h0.size) (hr0 : 0 ≤ p0.toInt ∧ p0.toInt < 100) (Sf_COMPACT_STRINGS_1 : Sta Z h0 "java/lang/String" "COMPACT_STRINGS" "Z" (.int w_COMPACT_STRINGS_0)) (hp8 : ¬ w_COMPACT_STRINGS_0 = (0 : Int32)) :
    MetFree l (⟨"cartouche/mapping/DecimalIsCountPinLaw", "fractionDigits", "(I)Ljava/lang/String;"⟩ : MethodName) (head1 (Jvm.Cond.code (⟨"cartouche/mapping/DecimalIsCountPinLaw", "fractionDigits", "(I)Ljava/lang/String;"⟩ : MethodName) method_3_code 1 (some (.object "java/lang/String")) :: ws) ({ frames := 4, cells := 3, slots := 8, locals := 66 } : Room)) (fun a U => a = #[(.int p0)] ∧ Z.Warmed39 U.vm ∧ U.heap = h0 ∧ CHv Z consts_1 U.vm h0) (fun _ _ _ _ _ => True) (fun _ U o U' => ∃ v L, o = .returned v ∧ Q2 Z p0 w_COMPACT_STRINGS_0 h0 n0 v U'.heap L ∧ CHr Z consts_1 U.vm U.heap U'.vm U'.heap ∧ ReturnedEndW U o U' L ({ frames := 4, cells := 3, slots := 8, locals := 66 } : Room).cells ({ frames := 4, cells := 3, slots := 8, locals := 66 } : Room).slots) := by
  refine MetFree.of_bodySF (plainFor_of_name pn_5) hisR ?_
  intro p e s m args below meth c s₁ Bd hml0 hP hK
  obtain ⟨rfl, hZ, hh, H0⟩ := hP
  have hx := Bd.exec
  have hby := Bd.bytes
  have hml : c.maxLocals = 1 := hml0
  have hown : s.vm.findClass "cartouche/mapping/DecimalIsCountPinLaw" = some m.cls := findClass_of_methodNamed Bd.named
  have hnm := (name_of_methodNamed Bd.named Bd.method).1
  have X0 : Stand p l e ({ frames := 4, cells := 3, slots := 8, locals := 66 } : Room) (s.setVm s.vm) m #[(.int p0)] below meth c s₁ [] 0 0 := Stand.of_body Bd
  have e0 : s₁.heap = h0 := by rw [← hh, Bd.state]; rfl
  have N0 := Fr.nil n0
  have hEL := own_EW hw
  have wS := own_wS hw
  have hS0 : s.Since s.vm 0 := (State.WarmedH.refl s).since 0
  have pre0 : ∀ t, Steps p.tables e below (s₁.setTop (mkF m 0 #[.val (.int p0)] [])) t → Steps p.tables e below (s₁.setTop (entryFrame m #[(.int p0)] 1)) t := fun t k => castTop (ef_2 m p0 ) k
  have pre1 : ∀ t, Steps p.tables e below (s₁.setTop (mkF m 1 #[.val (.int p0)] [(.int p0)])) t → Steps p.tables e below (s₁.setTop (entryFrame m #[(.int p0)] 1)) t := fun t kt => pre0 t (by
      show Steps p.tables e below (s₁.setTop (mkF m 0 #[.val (.int p0)] [])) _
      refine XS.iloadN X0.here hx rfl (hb hby d2_0) rfl ?_
      exact kt)
  by_cases hc2 : p0 = (0 : Int32)
  · skip
    obtain ⟨lt3, T3, h3, kk3, lb3, kb3, X3, e3, E3, hS3, hk3, hZ3, hown3, Ex3, Fc3, Fv3, Av3, lla3, llb3, hCq3, hL3, hne3, st3⟩ := ldcCH X0 hx hZ hown (hw _ (List.mem_of_getElem? (i := 8) rfl)) wS e0 hS0 (Nat.zero_le _) hEL (List.mem_of_getElem? (i := 0) rfl) H0 (vs := []) (z := (0 : Int32)) ⟨by decide, by decide⟩ (by decide) rfl (g := (mkF m 4 #[.val (.int p0)] [])) rfl (hb hby d2_4) (n := 0) (by decide) (by decide) (by decide) (by decide)
    have CR3 := CHr.trans (CHr.refl H0) hCq3
    have K3 : Keep h0 h3 [] := Keep.ext (Keep.refl h0 []) E3
    have pre4 : ∀ t, Steps p.tables e below (T3.setTop (mkF m 6 #[.val (.int p0)] [(.ref lt3)])) t → Steps p.tables e below (s₁.setTop (entryFrame m #[(.int p0)] 1)) t := fun t kt => pre1 t (by
        show Steps p.tables e below (s₁.setTop (mkF m 1 #[.val (.int p0)] [(.int p0)])) _
        refine XS.ifNo X0.here hx rfl (hb hby d2_1) rfl ((if0 _ _).trans (teq hc2).2) ?_
        show Steps p.tables e below (s₁.setTop (mkF m 4 #[.val (.int p0)] [])) _
        refine st3 _ ?_
        exact kt)
    obtain ⟨fs, hr, hrun, hended, hRE⟩ := X3.leaveW hS3 (by rw [e3]; exact hk3) (v := some (.ref lt3)) (fun h => by rw [Bd.returns] at h; cases h)
    have hCR : CHr Z consts_1 s.vm s.heap T3.vm T3.heap := by rw [e3, hh]; exact CHr.trans CR3 (CHv.at X3 hZ3 hEL hCq3.1)
    refine ⟨_, _, pre4 _ ?_, hrun, hended, _, _, rfl, ?_, hCR, own_mono hRE (by decide) (by decide)⟩
    · show Steps p.tables e below (T3.setTop (mkF m 6 #[.val (.int p0)] [(.ref lt3)])) _
      jvm_step X3.here [X3.here.top, hx, (hb hby d2_6), X3.method', Bd.returns, Value.isRef, FieldType.isReference]
      first | (intro acts; rw [hr _ acts rfl rfl rfl]) | rw [hr _ _ rfl rfl rfl]
      exact Steps.refl _
    · show Q2 Z _ _ h0 n0 _ T3.heap _
      rw [e3]
      exact ⟨⟨_, _, _, _, _, rfl, Ex3, Fv3, Av3, ⟨fun _ => rfl, fun n => absurd hc2 n⟩⟩, N0, K3⟩
  · skip
    have pre5 : ∀ t, Steps p.tables e below (s₁.setTop (mkF m 11 #[.val (.int p0)] [(.int (p0 % (10 : Int32)))])) t → Steps p.tables e below (s₁.setTop (entryFrame m #[(.int p0)] 1)) t := fun t kt => pre1 t (by
        show Steps p.tables e below (s₁.setTop (mkF m 1 #[.val (.int p0)] [(.int p0)])) _
        refine XS.ifYes X0.here hx rfl (pc0 := 1) (pc' := 7) rfl (hb hby d2_1) rfl ((if0 _ _).trans (feq hc2).2) (by decide) (by decide) ?_
        show Steps p.tables e below (s₁.setTop (mkF m 7 #[.val (.int p0)] [])) _
        refine XS.iloadN X0.here hx rfl (hb hby d2_7) rfl ?_
        show Steps p.tables e below (s₁.setTop (mkF m 8 #[.val (.int p0)] [(.int p0)])) _
        refine XS.bipush X0.here hx rfl (hb hby d2_8) ?_
        show Steps p.tables e below (s₁.setTop (mkF m 10 #[.val (.int p0)] [(.int (10 : Int32)), (.int p0)])) _
        refine iremM X0 hx rfl (hb hby d2_10) rfl (by decide) ?_
        exact kt)
    by_cases hc6 : (p0 % (10 : Int32)) = (0 : Int32)
    · skip
      obtain ⟨_, _, ⟨T7, L7, k7, n7⟩, -, X7, ⟨Lc7, hQ7, l7, y7, z7⟩, st7⟩ := Jvm.LawKit.callS X0 hx (y := (⟨"java/lang/String", "valueOf", "(C)Ljava/lang/String;"⟩ : MethodName)) hown (mvT hZ (hw _ (List.mem_of_getElem? (i := 69) rfl))) (mvT hZ (hw _ (List.mem_of_getElem? (i := 70) rfl))) (mvT hZ (hw _ (List.mem_of_getElem? (i := 9) rfl))) (mvT hZ (hw _ (List.mem_of_getElem? (i := 71) rfl))) (by decide) (backOf (W := 0) (rm13 l Z aw hw [] (((48 : Int32) + (p0 / (10 : Int32))).toUInt32.toUInt16.toUInt32.toInt32) w_COMPACT_STRINGS_0 h0 n0 Z0 (own_chr (own_d10 hr0)) Sf_COMPACT_STRINGS_1 hp8) hZ (hw _ (List.mem_of_getElem? (i := 71) rfl)) (hw _ (List.mem_of_getElem? (i := 9) rfl)) (by decide) (by decide)) (g := (mkF m 22 #[.val (.int p0)] [(.int (((48 : Int32) + (p0 / (10 : Int32))).toUInt32.toUInt16.toUInt32.toInt32))])) rfl (by rw [hml]; rfl) (argsL := [(.int (((48 : Int32) + (p0 / (10 : Int32))).toUInt32.toUInt16.toUInt32.toInt32))]) (rest := []) (lenOf pd_9 rfl) rfl (by show 2 * 0 + _ ≤ _; exact Nat.le_of_eq rfl) (hb hby d2_22) (fun _ _ => ⟨rfl, e0, (by decide : 0 + 2 ≤ _), (by decide : 0 + 5 ≤ _)⟩)
      dsimp only [Pt.U, Pt.locs, Pt.cells, Pt.slots] at X7 l7 y7 z7 st7 hQ7
      subst l7 y7 z7
      obtain ⟨⟨r9, vb10, kb11, rfl, m7_0, m7_1, m7_2, m7_3, m7_4⟩, Nq7, c7_0⟩ := hQ7
      have N7 := Fr.app N0 Nq7
      have hs12 : ∀ x ∈ [], Safe Z consts_1 s.vm h0 x := all0
      have CR7 := CHr.trans (CHr.refl H0) (CHr.keep c7_0 hs12 H0)
      have CH7 := CHv.keep c7_0 hs12 H0
      have f13 := (own_sta_keep Sf_COMPACT_STRINGS_1 c7_0 all0)
      have K14 : Keep h0 T7.heap [] := Keep.trans (Keep.refl h0 []) c7_0 all0
      have pre15 : ∀ t, Steps p.tables e below (T7.setTop (mkF m 25 #[.val (.int p0)] [(.ref r9)])) t → Steps p.tables e below (s₁.setTop (entryFrame m #[(.int p0)] 1)) t := fun t kt => pre5 t (by
          show Steps p.tables e below (s₁.setTop (mkF m 11 #[.val (.int p0)] [(.int (p0 % (10 : Int32)))])) _
          refine XS.ifNo X0.here hx rfl (hb hby d2_11) rfl ((if0 _ _).trans (teq hc6).2) ?_
          show Steps p.tables e below (s₁.setTop (mkF m 14 #[.val (.int p0)] [])) _
          refine XS.bipush X0.here hx rfl (hb hby d2_14) ?_
          show Steps p.tables e below (s₁.setTop (mkF m 16 #[.val (.int p0)] [(.int (48 : Int32))])) _
          refine XS.iloadN X0.here hx rfl (hb hby d2_16) rfl ?_
          show Steps p.tables e below (s₁.setTop (mkF m 17 #[.val (.int p0)] [(.int p0), (.int (48 : Int32))])) _
          refine XS.bipush X0.here hx rfl (hb hby d2_17) ?_
          show Steps p.tables e below (s₁.setTop (mkF m 19 #[.val (.int p0)] [(.int (10 : Int32)), (.int p0), (.int (48 : Int32))])) _
          refine XS.idiv X0.here hx rfl (hb hby d2_19) rfl (by decide) ?_
          show Steps p.tables e below (s₁.setTop (mkF m 20 #[.val (.int p0)] [(.int (p0 / (10 : Int32))), (.int (48 : Int32))])) _
          refine XS.iadd X0.here hx rfl (hb hby d2_20) rfl ?_
          show Steps p.tables e below (s₁.setTop (mkF m 21 #[.val (.int p0)] [(.int ((48 : Int32) + (p0 / (10 : Int32))))])) _
          refine XS.i2c X0.here hx rfl (hb hby d2_21) rfl ?_
          show Steps p.tables e below (s₁.setTop (mkF m 22 #[.val (.int p0)] [(.int (((48 : Int32) + (p0 / (10 : Int32))).toUInt32.toUInt16.toUInt32.toInt32))])) _
          refine st7 _ ?_
          exact kt)
      obtain ⟨fs, hr, hrun, hended, hRE⟩ := X7.leaveW hS0 (Nat.le_trans (Nat.zero_le _) c7_0.1) (v := some (.ref r9)) (fun h => by rw [Bd.returns] at h; cases h)
      have hCR : CHr Z consts_1 s.vm s.heap T7.vm T7.heap := by rw [hh]; exact CHr.trans CR7 (CHv.at X7 hZ hEL CH7)
      refine ⟨_, _, pre15 _ ?_, hrun, hended, _, _, rfl, ?_, hCR, own_mono hRE (by decide) (by decide)⟩
      · show Steps p.tables e below (T7.setTop (mkF m 25 #[.val (.int p0)] [(.ref r9)])) _
        jvm_step X7.here [X7.here.top, hx, (hb hby d2_25), X7.method', Bd.returns, Value.isRef, FieldType.isReference]
        first | (intro acts; rw [hr _ acts rfl rfl rfl]) | rw [hr _ _ rfl rfl rfl]
        exact Steps.refl _
      · show Q2 Z _ _ h0 n0 _ T7.heap _
        exact ⟨⟨_, _, _, _, _, rfl, m7_1, m7_3, m7_4, ⟨fun e => absurd e hc2, fun _ => by decide⟩⟩, N7, K14⟩
    · skip
      obtain ⟨T16, h16, X16, e16, E16, A16, D16, -, st16⟩ := newO X0 hx hZ hown (hw _ (List.mem_of_getElem? (i := 47) rfl)) (hw _ (List.mem_of_getElem? (i := 10) rfl)) (hw _ (List.mem_of_getElem? (i := 9) rfl)) e0 (g := (mkF m 26 #[.val (.int p0)] [])) rfl (hb hby d2_26) (by decide) (by decide)
      obtain ⟨b16, g16⟩ : ∃ z, z = h0.size := ⟨_, rfl⟩
      rw [← g16] at A16 D16 st16
      have Sn16 : Safe Z consts_1 s.vm h0 b16 := Safe.new (Nat.le_of_eq g16.symm)
      have CR16 := CHr.trans (CHr.refl H0) (CHr.ext E16 H0)
      have CH16 := CHv.ext E16 H0
      have ge_b16 : n0 ≤ b16 := Nat.le_trans Z0 (Nat.le_of_eq g16.symm)
      have sz_b16 : h0.size ≤ b16 := Nat.le_trans (Keep.refl h0 []).1 (Nat.le_of_eq g16.symm)
      have K16 : Keep h0 h16 [] := Keep.ext (Keep.refl h0 []) E16
      have F16_value : Fld Z h16 b16 "java/lang/String" "value" "[B" .null := D16 (Or.inr (hw _ (List.mem_of_getElem? (i := 12) rfl))) (ty := (.array .byte)) (by decide)
      have F16_coder : Fld Z h16 b16 "java/lang/String" "coder" "B" (.int (0 : Int32)) := D16 (Or.inr (hw _ (List.mem_of_getElem? (i := 13) rfl))) (ty := .byte) (by decide)
      obtain ⟨T17, h17, k17, X17, e17, E17, A17, st17⟩ := newP X16 hx hZ (hw _ (List.mem_of_getElem? (i := 48) rfl)) e16 (g := (mkF m 31 #[.val (.int p0)] [(.int (2 : Int32)), (.ref b16), (.ref b16)])) rfl (hb hby d2_31) rfl (by decide) (cap := 2) (by decide) (by decide) (by decide) (by decide)
      obtain ⟨b17, g17⟩ : ∃ z, z = h16.size := ⟨_, rfl⟩
      rw [← g17] at A17 st17
      have Sn17 : Safe Z consts_1 s.vm h16 b17 := Safe.new (Nat.le_of_eq g17.symm)
      have CR17 := CHr.trans CR16 (CHr.ext E17 CH16)
      have CH17 := CHv.ext E17 CH16
      have f18 := (A16.ext E17)
      have f19 := (F16_value.ext E17)
      have f20 := (F16_coder.ext E17)
      have ne21 : b16 ≠ b17 := Nat.ne_of_lt (Nat.lt_of_lt_of_le A16.lt (Nat.le_of_eq g17.symm))
      have ge_b17 : n0 ≤ b17 := Nat.le_trans (Nat.le_trans Z0 E16.1) (Nat.le_of_eq g17.symm)
      have sz_b17 : h0.size ≤ b17 := Nat.le_trans K16.1 (Nat.le_of_eq g17.symm)
      have K17 : Keep h0 h17 [] := Keep.ext K16 E17
      have V17 : Arv Z h17 b17 k17 .char (2 : Int32) [(.int (0 : Int32)), (.int (0 : Int32))] (.int (0 : Int32)) := (Arv.new A17 (by decide)).pad (pad_rep [] (.int (0 : Int32)) 2)
      obtain ⟨co22, Ao22, qo22, So22, No22, Ho22, Go22⟩ := id V17
      have hin23 : ¬ ((0 : Int32) < 0 ∨ co22.slots.size ≤ ((0 : Int32)).toNatClampNeg) := inb_of So22 ⟨by decide, by decide⟩
      obtain ⟨T24, h24, X24, e24, W24, st24⟩ := stC X17 hx hZ e17 Ao22 (j := (0 : Int32)) hin23 (g := (mkF m 43 #[.val (.int p0)] [(.int (((48 : Int32) + (p0 / (10 : Int32))).toUInt32.toUInt16.toUInt32.toInt32)), (.int (0 : Int32)), (.ref b17), (.ref b17), (.ref b16), (.ref b16)])) rfl rfl (hb hby d2_43)
      have V24 : Arv Z h24 b17 k17 .char (2 : Int32) [(.int (nar .char (((48 : Int32) + (p0 / (10 : Int32))).toUInt32.toUInt16.toUInt32.toInt32))), (.int (0 : Int32))] (.int (0 : Int32)) := Arv.set Ao22 qo22 So22 No22 Ho22 Go22 (fits_nar_char _) W24 0 rfl (Nat.le_of_ble_eq_true rfl)
      have Sa25 : Safe Z consts_1 s.vm h17 b17 := (Safe.ext E17 CH16 Sn17)
      have f26 := (f18.wr W24)
      have f27 := (f19.other W24 (Or.inl ne21))
      have f28 := (f20.other W24 (Or.inl ne21))
      have N24 := Fr.snoc X24 N0 ge_b17
      have K24 : Keep h0 h24 [] := Keep.wr K17 W24 (Or.inr sz_b17)
      have CR24 := CHr.trans CR17 (CHr.wr W24 Sa25 CH17)
      have CH24 := CHv.wr W24 Sa25 CH17
      obtain ⟨co29, Ao29, qo29, So29, No29, Ho29, Go29⟩ := id V24
      have hin30 : ¬ ((1 : Int32) < 0 ∨ co29.slots.size ≤ ((1 : Int32)).toNatClampNeg) := inb_of So29 ⟨by decide, by decide⟩
      obtain ⟨T31, h31, X31, e31, W31, st31⟩ := stC X24 hx hZ e24 Ao29 (j := (1 : Int32)) hin30 (g := (mkF m 54 #[.val (.int p0)] [(.int (((48 : Int32) + (p0 % (10 : Int32))).toUInt32.toUInt16.toUInt32.toInt32)), (.int (1 : Int32)), (.ref b17), (.ref b17), (.ref b16), (.ref b16)])) rfl rfl (hb hby d2_54)
      have V31 : Arv Z h31 b17 k17 .char (2 : Int32) [(.int (nar .char (((48 : Int32) + (p0 / (10 : Int32))).toUInt32.toUInt16.toUInt32.toInt32))), (.int (nar .char (((48 : Int32) + (p0 % (10 : Int32))).toUInt32.toUInt16.toUInt32.toInt32)))] (.int (0 : Int32)) := Arv.set Ao29 qo29 So29 No29 Ho29 Go29 (fits_nar_char _) W31 1 rfl (Nat.le_of_ble_eq_true rfl)
      have Sa32 : Safe Z consts_1 s.vm h24 b17 := (Safe.wr W24 Sa25 CH17 (Safe.ext E17 CH16 Sn17))
      have f33 := (f26.wr W31)
      have f34 := (f27.other W31 (Or.inl ne21))
      have f35 := (f28.other W31 (Or.inl ne21))
      have N31 := Fr.snoc X31 N24 ge_b17
      have K31 : Keep h0 h31 [] := Keep.wr K24 W31 (Or.inr sz_b17)
      have CR31 := CHr.trans CR24 (CHr.wr W31 Sa32 CH24)
      have CH31 := CHv.wr W31 Sa32 CH24
      obtain ⟨_, _, ⟨T36, L36, k36, n36⟩, -, X36, ⟨Lc36, hQ36, l36, y36, z36⟩, st36⟩ := X31.specialBack hx (y := (⟨"java/lang/String", "<init>", "([C)V"⟩ : MethodName)) rfl hown (mvT hZ (hw _ (List.mem_of_getElem? (i := 49) rfl))) (mvT hZ (hw _ (List.mem_of_getElem? (i := 50) rfl))) (mvT hZ (hw _ (List.mem_of_getElem? (i := 51) rfl))) (by decide) (backOf (W := 1) (rmI1 l Z aw hw [] b16 b17 (nar .char (((48 : Int32) + (p0 / (10 : Int32))).toUInt32.toUInt16.toUInt32.toInt32)) (nar .char (((48 : Int32) + (p0 % (10 : Int32))).toUInt32.toUInt16.toUInt32.toInt32)) k17 w_COMPACT_STRINGS_0 (.int (0 : Int32)) .null h31 n0 (Nat.le_trans (Nat.le_trans (Nat.le_trans (Nat.le_trans Z0 E16.1) E17.1) (Keep.of_wr W24).1) (Keep.of_wr W31).1) (own_nar (own_d10 hr0)) (own_nar (own_r10 hr0)) V31 ((((Sf_COMPACT_STRINGS_1.ext E16).ext E17).wr W24).wr W31) hp8 f33 f35 ge_b16 f34) hZ (hw _ (List.mem_of_getElem? (i := 51) rfl)) (hw _ (List.mem_of_getElem? (i := 9) rfl)) (by decide) (by decide)) (g := (mkF m 55 #[.val (.int p0)] [(.ref b17), (.ref b16), (.ref b16)])) rfl (by rw [hml]; rfl) (Steps.refl _) (a := b16) (argsL := [(.ref b17)]) (rest := [(.ref b16)]) (lenOf pd_10 rfl) rfl (by show 2 * 0 + _ ≤ _; exact Nat.le_of_eq rfl) (hb hby d2_55) (fun _ _ => ⟨rfl, e31, (by decide : 2 + 1 ≤ _), (by decide : 6 + 2 ≤ _)⟩)
      dsimp only [Pt.U, Pt.locs, Pt.cells, Pt.slots] at X36 l36 y36 z36 st36 hQ36
      subst l36 y36 z36
      obtain ⟨rfl, Nq36, c36_0, vb37, kb38, c36_1, c36_2, c36_3, c36_4⟩ := hQ36
      have N36 := Fr.app N31 Nq36
      have hs39 : ∀ x ∈ [b16], Safe Z consts_1 s.vm h31 x := (allS (show Safe Z consts_1 s.vm h31 b16 from (Safe.wr W31 Sa32 CH24 (Safe.wr W24 Sa25 CH17 (Safe.ext E17 CH16 (Safe.ext E16 H0 Sn16))))) all0)
      have CR36 := CHr.trans CR31 (CHr.keep c36_0 hs39 CH31)
      have CH36 := CHv.keep c36_0 hs39 CH31
      have f40 := (f33.keep c36_0)
      have f41 := (V31.keep c36_0 (ninS (Ne.symm ne21) nin0))
      have f42 := (own_sta_keep ((((Sf_COMPACT_STRINGS_1.ext E16).ext E17).wr W24).wr W31) c36_0 (allS (own_exa_ns f33) all0))
      have K43 : Keep h0 T36.heap [] := Keep.trans K31 c36_0 (allS (Or.inr sz_b16) all0)
      have pre44 : ∀ t, Steps p.tables e below (T36.setTop (mkF m 58 #[.val (.int p0)] [(.ref b16)])) t → Steps p.tables e below (s₁.setTop (entryFrame m #[(.int p0)] 1)) t := fun t kt => pre5 t (by
          show Steps p.tables e below (s₁.setTop (mkF m 11 #[.val (.int p0)] [(.int (p0 % (10 : Int32)))])) _
          refine XS.ifYes X0.here hx rfl (pc0 := 11) (pc' := 26) rfl (hb hby d2_11) rfl ((if0 _ _).trans (feq hc6).2) (by decide) (by decide) ?_
          show Steps p.tables e below (s₁.setTop (mkF m 26 #[.val (.int p0)] [])) _
          refine st16 _ ?_
          show Steps p.tables e below (T16.setTop (mkF m 29 #[.val (.int p0)] [(.ref b16)])) _
          refine XS.dup X16.here hx rfl (hb hby d2_29) rfl rfl ?_
          show Steps p.tables e below (T16.setTop (mkF m 30 #[.val (.int p0)] [(.ref b16), (.ref b16)])) _
          refine XS.iconst X16.here hx rfl (hb hby d2_30) ?_
          show Steps p.tables e below (T16.setTop (mkF m 31 #[.val (.int p0)] [(.int (2 : Int32)), (.ref b16), (.ref b16)])) _
          refine st17 _ ?_
          show Steps p.tables e below (T17.setTop (mkF m 33 #[.val (.int p0)] [(.ref b17), (.ref b16), (.ref b16)])) _
          refine XS.dup X17.here hx rfl (hb hby d2_33) rfl rfl ?_
          show Steps p.tables e below (T17.setTop (mkF m 34 #[.val (.int p0)] [(.ref b17), (.ref b17), (.ref b16), (.ref b16)])) _
          refine XS.iconst X17.here hx rfl (hb hby d2_34) ?_
          show Steps p.tables e below (T17.setTop (mkF m 35 #[.val (.int p0)] [(.int (0 : Int32)), (.ref b17), (.ref b17), (.ref b16), (.ref b16)])) _
          refine XS.bipush X17.here hx rfl (hb hby d2_35) ?_
          show Steps p.tables e below (T17.setTop (mkF m 37 #[.val (.int p0)] [(.int (48 : Int32)), (.int (0 : Int32)), (.ref b17), (.ref b17), (.ref b16), (.ref b16)])) _
          refine XS.iloadN X17.here hx rfl (hb hby d2_37) rfl ?_
          show Steps p.tables e below (T17.setTop (mkF m 38 #[.val (.int p0)] [(.int p0), (.int (48 : Int32)), (.int (0 : Int32)), (.ref b17), (.ref b17), (.ref b16), (.ref b16)])) _
          refine XS.bipush X17.here hx rfl (hb hby d2_38) ?_
          show Steps p.tables e below (T17.setTop (mkF m 40 #[.val (.int p0)] [(.int (10 : Int32)), (.int p0), (.int (48 : Int32)), (.int (0 : Int32)), (.ref b17), (.ref b17), (.ref b16), (.ref b16)])) _
          refine XS.idiv X17.here hx rfl (hb hby d2_40) rfl (by decide) ?_
          show Steps p.tables e below (T17.setTop (mkF m 41 #[.val (.int p0)] [(.int (p0 / (10 : Int32))), (.int (48 : Int32)), (.int (0 : Int32)), (.ref b17), (.ref b17), (.ref b16), (.ref b16)])) _
          refine XS.iadd X17.here hx rfl (hb hby d2_41) rfl ?_
          show Steps p.tables e below (T17.setTop (mkF m 42 #[.val (.int p0)] [(.int ((48 : Int32) + (p0 / (10 : Int32)))), (.int (0 : Int32)), (.ref b17), (.ref b17), (.ref b16), (.ref b16)])) _
          refine XS.i2c X17.here hx rfl (hb hby d2_42) rfl ?_
          show Steps p.tables e below (T17.setTop (mkF m 43 #[.val (.int p0)] [(.int (((48 : Int32) + (p0 / (10 : Int32))).toUInt32.toUInt16.toUInt32.toInt32)), (.int (0 : Int32)), (.ref b17), (.ref b17), (.ref b16), (.ref b16)])) _
          refine st24 _ ?_
          show Steps p.tables e below (T24.setTop (mkF m 44 #[.val (.int p0)] [(.ref b17), (.ref b16), (.ref b16)])) _
          refine XS.dup X24.here hx rfl (hb hby d2_44) rfl rfl ?_
          show Steps p.tables e below (T24.setTop (mkF m 45 #[.val (.int p0)] [(.ref b17), (.ref b17), (.ref b16), (.ref b16)])) _
          refine XS.iconst X24.here hx rfl (hb hby d2_45) ?_
          show Steps p.tables e below (T24.setTop (mkF m 46 #[.val (.int p0)] [(.int (1 : Int32)), (.ref b17), (.ref b17), (.ref b16), (.ref b16)])) _
          refine XS.bipush X24.here hx rfl (hb hby d2_46) ?_
          show Steps p.tables e below (T24.setTop (mkF m 48 #[.val (.int p0)] [(.int (48 : Int32)), (.int (1 : Int32)), (.ref b17), (.ref b17), (.ref b16), (.ref b16)])) _
          refine XS.iloadN X24.here hx rfl (hb hby d2_48) rfl ?_
          show Steps p.tables e below (T24.setTop (mkF m 49 #[.val (.int p0)] [(.int p0), (.int (48 : Int32)), (.int (1 : Int32)), (.ref b17), (.ref b17), (.ref b16), (.ref b16)])) _
          refine XS.bipush X24.here hx rfl (hb hby d2_49) ?_
          show Steps p.tables e below (T24.setTop (mkF m 51 #[.val (.int p0)] [(.int (10 : Int32)), (.int p0), (.int (48 : Int32)), (.int (1 : Int32)), (.ref b17), (.ref b17), (.ref b16), (.ref b16)])) _
          refine iremM X24 hx rfl (hb hby d2_51) rfl (by decide) ?_
          show Steps p.tables e below (T24.setTop (mkF m 52 #[.val (.int p0)] [(.int (p0 % (10 : Int32))), (.int (48 : Int32)), (.int (1 : Int32)), (.ref b17), (.ref b17), (.ref b16), (.ref b16)])) _
          refine XS.iadd X24.here hx rfl (hb hby d2_52) rfl ?_
          show Steps p.tables e below (T24.setTop (mkF m 53 #[.val (.int p0)] [(.int ((48 : Int32) + (p0 % (10 : Int32)))), (.int (1 : Int32)), (.ref b17), (.ref b17), (.ref b16), (.ref b16)])) _
          refine XS.i2c X24.here hx rfl (hb hby d2_53) rfl ?_
          show Steps p.tables e below (T24.setTop (mkF m 54 #[.val (.int p0)] [(.int (((48 : Int32) + (p0 % (10 : Int32))).toUInt32.toUInt16.toUInt32.toInt32)), (.int (1 : Int32)), (.ref b17), (.ref b17), (.ref b16), (.ref b16)])) _
          refine st31 _ ?_
          show Steps p.tables e below (T31.setTop (mkF m 55 #[.val (.int p0)] [(.ref b17), (.ref b16), (.ref b16)])) _
          refine st36.trans ?_
          exact kt)
      obtain ⟨fs, hr, hrun, hended, hRE⟩ := X36.leaveW hS0 (Nat.le_trans (Nat.le_trans (Nat.le_trans (Nat.le_trans (Nat.le_trans (Nat.zero_le _) E16.1) E17.1) (Keep.of_wr W24).1) (Keep.of_wr W31).1) c36_0.1) (v := some (.ref b16)) (fun h => by rw [Bd.returns] at h; cases h)
      have hCR : CHr Z consts_1 s.vm s.heap T36.vm T36.heap := by rw [hh]; exact CHr.trans CR36 (CHv.at X36 hZ hEL CH36)
      refine ⟨_, _, pre44 _ ?_, hrun, hended, _, _, rfl, ?_, hCR, own_mono hRE (by decide) (by decide)⟩
      · show Steps p.tables e below (T36.setTop (mkF m 58 #[.val (.int p0)] [(.ref b16)])) _
        jvm_step X36.here [X36.here.top, hx, (hb hby d2_58), X36.method', Bd.returns, Value.isRef, FieldType.isReference]
        first | (intro acts; rw [hr _ acts rfl rfl rfl]) | rw [hr _ _ rfl rfl rfl]
        exact Steps.refl _
      · show Q2 Z _ _ h0 n0 _ T36.heap _
        exact ⟨⟨_, _, _, _, _, rfl, c36_1, c36_3, c36_4, ⟨fun e => absurd e hc2, fun _ => by decide⟩⟩, N36, K43⟩
theorem pd_11 : parseMethodDescriptor "(I)Ljava/lang/String;" = some ⟨[.int], some (.object "java/lang/String")⟩ := by decide +kernel
theorem pd_12 : parseMethodDescriptor "(ILjava/lang/String;Ljava/lang/String;)V" = some ⟨[.int, (.object "java/lang/String"), (.object "java/lang/String")], none⟩ := by decide +kernel
theorem ef_0 (m : MethodId) (x0 : Int32) (x1 : Int32)  : entryFrame m #[(.int x0), (.int x1)] maxLocals = mkF m 0 #[.val (.int x0), .val (.int x1), .unset, .unset, .unset, .unset, .unset, .unset, .unset, .unset] [] := by first | (simp [entryFrame, mkF, argsToLocals, Value.category, maxLocals]; done) | rfl
def Q0 (Z : State) (p0 : Int32) (p1 : Int32) (w_COMPACT_STRINGS_1 : Int32) (h0 : Heap) (n0 : Nat) (v : Option Value) (h : Heap) (L : List Loc) : Prop := v = some (.int (1 : Int32)) ∧ Fr n0 L ∧ (True)
set_option maxRecDepth 65536 in
set_option maxHeartbeats 40000000 in
theorem rm0 (l : Launch) (Z : State) (aw : Array Value) (hw : ∀ d ∈ tables_1, d.before aw Z = true) (ws : List Jvm.Cond) (p0 : Int32) (p1 : Int32) (w_COMPACT_STRINGS_1 : Int32) (h0 : Heap) (n0 : Nat) (Z0 : n0 ≤ h0.size) (S_COMPACT_STRINGS_0 : Sta Z h0 "java/lang/String" "COMPACT_STRINGS" "Z" (.int w_COMPACT_STRINGS_1)) (hne_1 : ¬ w_COMPACT_STRINGS_1 = (0 : Int32)) :
    MetFree l x (head1 (Jvm.Cond.code x code maxLocals ret :: ws) room_1) (fun a U => a = #[(.int p0), (.int p1)] ∧ Z.Warmed39 U.vm ∧ U.heap = h0 ∧ CHv Z consts_1 U.vm h0) (fun _ _ _ _ _ => True) (fun _ U o U' => ∃ v L, o = .returned v ∧ Q0 Z p0 p1 w_COMPACT_STRINGS_1 h0 n0 v U'.heap L ∧ CHr Z consts_1 U.vm U.heap U'.vm U'.heap ∧ ReturnedEndW U o U' L room_1.cells room_1.slots) := by
  refine MetFree.of_bodySF (plainFor_of_name pn_5) hisR ?_
  intro p e s m args below meth c s₁ Bd hml0 hP hK
  obtain ⟨rfl, hZ, hh, H0⟩ := hP
  have hx := Bd.exec
  have hby := Bd.bytes
  have hml : c.maxLocals = 10 := hml0
  have hown : s.vm.findClass "cartouche/mapping/DecimalIsCountPinLaw" = some m.cls := findClass_of_methodNamed Bd.named
  have hnm := (name_of_methodNamed Bd.named Bd.method).1
  have X0 : Stand p l e room_1 (s.setVm s.vm) m #[(.int p0), (.int p1)] below meth c s₁ [] 0 0 := Stand.of_body Bd
  have e0 : s₁.heap = h0 := by rw [← hh, Bd.state]; rfl
  have N0 := Fr.nil n0
  have hEL := own_EW hw
  have wS := own_wS hw
  have hS0 : s.Since s.vm 0 := (State.WarmedH.refl s).since 0
  have pre0 : ∀ t, Steps p.tables e below (s₁.setTop (mkF m 0 #[.val (.int p0), .val (.int p1), .unset, .unset, .unset, .unset, .unset, .unset, .unset, .unset] [])) t → Steps p.tables e below (s₁.setTop (entryFrame m #[(.int p0), (.int p1)] maxLocals)) t := fun t k => castTop (ef_0 m p0 p1 ) k
  have pre1 : ∀ t, Steps p.tables e below (s₁.setTop (mkF m 9 #[.val (.int p0), .val (.int p1), .val (.int ((p0 &&& (2147483647 : Int32)) % (10000 : Int32))), .unset, .unset, .unset, .unset, .unset, .unset, .unset] [])) t → Steps p.tables e below (s₁.setTop (entryFrame m #[(.int p0), (.int p1)] maxLocals)) t := fun t kt => pre0 t (by
      show Steps p.tables e below (s₁.setTop (mkF m 0 #[.val (.int p0), .val (.int p1), .unset, .unset, .unset, .unset, .unset, .unset, .unset, .unset] [])) _
      refine XS.iloadN X0.here hx rfl (hb hby at_0) rfl ?_
      show Steps p.tables e below (s₁.setTop (mkF m 1 #[.val (.int p0), .val (.int p1), .unset, .unset, .unset, .unset, .unset, .unset, .unset, .unset] [(.int p0)])) _
      refine X0.ldcInt hx hown (mvT hZ (hw _ (List.mem_of_getElem? (i := 0) rfl))) (g := (mkF m 1 #[.val (.int p0), .val (.int p1), .unset, .unset, .unset, .unset, .unset, .unset, .unset, .unset] [(.int p0)])) rfl (hb hby at_1) _ ?_
      show Steps p.tables e below (s₁.setTop (mkF m 3 #[.val (.int p0), .val (.int p1), .unset, .unset, .unset, .unset, .unset, .unset, .unset, .unset] [(.int (2147483647 : Int32)), (.int p0)])) _
      refine XS.iand X0.here hx rfl (hb hby at_3) rfl ?_
      show Steps p.tables e below (s₁.setTop (mkF m 4 #[.val (.int p0), .val (.int p1), .unset, .unset, .unset, .unset, .unset, .unset, .unset, .unset] [(.int (p0 &&& (2147483647 : Int32)))])) _
      refine XS.sipush X0.here hx rfl (hb hby at_4) ?_
      show Steps p.tables e below (s₁.setTop (mkF m 7 #[.val (.int p0), .val (.int p1), .unset, .unset, .unset, .unset, .unset, .unset, .unset, .unset] [(.int (10000 : Int32)), (.int (p0 &&& (2147483647 : Int32)))])) _
      refine iremM X0 hx rfl (hb hby at_7) rfl (by decide) ?_
      show Steps p.tables e below (s₁.setTop (mkF m 8 #[.val (.int p0), .val (.int p1), .unset, .unset, .unset, .unset, .unset, .unset, .unset, .unset] [(.int ((p0 &&& (2147483647 : Int32)) % (10000 : Int32)))])) _
      refine XS.istoreN X0.here hx rfl (hb hby at_8) rfl (l' := #[.val (.int p0), .val (.int p1), .val (.int ((p0 &&& (2147483647 : Int32)) % (10000 : Int32))), .unset, .unset, .unset, .unset, .unset, .unset, .unset]) rfl ?_
      exact kt)
  have hm0 := own_rng p0 10000 10000 rfl (by decide)
  obtain ⟨mg, hmg⟩ : ∃ z, z = ((p0 &&& (2147483647 : Int32)) % (10000 : Int32)) := ⟨_, rfl⟩
  rw [← hmg] at pre1 hm0
  refine cps (A := ∃ (ng : Int32) (vv : Int32) (ww : Int32) (ff : Int32) (sg : Int32), (((vv < (0 : Int32) → sg < (0 : Int32)) ∧ (¬ vv < (0 : Int32) → ¬ sg < (0 : Int32))) ∧ (vv % (100 : Int32) = (0 : Int32) ↔ mg % (100 : Int32) = (0 : Int32)) ∧ ww = mg / (100 : Int32) ∧ ff = mg % (100 : Int32)) ∧ ∀ t, Steps p.tables e below (s₁.setTop (mkF m 66 #[.val (.int p0), .val (.int p1), .val (.int mg), .val (.int ng), .val (.int vv), .val (.int ww), .val (.int ff), .val (.int sg), .unset, .unset] [])) t → Steps p.tables e below (s₁.setTop (entryFrame m #[(.int p0), (.int p1)] maxLocals)) t) (fun kk2 => ?_) (fun hA => ?_)
  · skip
    have pre3 : ∀ t, Steps p.tables e below (s₁.setTop (mkF m 12 #[.val (.int p0), .val (.int p1), .val (.int mg), .unset, .unset, .unset, .unset, .unset, .unset, .unset] [(.int (p1 &&& (1 : Int32)))])) t → Steps p.tables e below (s₁.setTop (entryFrame m #[(.int p0), (.int p1)] maxLocals)) t := fun t kt => pre1 t (by
        show Steps p.tables e below (s₁.setTop (mkF m 9 #[.val (.int p0), .val (.int p1), .val (.int mg), .unset, .unset, .unset, .unset, .unset, .unset, .unset] [])) _
        refine XS.iloadN X0.here hx rfl (hb hby at_9) rfl ?_
        show Steps p.tables e below (s₁.setTop (mkF m 10 #[.val (.int p0), .val (.int p1), .val (.int mg), .unset, .unset, .unset, .unset, .unset, .unset, .unset] [(.int p1)])) _
        refine XS.iconst X0.here hx rfl (hb hby at_10) ?_
        show Steps p.tables e below (s₁.setTop (mkF m 11 #[.val (.int p0), .val (.int p1), .val (.int mg), .unset, .unset, .unset, .unset, .unset, .unset, .unset] [(.int (1 : Int32)), (.int p1)])) _
        refine XS.iand X0.here hx rfl (hb hby at_11) rfl ?_
        exact kt)
    by_cases hc4 : (p1 &&& (1 : Int32)) = (0 : Int32)
    · skip
      have pre5 : ∀ t, Steps p.tables e below (s₁.setTop (mkF m 47 #[.val (.int p0), .val (.int p1), .val (.int mg), .val (.int (0 : Int32)), .val (.int mg), .val (.int (mg / (100 : Int32))), .val (.int (mg % (100 : Int32))), .unset, .unset, .unset] [(.int mg)])) t → Steps p.tables e below (s₁.setTop (entryFrame m #[(.int p0), (.int p1)] maxLocals)) t := fun t kt => pre3 t (by
          show Steps p.tables e below (s₁.setTop (mkF m 12 #[.val (.int p0), .val (.int p1), .val (.int mg), .unset, .unset, .unset, .unset, .unset, .unset, .unset] [(.int (p1 &&& (1 : Int32)))])) _
          refine XS.ifYes X0.here hx rfl (pc0 := 12) (pc' := 19) rfl (hb hby at_12) rfl ((if0 _ _).trans (teq hc4).1) (by decide) (by decide) ?_
          show Steps p.tables e below (s₁.setTop (mkF m 19 #[.val (.int p0), .val (.int p1), .val (.int mg), .unset, .unset, .unset, .unset, .unset, .unset, .unset] [])) _
          refine XS.iconst X0.here hx rfl (hb hby at_19) ?_
          show Steps p.tables e below (s₁.setTop (mkF m 20 #[.val (.int p0), .val (.int p1), .val (.int mg), .unset, .unset, .unset, .unset, .unset, .unset, .unset] [(.int (0 : Int32))])) _
          refine XS.istoreN X0.here hx rfl (hb hby at_20) rfl (l' := #[.val (.int p0), .val (.int p1), .val (.int mg), .val (.int (0 : Int32)), .unset, .unset, .unset, .unset, .unset, .unset]) rfl ?_
          show Steps p.tables e below (s₁.setTop (mkF m 21 #[.val (.int p0), .val (.int p1), .val (.int mg), .val (.int (0 : Int32)), .unset, .unset, .unset, .unset, .unset, .unset] [])) _
          refine XS.iloadN X0.here hx rfl (hb hby at_21) rfl ?_
          show Steps p.tables e below (s₁.setTop (mkF m 22 #[.val (.int p0), .val (.int p1), .val (.int mg), .val (.int (0 : Int32)), .unset, .unset, .unset, .unset, .unset, .unset] [(.int (0 : Int32))])) _
          refine XS.ifYes X0.here hx rfl (pc0 := 22) (pc' := 30) rfl (hb hby at_22) rfl ((if0 _ _).trans (teq (rfl : (0 : Int32) = (0 : Int32))).1) (by decide) (by decide) ?_
          show Steps p.tables e below (s₁.setTop (mkF m 30 #[.val (.int p0), .val (.int p1), .val (.int mg), .val (.int (0 : Int32)), .unset, .unset, .unset, .unset, .unset, .unset] [])) _
          refine XS.iloadN X0.here hx rfl (hb hby at_30) rfl ?_
          show Steps p.tables e below (s₁.setTop (mkF m 31 #[.val (.int p0), .val (.int p1), .val (.int mg), .val (.int (0 : Int32)), .unset, .unset, .unset, .unset, .unset, .unset] [(.int mg)])) _
          refine XS.istore X0.here hx rfl (hb hby at_31) rfl (l' := #[.val (.int p0), .val (.int p1), .val (.int mg), .val (.int (0 : Int32)), .val (.int mg), .unset, .unset, .unset, .unset, .unset]) rfl ?_
          show Steps p.tables e below (s₁.setTop (mkF m 33 #[.val (.int p0), .val (.int p1), .val (.int mg), .val (.int (0 : Int32)), .val (.int mg), .unset, .unset, .unset, .unset, .unset] [])) _
          refine XS.iloadN X0.here hx rfl (hb hby at_33) rfl ?_
          show Steps p.tables e below (s₁.setTop (mkF m 34 #[.val (.int p0), .val (.int p1), .val (.int mg), .val (.int (0 : Int32)), .val (.int mg), .unset, .unset, .unset, .unset, .unset] [(.int mg)])) _
          refine XS.bipush X0.here hx rfl (hb hby at_34) ?_
          show Steps p.tables e below (s₁.setTop (mkF m 36 #[.val (.int p0), .val (.int p1), .val (.int mg), .val (.int (0 : Int32)), .val (.int mg), .unset, .unset, .unset, .unset, .unset] [(.int (100 : Int32)), (.int mg)])) _
          refine XS.idiv X0.here hx rfl (hb hby at_36) rfl (by decide) ?_
          show Steps p.tables e below (s₁.setTop (mkF m 37 #[.val (.int p0), .val (.int p1), .val (.int mg), .val (.int (0 : Int32)), .val (.int mg), .unset, .unset, .unset, .unset, .unset] [(.int (mg / (100 : Int32)))])) _
          refine XS.istore X0.here hx rfl (hb hby at_37) rfl (l' := #[.val (.int p0), .val (.int p1), .val (.int mg), .val (.int (0 : Int32)), .val (.int mg), .val (.int (mg / (100 : Int32))), .unset, .unset, .unset, .unset]) rfl ?_
          show Steps p.tables e below (s₁.setTop (mkF m 39 #[.val (.int p0), .val (.int p1), .val (.int mg), .val (.int (0 : Int32)), .val (.int mg), .val (.int (mg / (100 : Int32))), .unset, .unset, .unset, .unset] [])) _
          refine XS.iloadN X0.here hx rfl (hb hby at_39) rfl ?_
          show Steps p.tables e below (s₁.setTop (mkF m 40 #[.val (.int p0), .val (.int p1), .val (.int mg), .val (.int (0 : Int32)), .val (.int mg), .val (.int (mg / (100 : Int32))), .unset, .unset, .unset, .unset] [(.int mg)])) _
          refine XS.bipush X0.here hx rfl (hb hby at_40) ?_
          show Steps p.tables e below (s₁.setTop (mkF m 42 #[.val (.int p0), .val (.int p1), .val (.int mg), .val (.int (0 : Int32)), .val (.int mg), .val (.int (mg / (100 : Int32))), .unset, .unset, .unset, .unset] [(.int (100 : Int32)), (.int mg)])) _
          refine iremM X0 hx rfl (hb hby at_42) rfl (by decide) ?_
          show Steps p.tables e below (s₁.setTop (mkF m 43 #[.val (.int p0), .val (.int p1), .val (.int mg), .val (.int (0 : Int32)), .val (.int mg), .val (.int (mg / (100 : Int32))), .unset, .unset, .unset, .unset] [(.int (mg % (100 : Int32)))])) _
          refine XS.istore X0.here hx rfl (hb hby at_43) rfl (l' := #[.val (.int p0), .val (.int p1), .val (.int mg), .val (.int (0 : Int32)), .val (.int mg), .val (.int (mg / (100 : Int32))), .val (.int (mg % (100 : Int32))), .unset, .unset, .unset]) rfl ?_
          show Steps p.tables e below (s₁.setTop (mkF m 45 #[.val (.int p0), .val (.int p1), .val (.int mg), .val (.int (0 : Int32)), .val (.int mg), .val (.int (mg / (100 : Int32))), .val (.int (mg % (100 : Int32))), .unset, .unset, .unset] [])) _
          refine XS.iload X0.here hx rfl (hb hby at_45) rfl ?_
          exact kt)
      by_cases hc6 : (0 : Int32) < mg
      · skip
        have pre7 : ∀ t, Steps p.tables e below (s₁.setTop (mkF m 66 #[.val (.int p0), .val (.int p1), .val (.int mg), .val (.int (0 : Int32)), .val (.int mg), .val (.int (mg / (100 : Int32))), .val (.int (mg % (100 : Int32))), .val (.int (1 : Int32)), .unset, .unset] [])) t → Steps p.tables e below (s₁.setTop (entryFrame m #[(.int p0), (.int p1)] maxLocals)) t := fun t kt => pre5 t (by
            show Steps p.tables e below (s₁.setTop (mkF m 47 #[.val (.int p0), .val (.int p1), .val (.int mg), .val (.int (0 : Int32)), .val (.int mg), .val (.int (mg / (100 : Int32))), .val (.int (mg % (100 : Int32))), .unset, .unset, .unset] [(.int mg)])) _
            refine XS.ifNo X0.here hx rfl (hb hby at_47) rfl ((if0 _ _).trans (tlt hc6).2.2.2) ?_
            show Steps p.tables e below (s₁.setTop (mkF m 50 #[.val (.int p0), .val (.int p1), .val (.int mg), .val (.int (0 : Int32)), .val (.int mg), .val (.int (mg / (100 : Int32))), .val (.int (mg % (100 : Int32))), .unset, .unset, .unset] [])) _
            refine XS.iconst X0.here hx rfl (hb hby at_50) ?_
            show Steps p.tables e below (s₁.setTop (mkF m 51 #[.val (.int p0), .val (.int p1), .val (.int mg), .val (.int (0 : Int32)), .val (.int mg), .val (.int (mg / (100 : Int32))), .val (.int (mg % (100 : Int32))), .unset, .unset, .unset] [(.int (1 : Int32))])) _
            refine XS.goto X0.here hx rfl (pc0 := 51) (pc' := 64) rfl (hb hby at_51) (by decide) (by decide) ?_
            show Steps p.tables e below (s₁.setTop (mkF m 64 #[.val (.int p0), .val (.int p1), .val (.int mg), .val (.int (0 : Int32)), .val (.int mg), .val (.int (mg / (100 : Int32))), .val (.int (mg % (100 : Int32))), .unset, .unset, .unset] [(.int (1 : Int32))])) _
            refine XS.istore X0.here hx rfl (hb hby at_64) rfl (l' := #[.val (.int p0), .val (.int p1), .val (.int mg), .val (.int (0 : Int32)), .val (.int mg), .val (.int (mg / (100 : Int32))), .val (.int (mg % (100 : Int32))), .val (.int (1 : Int32)), .unset, .unset]) rfl ?_
            exact kt)
        exact kk2 ⟨(0 : Int32), mg, (mg / (100 : Int32)), (mg % (100 : Int32)), (1 : Int32), ⟨(own_sp hc6), Iff.rfl, rfl, rfl⟩, pre7⟩
      · skip
        have pre8 : ∀ t, Steps p.tables e below (s₁.setTop (mkF m 56 #[.val (.int p0), .val (.int p1), .val (.int mg), .val (.int (0 : Int32)), .val (.int mg), .val (.int (mg / (100 : Int32))), .val (.int (mg % (100 : Int32))), .unset, .unset, .unset] [(.int mg)])) t → Steps p.tables e below (s₁.setTop (entryFrame m #[(.int p0), (.int p1)] maxLocals)) t := fun t kt => pre5 t (by
            show Steps p.tables e below (s₁.setTop (mkF m 47 #[.val (.int p0), .val (.int p1), .val (.int mg), .val (.int (0 : Int32)), .val (.int mg), .val (.int (mg / (100 : Int32))), .val (.int (mg % (100 : Int32))), .unset, .unset, .unset] [(.int mg)])) _
            refine XS.ifYes X0.here hx rfl (pc0 := 47) (pc' := 54) rfl (hb hby at_47) rfl ((if0 _ _).trans (flt hc6).2.2.2) (by decide) (by decide) ?_
            show Steps p.tables e below (s₁.setTop (mkF m 54 #[.val (.int p0), .val (.int p1), .val (.int mg), .val (.int (0 : Int32)), .val (.int mg), .val (.int (mg / (100 : Int32))), .val (.int (mg % (100 : Int32))), .unset, .unset, .unset] [])) _
            refine XS.iload X0.here hx rfl (hb hby at_54) rfl ?_
            exact kt)
        by_cases hc9 : mg < (0 : Int32)
        · skip
          have pre10 : ∀ t, Steps p.tables e below (s₁.setTop (mkF m 66 #[.val (.int p0), .val (.int p1), .val (.int mg), .val (.int (0 : Int32)), .val (.int mg), .val (.int (mg / (100 : Int32))), .val (.int (mg % (100 : Int32))), .val (.int (-1 : Int32)), .unset, .unset] [])) t → Steps p.tables e below (s₁.setTop (entryFrame m #[(.int p0), (.int p1)] maxLocals)) t := fun t kt => pre8 t (by
              show Steps p.tables e below (s₁.setTop (mkF m 56 #[.val (.int p0), .val (.int p1), .val (.int mg), .val (.int (0 : Int32)), .val (.int mg), .val (.int (mg / (100 : Int32))), .val (.int (mg % (100 : Int32))), .unset, .unset, .unset] [(.int mg)])) _
              refine XS.ifNo X0.here hx rfl (hb hby at_56) rfl ((if0 _ _).trans (tlt hc9).2.1) ?_
              show Steps p.tables e below (s₁.setTop (mkF m 59 #[.val (.int p0), .val (.int p1), .val (.int mg), .val (.int (0 : Int32)), .val (.int mg), .val (.int (mg / (100 : Int32))), .val (.int (mg % (100 : Int32))), .unset, .unset, .unset] [])) _
              refine XS.iconst X0.here hx rfl (hb hby at_59) ?_
              show Steps p.tables e below (s₁.setTop (mkF m 60 #[.val (.int p0), .val (.int p1), .val (.int mg), .val (.int (0 : Int32)), .val (.int mg), .val (.int (mg / (100 : Int32))), .val (.int (mg % (100 : Int32))), .unset, .unset, .unset] [(.int (-1 : Int32))])) _
              refine XS.goto X0.here hx rfl (pc0 := 60) (pc' := 64) rfl (hb hby at_60) (by decide) (by decide) ?_
              show Steps p.tables e below (s₁.setTop (mkF m 64 #[.val (.int p0), .val (.int p1), .val (.int mg), .val (.int (0 : Int32)), .val (.int mg), .val (.int (mg / (100 : Int32))), .val (.int (mg % (100 : Int32))), .unset, .unset, .unset] [(.int (-1 : Int32))])) _
              refine XS.istore X0.here hx rfl (hb hby at_64) rfl (l' := #[.val (.int p0), .val (.int p1), .val (.int mg), .val (.int (0 : Int32)), .val (.int mg), .val (.int (mg / (100 : Int32))), .val (.int (mg % (100 : Int32))), .val (.int (-1 : Int32)), .unset, .unset]) rfl ?_
              exact kt)
          exact kk2 ⟨(0 : Int32), mg, (mg / (100 : Int32)), (mg % (100 : Int32)), (-1 : Int32), ⟨(own_sn hc9), Iff.rfl, rfl, rfl⟩, pre10⟩
        · skip
          have pre11 : ∀ t, Steps p.tables e below (s₁.setTop (mkF m 66 #[.val (.int p0), .val (.int p1), .val (.int mg), .val (.int (0 : Int32)), .val (.int mg), .val (.int (mg / (100 : Int32))), .val (.int (mg % (100 : Int32))), .val (.int (0 : Int32)), .unset, .unset] [])) t → Steps p.tables e below (s₁.setTop (entryFrame m #[(.int p0), (.int p1)] maxLocals)) t := fun t kt => pre8 t (by
              show Steps p.tables e below (s₁.setTop (mkF m 56 #[.val (.int p0), .val (.int p1), .val (.int mg), .val (.int (0 : Int32)), .val (.int mg), .val (.int (mg / (100 : Int32))), .val (.int (mg % (100 : Int32))), .unset, .unset, .unset] [(.int mg)])) _
              refine XS.ifYes X0.here hx rfl (pc0 := 56) (pc' := 63) rfl (hb hby at_56) rfl ((if0 _ _).trans (flt hc9).2.1) (by decide) (by decide) ?_
              show Steps p.tables e below (s₁.setTop (mkF m 63 #[.val (.int p0), .val (.int p1), .val (.int mg), .val (.int (0 : Int32)), .val (.int mg), .val (.int (mg / (100 : Int32))), .val (.int (mg % (100 : Int32))), .unset, .unset, .unset] [])) _
              refine XS.iconst X0.here hx rfl (hb hby at_63) ?_
              show Steps p.tables e below (s₁.setTop (mkF m 64 #[.val (.int p0), .val (.int p1), .val (.int mg), .val (.int (0 : Int32)), .val (.int mg), .val (.int (mg / (100 : Int32))), .val (.int (mg % (100 : Int32))), .unset, .unset, .unset] [(.int (0 : Int32))])) _
              refine XS.istore X0.here hx rfl (hb hby at_64) rfl (l' := #[.val (.int p0), .val (.int p1), .val (.int mg), .val (.int (0 : Int32)), .val (.int mg), .val (.int (mg / (100 : Int32))), .val (.int (mg % (100 : Int32))), .val (.int (0 : Int32)), .unset, .unset]) rfl ?_
              exact kt)
          exact kk2 ⟨(0 : Int32), mg, (mg / (100 : Int32)), (mg % (100 : Int32)), (0 : Int32), ⟨(own_sz hc9), Iff.rfl, rfl, rfl⟩, pre11⟩
    · skip
      have pre12 : ∀ t, Steps p.tables e below (s₁.setTop (mkF m 47 #[.val (.int p0), .val (.int p1), .val (.int mg), .val (.int (1 : Int32)), .val (.int (-mg)), .val (.int (mg / (100 : Int32))), .val (.int (mg % (100 : Int32))), .unset, .unset, .unset] [(.int (-mg))])) t → Steps p.tables e below (s₁.setTop (entryFrame m #[(.int p0), (.int p1)] maxLocals)) t := fun t kt => pre3 t (by
          show Steps p.tables e below (s₁.setTop (mkF m 12 #[.val (.int p0), .val (.int p1), .val (.int mg), .unset, .unset, .unset, .unset, .unset, .unset, .unset] [(.int (p1 &&& (1 : Int32)))])) _
          refine XS.ifNo X0.here hx rfl (hb hby at_12) rfl ((if0 _ _).trans (feq hc4).1) ?_
          show Steps p.tables e below (s₁.setTop (mkF m 15 #[.val (.int p0), .val (.int p1), .val (.int mg), .unset, .unset, .unset, .unset, .unset, .unset, .unset] [])) _
          refine XS.iconst X0.here hx rfl (hb hby at_15) ?_
          show Steps p.tables e below (s₁.setTop (mkF m 16 #[.val (.int p0), .val (.int p1), .val (.int mg), .unset, .unset, .unset, .unset, .unset, .unset, .unset] [(.int (1 : Int32))])) _
          refine XS.goto X0.here hx rfl (pc0 := 16) (pc' := 20) rfl (hb hby at_16) (by decide) (by decide) ?_
          show Steps p.tables e below (s₁.setTop (mkF m 20 #[.val (.int p0), .val (.int p1), .val (.int mg), .unset, .unset, .unset, .unset, .unset, .unset, .unset] [(.int (1 : Int32))])) _
          refine XS.istoreN X0.here hx rfl (hb hby at_20) rfl (l' := #[.val (.int p0), .val (.int p1), .val (.int mg), .val (.int (1 : Int32)), .unset, .unset, .unset, .unset, .unset, .unset]) rfl ?_
          show Steps p.tables e below (s₁.setTop (mkF m 21 #[.val (.int p0), .val (.int p1), .val (.int mg), .val (.int (1 : Int32)), .unset, .unset, .unset, .unset, .unset, .unset] [])) _
          refine XS.iloadN X0.here hx rfl (hb hby at_21) rfl ?_
          show Steps p.tables e below (s₁.setTop (mkF m 22 #[.val (.int p0), .val (.int p1), .val (.int mg), .val (.int (1 : Int32)), .unset, .unset, .unset, .unset, .unset, .unset] [(.int (1 : Int32))])) _
          refine XS.ifNo X0.here hx rfl (hb hby at_22) rfl ((if0 _ _).trans (feq (by decide : ¬ ((1 : Int32) = (0 : Int32)))).1) ?_
          show Steps p.tables e below (s₁.setTop (mkF m 25 #[.val (.int p0), .val (.int p1), .val (.int mg), .val (.int (1 : Int32)), .unset, .unset, .unset, .unset, .unset, .unset] [])) _
          refine XS.iloadN X0.here hx rfl (hb hby at_25) rfl ?_
          show Steps p.tables e below (s₁.setTop (mkF m 26 #[.val (.int p0), .val (.int p1), .val (.int mg), .val (.int (1 : Int32)), .unset, .unset, .unset, .unset, .unset, .unset] [(.int mg)])) _
          refine XS.ineg X0.here hx rfl (hb hby at_26) rfl ?_
          show Steps p.tables e below (s₁.setTop (mkF m 27 #[.val (.int p0), .val (.int p1), .val (.int mg), .val (.int (1 : Int32)), .unset, .unset, .unset, .unset, .unset, .unset] [(.int (-mg))])) _
          refine XS.goto X0.here hx rfl (pc0 := 27) (pc' := 31) rfl (hb hby at_27) (by decide) (by decide) ?_
          show Steps p.tables e below (s₁.setTop (mkF m 31 #[.val (.int p0), .val (.int p1), .val (.int mg), .val (.int (1 : Int32)), .unset, .unset, .unset, .unset, .unset, .unset] [(.int (-mg))])) _
          refine XS.istore X0.here hx rfl (hb hby at_31) rfl (l' := #[.val (.int p0), .val (.int p1), .val (.int mg), .val (.int (1 : Int32)), .val (.int (-mg)), .unset, .unset, .unset, .unset, .unset]) rfl ?_
          show Steps p.tables e below (s₁.setTop (mkF m 33 #[.val (.int p0), .val (.int p1), .val (.int mg), .val (.int (1 : Int32)), .val (.int (-mg)), .unset, .unset, .unset, .unset, .unset] [])) _
          refine XS.iloadN X0.here hx rfl (hb hby at_33) rfl ?_
          show Steps p.tables e below (s₁.setTop (mkF m 34 #[.val (.int p0), .val (.int p1), .val (.int mg), .val (.int (1 : Int32)), .val (.int (-mg)), .unset, .unset, .unset, .unset, .unset] [(.int mg)])) _
          refine XS.bipush X0.here hx rfl (hb hby at_34) ?_
          show Steps p.tables e below (s₁.setTop (mkF m 36 #[.val (.int p0), .val (.int p1), .val (.int mg), .val (.int (1 : Int32)), .val (.int (-mg)), .unset, .unset, .unset, .unset, .unset] [(.int (100 : Int32)), (.int mg)])) _
          refine XS.idiv X0.here hx rfl (hb hby at_36) rfl (by decide) ?_
          show Steps p.tables e below (s₁.setTop (mkF m 37 #[.val (.int p0), .val (.int p1), .val (.int mg), .val (.int (1 : Int32)), .val (.int (-mg)), .unset, .unset, .unset, .unset, .unset] [(.int (mg / (100 : Int32)))])) _
          refine XS.istore X0.here hx rfl (hb hby at_37) rfl (l' := #[.val (.int p0), .val (.int p1), .val (.int mg), .val (.int (1 : Int32)), .val (.int (-mg)), .val (.int (mg / (100 : Int32))), .unset, .unset, .unset, .unset]) rfl ?_
          show Steps p.tables e below (s₁.setTop (mkF m 39 #[.val (.int p0), .val (.int p1), .val (.int mg), .val (.int (1 : Int32)), .val (.int (-mg)), .val (.int (mg / (100 : Int32))), .unset, .unset, .unset, .unset] [])) _
          refine XS.iloadN X0.here hx rfl (hb hby at_39) rfl ?_
          show Steps p.tables e below (s₁.setTop (mkF m 40 #[.val (.int p0), .val (.int p1), .val (.int mg), .val (.int (1 : Int32)), .val (.int (-mg)), .val (.int (mg / (100 : Int32))), .unset, .unset, .unset, .unset] [(.int mg)])) _
          refine XS.bipush X0.here hx rfl (hb hby at_40) ?_
          show Steps p.tables e below (s₁.setTop (mkF m 42 #[.val (.int p0), .val (.int p1), .val (.int mg), .val (.int (1 : Int32)), .val (.int (-mg)), .val (.int (mg / (100 : Int32))), .unset, .unset, .unset, .unset] [(.int (100 : Int32)), (.int mg)])) _
          refine iremM X0 hx rfl (hb hby at_42) rfl (by decide) ?_
          show Steps p.tables e below (s₁.setTop (mkF m 43 #[.val (.int p0), .val (.int p1), .val (.int mg), .val (.int (1 : Int32)), .val (.int (-mg)), .val (.int (mg / (100 : Int32))), .unset, .unset, .unset, .unset] [(.int (mg % (100 : Int32)))])) _
          refine XS.istore X0.here hx rfl (hb hby at_43) rfl (l' := #[.val (.int p0), .val (.int p1), .val (.int mg), .val (.int (1 : Int32)), .val (.int (-mg)), .val (.int (mg / (100 : Int32))), .val (.int (mg % (100 : Int32))), .unset, .unset, .unset]) rfl ?_
          show Steps p.tables e below (s₁.setTop (mkF m 45 #[.val (.int p0), .val (.int p1), .val (.int mg), .val (.int (1 : Int32)), .val (.int (-mg)), .val (.int (mg / (100 : Int32))), .val (.int (mg % (100 : Int32))), .unset, .unset, .unset] [])) _
          refine XS.iload X0.here hx rfl (hb hby at_45) rfl ?_
          exact kt)
      by_cases hc13 : (0 : Int32) < (-mg)
      · skip
        have pre14 : ∀ t, Steps p.tables e below (s₁.setTop (mkF m 66 #[.val (.int p0), .val (.int p1), .val (.int mg), .val (.int (1 : Int32)), .val (.int (-mg)), .val (.int (mg / (100 : Int32))), .val (.int (mg % (100 : Int32))), .val (.int (1 : Int32)), .unset, .unset] [])) t → Steps p.tables e below (s₁.setTop (entryFrame m #[(.int p0), (.int p1)] maxLocals)) t := fun t kt => pre12 t (by
            show Steps p.tables e below (s₁.setTop (mkF m 47 #[.val (.int p0), .val (.int p1), .val (.int mg), .val (.int (1 : Int32)), .val (.int (-mg)), .val (.int (mg / (100 : Int32))), .val (.int (mg % (100 : Int32))), .unset, .unset, .unset] [(.int (-mg))])) _
            refine XS.ifNo X0.here hx rfl (hb hby at_47) rfl ((if0 _ _).trans (tlt hc13).2.2.2) ?_
            show Steps p.tables e below (s₁.setTop (mkF m 50 #[.val (.int p0), .val (.int p1), .val (.int mg), .val (.int (1 : Int32)), .val (.int (-mg)), .val (.int (mg / (100 : Int32))), .val (.int (mg % (100 : Int32))), .unset, .unset, .unset] [])) _
            refine XS.iconst X0.here hx rfl (hb hby at_50) ?_
            show Steps p.tables e below (s₁.setTop (mkF m 51 #[.val (.int p0), .val (.int p1), .val (.int mg), .val (.int (1 : Int32)), .val (.int (-mg)), .val (.int (mg / (100 : Int32))), .val (.int (mg % (100 : Int32))), .unset, .unset, .unset] [(.int (1 : Int32))])) _
            refine XS.goto X0.here hx rfl (pc0 := 51) (pc' := 64) rfl (hb hby at_51) (by decide) (by decide) ?_
            show Steps p.tables e below (s₁.setTop (mkF m 64 #[.val (.int p0), .val (.int p1), .val (.int mg), .val (.int (1 : Int32)), .val (.int (-mg)), .val (.int (mg / (100 : Int32))), .val (.int (mg % (100 : Int32))), .unset, .unset, .unset] [(.int (1 : Int32))])) _
            refine XS.istore X0.here hx rfl (hb hby at_64) rfl (l' := #[.val (.int p0), .val (.int p1), .val (.int mg), .val (.int (1 : Int32)), .val (.int (-mg)), .val (.int (mg / (100 : Int32))), .val (.int (mg % (100 : Int32))), .val (.int (1 : Int32)), .unset, .unset]) rfl ?_
            exact kt)
        exact kk2 ⟨(1 : Int32), (-mg), (mg / (100 : Int32)), (mg % (100 : Int32)), (1 : Int32), ⟨(own_sp hc13), own_neg hm0, rfl, rfl⟩, pre14⟩
      · skip
        have pre15 : ∀ t, Steps p.tables e below (s₁.setTop (mkF m 56 #[.val (.int p0), .val (.int p1), .val (.int mg), .val (.int (1 : Int32)), .val (.int (-mg)), .val (.int (mg / (100 : Int32))), .val (.int (mg % (100 : Int32))), .unset, .unset, .unset] [(.int (-mg))])) t → Steps p.tables e below (s₁.setTop (entryFrame m #[(.int p0), (.int p1)] maxLocals)) t := fun t kt => pre12 t (by
            show Steps p.tables e below (s₁.setTop (mkF m 47 #[.val (.int p0), .val (.int p1), .val (.int mg), .val (.int (1 : Int32)), .val (.int (-mg)), .val (.int (mg / (100 : Int32))), .val (.int (mg % (100 : Int32))), .unset, .unset, .unset] [(.int (-mg))])) _
            refine XS.ifYes X0.here hx rfl (pc0 := 47) (pc' := 54) rfl (hb hby at_47) rfl ((if0 _ _).trans (flt hc13).2.2.2) (by decide) (by decide) ?_
            show Steps p.tables e below (s₁.setTop (mkF m 54 #[.val (.int p0), .val (.int p1), .val (.int mg), .val (.int (1 : Int32)), .val (.int (-mg)), .val (.int (mg / (100 : Int32))), .val (.int (mg % (100 : Int32))), .unset, .unset, .unset] [])) _
            refine XS.iload X0.here hx rfl (hb hby at_54) rfl ?_
            exact kt)
        by_cases hc16 : (-mg) < (0 : Int32)
        · skip
          have pre17 : ∀ t, Steps p.tables e below (s₁.setTop (mkF m 66 #[.val (.int p0), .val (.int p1), .val (.int mg), .val (.int (1 : Int32)), .val (.int (-mg)), .val (.int (mg / (100 : Int32))), .val (.int (mg % (100 : Int32))), .val (.int (-1 : Int32)), .unset, .unset] [])) t → Steps p.tables e below (s₁.setTop (entryFrame m #[(.int p0), (.int p1)] maxLocals)) t := fun t kt => pre15 t (by
              show Steps p.tables e below (s₁.setTop (mkF m 56 #[.val (.int p0), .val (.int p1), .val (.int mg), .val (.int (1 : Int32)), .val (.int (-mg)), .val (.int (mg / (100 : Int32))), .val (.int (mg % (100 : Int32))), .unset, .unset, .unset] [(.int (-mg))])) _
              refine XS.ifNo X0.here hx rfl (hb hby at_56) rfl ((if0 _ _).trans (tlt hc16).2.1) ?_
              show Steps p.tables e below (s₁.setTop (mkF m 59 #[.val (.int p0), .val (.int p1), .val (.int mg), .val (.int (1 : Int32)), .val (.int (-mg)), .val (.int (mg / (100 : Int32))), .val (.int (mg % (100 : Int32))), .unset, .unset, .unset] [])) _
              refine XS.iconst X0.here hx rfl (hb hby at_59) ?_
              show Steps p.tables e below (s₁.setTop (mkF m 60 #[.val (.int p0), .val (.int p1), .val (.int mg), .val (.int (1 : Int32)), .val (.int (-mg)), .val (.int (mg / (100 : Int32))), .val (.int (mg % (100 : Int32))), .unset, .unset, .unset] [(.int (-1 : Int32))])) _
              refine XS.goto X0.here hx rfl (pc0 := 60) (pc' := 64) rfl (hb hby at_60) (by decide) (by decide) ?_
              show Steps p.tables e below (s₁.setTop (mkF m 64 #[.val (.int p0), .val (.int p1), .val (.int mg), .val (.int (1 : Int32)), .val (.int (-mg)), .val (.int (mg / (100 : Int32))), .val (.int (mg % (100 : Int32))), .unset, .unset, .unset] [(.int (-1 : Int32))])) _
              refine XS.istore X0.here hx rfl (hb hby at_64) rfl (l' := #[.val (.int p0), .val (.int p1), .val (.int mg), .val (.int (1 : Int32)), .val (.int (-mg)), .val (.int (mg / (100 : Int32))), .val (.int (mg % (100 : Int32))), .val (.int (-1 : Int32)), .unset, .unset]) rfl ?_
              exact kt)
          exact kk2 ⟨(1 : Int32), (-mg), (mg / (100 : Int32)), (mg % (100 : Int32)), (-1 : Int32), ⟨(own_sn hc16), own_neg hm0, rfl, rfl⟩, pre17⟩
        · skip
          have pre18 : ∀ t, Steps p.tables e below (s₁.setTop (mkF m 66 #[.val (.int p0), .val (.int p1), .val (.int mg), .val (.int (1 : Int32)), .val (.int (-mg)), .val (.int (mg / (100 : Int32))), .val (.int (mg % (100 : Int32))), .val (.int (0 : Int32)), .unset, .unset] [])) t → Steps p.tables e below (s₁.setTop (entryFrame m #[(.int p0), (.int p1)] maxLocals)) t := fun t kt => pre15 t (by
              show Steps p.tables e below (s₁.setTop (mkF m 56 #[.val (.int p0), .val (.int p1), .val (.int mg), .val (.int (1 : Int32)), .val (.int (-mg)), .val (.int (mg / (100 : Int32))), .val (.int (mg % (100 : Int32))), .unset, .unset, .unset] [(.int (-mg))])) _
              refine XS.ifYes X0.here hx rfl (pc0 := 56) (pc' := 63) rfl (hb hby at_56) rfl ((if0 _ _).trans (flt hc16).2.1) (by decide) (by decide) ?_
              show Steps p.tables e below (s₁.setTop (mkF m 63 #[.val (.int p0), .val (.int p1), .val (.int mg), .val (.int (1 : Int32)), .val (.int (-mg)), .val (.int (mg / (100 : Int32))), .val (.int (mg % (100 : Int32))), .unset, .unset, .unset] [])) _
              refine XS.iconst X0.here hx rfl (hb hby at_63) ?_
              show Steps p.tables e below (s₁.setTop (mkF m 64 #[.val (.int p0), .val (.int p1), .val (.int mg), .val (.int (1 : Int32)), .val (.int (-mg)), .val (.int (mg / (100 : Int32))), .val (.int (mg % (100 : Int32))), .unset, .unset, .unset] [(.int (0 : Int32))])) _
              refine XS.istore X0.here hx rfl (hb hby at_64) rfl (l' := #[.val (.int p0), .val (.int p1), .val (.int mg), .val (.int (1 : Int32)), .val (.int (-mg)), .val (.int (mg / (100 : Int32))), .val (.int (mg % (100 : Int32))), .val (.int (0 : Int32)), .unset, .unset]) rfl ?_
              exact kt)
          exact kk2 ⟨(1 : Int32), (-mg), (mg / (100 : Int32)), (mg % (100 : Int32)), (0 : Int32), ⟨(own_sz hc16), own_neg hm0, rfl, rfl⟩, pre18⟩
  · skip
    obtain ⟨ng, vv, ww, ff, sg, hrel, pre19⟩ := hA
    obtain ⟨hsg, hff, hw1, hf1⟩ := hrel
    have hwr : 0 ≤ ww.toInt ∧ ww.toInt < 100 := by rw [hw1]; exact own_d100 hm0
    have hfr : 0 ≤ ff.toInt ∧ ff.toInt < 100 := by rw [hf1]; exact own_r100 hm0
    rw [← hf1] at hff
    obtain ⟨T20, h20, X20, e20, E20, A20, D20, -, st20⟩ := newO X0 hx hZ hown (hw _ (List.mem_of_getElem? (i := 1) rfl)) (hw _ (List.mem_of_getElem? (i := 2) rfl)) (hw _ (List.mem_of_getElem? (i := 3) rfl)) e0 (g := (mkF m 66 #[.val (.int p0), .val (.int p1), .val (.int mg), .val (.int ng), .val (.int vv), .val (.int ww), .val (.int ff), .val (.int sg), .unset, .unset] [])) rfl (hb hby at_66) (by decide) (by decide)
    obtain ⟨b20, g20⟩ : ∃ z, z = h0.size := ⟨_, rfl⟩
    rw [← g20] at A20 D20 st20
    have Sn20 : Safe Z consts_1 s.vm h0 b20 := Safe.new (Nat.le_of_eq g20.symm)
    have CR20 := CHr.trans (CHr.refl H0) (CHr.ext E20 H0)
    have CH20 := CHv.ext E20 H0
    have f21 := (S_COMPACT_STRINGS_0.ext E20)
    have ge_b20 : n0 ≤ b20 := Nat.le_trans Z0 (Nat.le_of_eq g20.symm)
    have sz_b20 : h0.size ≤ b20 := Nat.le_trans (Keep.refl h0 []).1 (Nat.le_of_eq g20.symm)
    have K20 : Keep h0 h20 [] := Keep.ext (Keep.refl h0 []) E20
    have F20_sign : Fld Z h20 b20 "cartouche/mapping/Decimal" "sign" "I" (.int (0 : Int32)) := D20 (Or.inr (hw _ (List.mem_of_getElem? (i := 31) rfl))) (ty := .int) (by decide)
    have F20_whole : Fld Z h20 b20 "cartouche/mapping/Decimal" "whole" "Ljava/lang/String;" .null := D20 (Or.inr (hw _ (List.mem_of_getElem? (i := 33) rfl))) (ty := (.object "java/lang/String")) (by decide)
    have F20_fraction : Fld Z h20 b20 "cartouche/mapping/Decimal" "fraction" "Ljava/lang/String;" .null := D20 (Or.inr (hw _ (List.mem_of_getElem? (i := 35) rfl))) (ty := (.object "java/lang/String")) (by decide)
    obtain ⟨_, _, ⟨T22, L22, k22, n22⟩, -, X22, hSi22, hgr22, ⟨Lc22, hQ22, l22, y22, z22, hCq22⟩, st22⟩ := callSS X20 hx (y := (⟨"cartouche/mapping/DecimalIsCountPinLaw", "wholeDigits", "(I)Ljava/lang/String;"⟩ : MethodName)) hown (mvT hZ (hw _ (List.mem_of_getElem? (i := 4) rfl))) (mvT hZ (hw _ (List.mem_of_getElem? (i := 5) rfl))) (mvT hZ (hw _ (List.mem_of_getElem? (i := 6) rfl))) (mvT hZ (hw _ (List.mem_of_getElem? (i := 7) rfl))) (by decide) (backOfSH (W := 3) (rm1 l Z aw hw [] ww w_COMPACT_STRINGS_1 h20 n0 (Nat.le_trans Z0 E20.1) hwr f21 hne_1) hZ (hw _ (List.mem_of_getElem? (i := 7) rfl)) (hw _ (List.mem_of_getElem? (i := 6) rfl)) (by decide) (by decide) hEL CH20) (g := (mkF m 74 #[.val (.int p0), .val (.int p1), .val (.int mg), .val (.int ng), .val (.int vv), .val (.int ww), .val (.int ff), .val (.int sg), .unset, .unset] [(.int ww), (.int sg), (.ref b20), (.ref b20)])) rfl (by rw [hml]; rfl) (argsL := [(.int ww)]) (rest := [(.int sg), (.ref b20), (.ref b20)]) (lenOf pd_11 rfl) rfl (by show 2 * 0 + _ ≤ _; exact Nat.le_of_eq rfl) (hb hby at_74) (fun _ _ => ⟨rfl, e20, (by decide : 1 + 3 ≤ _), (by decide : 3 + 8 ≤ _)⟩)
    dsimp only [Pt.U, Pt.locs, Pt.cells, Pt.slots] at X22 l22 y22 z22 st22 hQ22 hSi22 hgr22 hCq22
    subst l22 y22 z22
    obtain ⟨Xr22, hS22, hZ22, hown22⟩ := rebS hS0 (by rw [e20]; exact (Nat.le_trans (Nat.zero_le _) E20.1)) X22 hSi22 hgr22 hZ hown
    have CR22 := CHr.trans CR20 hCq22
    obtain ⟨⟨r23, rfl, Pr23⟩, Nq22, c22_0⟩ := hQ22
    have N22 := Fr.app N0 Nq22
    have f24 := (own_sta_keep f21 c22_0 all0)
    have f25 := (A20.keep c22_0)
    have f26 := (F20_sign.keep c22_0 nin0)
    have f27 := (F20_whole.keep c22_0 nin0)
    have f28 := (F20_fraction.keep c22_0 nin0)
    have K29 : Keep h0 T22.heap [] := Keep.trans K20 c22_0 all0
    obtain ⟨_, _, ⟨T30, L30, k30, n30⟩, -, X30, hSi30, hgr30, ⟨Lc30, hQ30, l30, y30, z30, hCq30⟩, st30⟩ := callSS Xr22 hx (y := (⟨"cartouche/mapping/DecimalIsCountPinLaw", "fractionDigits", "(I)Ljava/lang/String;"⟩ : MethodName)) hown22 (mvT hZ22 (hw _ (List.mem_of_getElem? (i := 16) rfl))) (mvT hZ22 (hw _ (List.mem_of_getElem? (i := 17) rfl))) (mvT hZ22 (hw _ (List.mem_of_getElem? (i := 6) rfl))) (mvT hZ22 (hw _ (List.mem_of_getElem? (i := 18) rfl))) (by decide) (backOfSH (W := 4) (rm2 l Z aw hw [] ff w_COMPACT_STRINGS_1 T22.heap n0 (Nat.le_trans (Nat.le_trans Z0 E20.1) c22_0.1) hfr f24 hne_1) hZ22 (hw _ (List.mem_of_getElem? (i := 18) rfl)) (hw _ (List.mem_of_getElem? (i := 6) rfl)) (by decide) (by decide) hEL hCq22.1) (g := (mkF m 79 #[.val (.int p0), .val (.int p1), .val (.int mg), .val (.int ng), .val (.int vv), .val (.int ww), .val (.int ff), .val (.int sg), .unset, .unset] [(.int ff), (.ref r23), (.int sg), (.ref b20), (.ref b20)])) rfl (by rw [hml]; rfl) (argsL := [(.int ff)]) (rest := [(.ref r23), (.int sg), (.ref b20), (.ref b20)]) (lenOf pd_11 rfl) rfl (by show 2 * 0 + _ ≤ _; exact Nat.le_of_eq rfl) (hb hby at_79) (fun _ _ => ⟨rfl, rfl, (by decide : 4 + 3 ≤ _), (by decide : 11 + 8 ≤ _)⟩)
    dsimp only [Pt.U, Pt.locs, Pt.cells, Pt.slots] at X30 l30 y30 z30 st30 hQ30 hSi30 hgr30 hCq30
    subst l30 y30 z30
    obtain ⟨Xr30, hS30, hZ30, hown30⟩ := rebS hS22 (Nat.le_refl _) X30 hSi30 hgr30 hZ22 hown22
    have CR30 := CHr.trans CR22 hCq30
    obtain ⟨⟨r31, vb32, kb33, z34, vs35, rfl, m30_0, m30_1, m30_2, m30_3⟩, Nq30, c30_0⟩ := hQ30
    have N30 := Fr.app N22 Nq30
    have f36 := (own_sta_keep f24 c30_0 all0)
    have f37 := (f25.keep c30_0)
    have f38 := (f26.keep c30_0 nin0)
    have f39 := (f27.keep c30_0 nin0)
    have f40 := (f28.keep c30_0 nin0)
    have K41 : Keep h0 T30.heap [] := Keep.trans K29 c30_0 all0
    obtain ⟨_, _, ⟨T42, L42, k42, n42⟩, -, X42, ⟨Lc42, hQ42, l42, y42, z42⟩, st42⟩ := Xr30.specialBack hx (y := (⟨"cartouche/mapping/Decimal", "<init>", "(ILjava/lang/String;Ljava/lang/String;)V"⟩ : MethodName)) rfl hown30 (mvT hZ30 (hw _ (List.mem_of_getElem? (i := 19) rfl))) (mvT hZ30 (hw _ (List.mem_of_getElem? (i := 20) rfl))) (mvT hZ30 (hw _ (List.mem_of_getElem? (i := 21) rfl))) (by decide) (backOf (W := 1) (rm3 l Z aw hw [] b20 sg r23 r31 (.int (0 : Int32)) .null .null T30.heap n0 (Nat.le_trans (Nat.le_trans (Nat.le_trans Z0 E20.1) c22_0.1) c30_0.1) f37 f38 ge_b20 f39 f40) hZ30 (hw _ (List.mem_of_getElem? (i := 21) rfl)) (hw _ (List.mem_of_getElem? (i := 3) rfl)) (by decide) (by decide)) (g := (mkF m 82 #[.val (.int p0), .val (.int p1), .val (.int mg), .val (.int ng), .val (.int vv), .val (.int ww), .val (.int ff), .val (.int sg), .unset, .unset] [(.ref r31), (.ref r23), (.int sg), (.ref b20), (.ref b20)])) rfl (by rw [hml]; rfl) (Steps.refl _) (a := b20) (argsL := [(.int sg), (.ref r23), (.ref r31)]) (rest := [(.ref b20)]) (lenOf pd_12 rfl) rfl (by show 2 * 0 + _ ≤ _; exact Nat.le_of_eq rfl) (hb hby at_82) (fun _ _ => ⟨rfl, rfl, (by decide : 7 + 0 ≤ _), (by decide : 19 + 0 ≤ _)⟩)
    dsimp only [Pt.U, Pt.locs, Pt.cells, Pt.slots] at X42 l42 y42 z42 st42 hQ42
    subst l42 y42 z42
    obtain ⟨rfl, Nq42, c42_0, c42_1, c42_2, c42_3⟩ := hQ42
    have N42 := Fr.app N30 Nq42
    have hs43 : ∀ x ∈ [b20], Safe Z consts_1 T30.vm T30.heap x := (allS (show Safe Z consts_1 T30.vm T30.heap b20 from (CHr.safe hCq30 f25.lt (CHr.safe hCq22 A20.lt (Safe.ext E20 H0 Sn20)))) all0)
    have CR42 := CHr.trans CR30 (CHr.keep c42_0 hs43 hCq30.1)
    have CH42 := CHv.keep c42_0 hs43 hCq30.1
    have f44 := (own_sta_keep f36 c42_0 (allS (own_exa_ns f37) all0))
    have f45 := (f37.keep c42_0)
    have f46 := (m30_0.keep c42_0)
    have f47 := (m30_1.keep c42_0 (ninS (ne_exa m30_0 f37 (by decide)) nin0))
    have f48 := (m30_2.keep c42_0 (ninS (Ne.symm (Exa.neArv f37 m30_2 (hw _ (List.mem_of_getElem? (i := 2) rfl)))) nin0))
    have K49 : Keep h0 T42.heap [] := Keep.trans K41 c42_0 (allS (Or.inr sz_b20) all0)
    have pre50 : ∀ t, Steps p.tables e below (T42.setTop (mkF m 89 #[.val (.int p0), .val (.int p1), .val (.int mg), .val (.int ng), .val (.int vv), .val (.int ww), .val (.int ff), .val (.int sg), .val (.ref b20), .unset] [(.int vv)])) t → Steps p.tables e below (s₁.setTop (entryFrame m #[(.int p0), (.int p1)] maxLocals)) t := fun t kt => pre19 t (by
        show Steps p.tables e below (s₁.setTop (mkF m 66 #[.val (.int p0), .val (.int p1), .val (.int mg), .val (.int ng), .val (.int vv), .val (.int ww), .val (.int ff), .val (.int sg), .unset, .unset] [])) _
        refine st20 _ ?_
        show Steps p.tables e below (T20.setTop (mkF m 69 #[.val (.int p0), .val (.int p1), .val (.int mg), .val (.int ng), .val (.int vv), .val (.int ww), .val (.int ff), .val (.int sg), .unset, .unset] [(.ref b20)])) _
        refine XS.dup X20.here hx rfl (hb hby at_69) rfl rfl ?_
        show Steps p.tables e below (T20.setTop (mkF m 70 #[.val (.int p0), .val (.int p1), .val (.int mg), .val (.int ng), .val (.int vv), .val (.int ww), .val (.int ff), .val (.int sg), .unset, .unset] [(.ref b20), (.ref b20)])) _
        refine XS.iload X20.here hx rfl (hb hby at_70) rfl ?_
        show Steps p.tables e below (T20.setTop (mkF m 72 #[.val (.int p0), .val (.int p1), .val (.int mg), .val (.int ng), .val (.int vv), .val (.int ww), .val (.int ff), .val (.int sg), .unset, .unset] [(.int sg), (.ref b20), (.ref b20)])) _
        refine XS.iload X20.here hx rfl (hb hby at_72) rfl ?_
        show Steps p.tables e below (T20.setTop (mkF m 74 #[.val (.int p0), .val (.int p1), .val (.int mg), .val (.int ng), .val (.int vv), .val (.int ww), .val (.int ff), .val (.int sg), .unset, .unset] [(.int ww), (.int sg), (.ref b20), (.ref b20)])) _
        refine st22.trans ?_
        show Steps p.tables e below (T22.setTop (mkF m 77 #[.val (.int p0), .val (.int p1), .val (.int mg), .val (.int ng), .val (.int vv), .val (.int ww), .val (.int ff), .val (.int sg), .unset, .unset] [(.ref r23), (.int sg), (.ref b20), (.ref b20)])) _
        refine XS.iload Xr22.here hx rfl (hb hby at_77) rfl ?_
        show Steps p.tables e below (T22.setTop (mkF m 79 #[.val (.int p0), .val (.int p1), .val (.int mg), .val (.int ng), .val (.int vv), .val (.int ww), .val (.int ff), .val (.int sg), .unset, .unset] [(.int ff), (.ref r23), (.int sg), (.ref b20), (.ref b20)])) _
        refine st30.trans ?_
        show Steps p.tables e below (T30.setTop (mkF m 82 #[.val (.int p0), .val (.int p1), .val (.int mg), .val (.int ng), .val (.int vv), .val (.int ww), .val (.int ff), .val (.int sg), .unset, .unset] [(.ref r31), (.ref r23), (.int sg), (.ref b20), (.ref b20)])) _
        refine st42.trans ?_
        show Steps p.tables e below (T42.setTop (mkF m 85 #[.val (.int p0), .val (.int p1), .val (.int mg), .val (.int ng), .val (.int vv), .val (.int ww), .val (.int ff), .val (.int sg), .unset, .unset] [(.ref b20)])) _
        refine XS.astore X42.here hx rfl (hb hby at_85) rfl rfl (l' := #[.val (.int p0), .val (.int p1), .val (.int mg), .val (.int ng), .val (.int vv), .val (.int ww), .val (.int ff), .val (.int sg), .val (.ref b20), .unset]) rfl ?_
        show Steps p.tables e below (T42.setTop (mkF m 87 #[.val (.int p0), .val (.int p1), .val (.int mg), .val (.int ng), .val (.int vv), .val (.int ww), .val (.int ff), .val (.int sg), .val (.ref b20), .unset] [])) _
        refine XS.iload X42.here hx rfl (hb hby at_87) rfl ?_
        exact kt)
    by_cases hc51 : vv < (0 : Int32)
    · skip
      obtain ⟨cq52, kq52, q52a, q52b, q52c⟩ := isOf hZ30 rfl c42_1
      obtain ⟨_, _, ⟨T52, L52, k52, n52⟩, -, X52, ⟨Lc52, hQ52, l52, y52, z52⟩, st52⟩ := X42.virtualBack hx (y := (⟨"cartouche/mapping/Decimal", "isCount", "()Z"⟩ : MethodName)) (z := (⟨"cartouche/mapping/Decimal", "isCount", "()Z"⟩ : MethodName)) hown30 (mvT hZ30 (hw _ (List.mem_of_getElem? (i := 36) rfl))) (mvT hZ30 (hw _ (List.mem_of_getElem? (i := 37) rfl))) (notFace_of_selects (args := #[]) (mvT hZ30 (hw _ (List.mem_of_getElem? (i := 39) rfl)))) (mvT hZ30 (hw _ (List.mem_of_getElem? (i := 39) rfl))) (mvT hZ30 (hw _ (List.mem_of_getElem? (i := 38) rfl))) (by decide) (backOf (W := 0) (rm6 l Z aw hw [] b20 sg r31 vb32 kb33 z34 vs35 T42.heap n0 (Nat.le_trans (Nat.le_trans (Nat.le_trans (Nat.le_trans Z0 E20.1) c22_0.1) c30_0.1) c42_0.1) f46 f47 f48 c42_2 c42_3) hZ30 (hw _ (List.mem_of_getElem? (i := 40) rfl)) (hw _ (List.mem_of_getElem? (i := 3) rfl)) (by decide) (by decide)) q52a q52c (g := (mkF m 109 #[.val (.int p0), .val (.int p1), .val (.int mg), .val (.int ng), .val (.int vv), .val (.int ww), .val (.int ff), .val (.int sg), .val (.ref b20), .val (.int (0 : Int32))] [(.ref b20)])) rfl (by rw [hml]; rfl) (Steps.refl _) (argsL := []) (rest := []) (lenOf pd_8 rfl) rfl (by show 2 * 0 + _ ≤ _; exact Nat.le_of_eq rfl) (hb hby at_109) (fun _ _ => ⟨rfl, rfl, (by decide : 7 + 0 ≤ _), (by decide : 19 + 0 ≤ _)⟩)
      dsimp only [Pt.U, Pt.locs, Pt.cells, Pt.slots] at X52 l52 y52 z52 st52 hQ52
      subst l52 y52 z52
      obtain ⟨⟨r53, rfl, Pr53⟩, Nq52, e52⟩ := hQ52
      have N52 := Fr.app N42 Nq52
      have pre54 : ∀ t, Steps p.tables e below (T52.setTop (mkF m 112 #[.val (.int p0), .val (.int p1), .val (.int mg), .val (.int ng), .val (.int vv), .val (.int ww), .val (.int ff), .val (.int sg), .val (.ref b20), .val (.int (0 : Int32))] [(.int r53)])) t → Steps p.tables e below (s₁.setTop (entryFrame m #[(.int p0), (.int p1)] maxLocals)) t := fun t kt => pre50 t (by
          show Steps p.tables e below (T42.setTop (mkF m 89 #[.val (.int p0), .val (.int p1), .val (.int mg), .val (.int ng), .val (.int vv), .val (.int ww), .val (.int ff), .val (.int sg), .val (.ref b20), .unset] [(.int vv)])) _
          refine XS.ifYes X42.here hx rfl (pc0 := 89) (pc' := 104) rfl (hb hby at_89) rfl ((if0 _ _).trans (tlt hc51).1) (by decide) (by decide) ?_
          show Steps p.tables e below (T42.setTop (mkF m 104 #[.val (.int p0), .val (.int p1), .val (.int mg), .val (.int ng), .val (.int vv), .val (.int ww), .val (.int ff), .val (.int sg), .val (.ref b20), .unset] [])) _
          refine XS.iconst X42.here hx rfl (hb hby at_104) ?_
          show Steps p.tables e below (T42.setTop (mkF m 105 #[.val (.int p0), .val (.int p1), .val (.int mg), .val (.int ng), .val (.int vv), .val (.int ww), .val (.int ff), .val (.int sg), .val (.ref b20), .unset] [(.int (0 : Int32))])) _
          refine XS.istore X42.here hx rfl (hb hby at_105) rfl (l' := #[.val (.int p0), .val (.int p1), .val (.int mg), .val (.int ng), .val (.int vv), .val (.int ww), .val (.int ff), .val (.int sg), .val (.ref b20), .val (.int (0 : Int32))]) rfl ?_
          show Steps p.tables e below (T42.setTop (mkF m 107 #[.val (.int p0), .val (.int p1), .val (.int mg), .val (.int ng), .val (.int vv), .val (.int ww), .val (.int ff), .val (.int sg), .val (.ref b20), .val (.int (0 : Int32))] [])) _
          refine XS.aload X42.here hx rfl (hb hby at_107) rfl rfl ?_
          show Steps p.tables e below (T42.setTop (mkF m 109 #[.val (.int p0), .val (.int p1), .val (.int mg), .val (.int ng), .val (.int vv), .val (.int ww), .val (.int ff), .val (.int sg), .val (.ref b20), .val (.int (0 : Int32))] [(.ref b20)])) _
          refine st52.trans ?_
          exact kt)
      obtain rfl : (0 : Int32) = r53 := Pr53.1 (hsg.1 hc51)
      have pre55 : ∀ t, Steps p.tables e below (T52.setTop (mkF m 122 #[.val (.int p0), .val (.int p1), .val (.int mg), .val (.int ng), .val (.int vv), .val (.int ww), .val (.int ff), .val (.int sg), .val (.ref b20), .val (.int (0 : Int32))] [(.int (1 : Int32))])) t → Steps p.tables e below (s₁.setTop (entryFrame m #[(.int p0), (.int p1)] maxLocals)) t := fun t kt => pre54 t (by
          show Steps p.tables e below (T52.setTop (mkF m 112 #[.val (.int p0), .val (.int p1), .val (.int mg), .val (.int ng), .val (.int vv), .val (.int ww), .val (.int ff), .val (.int sg), .val (.ref b20), .val (.int (0 : Int32))] [(.int (0 : Int32))])) _
          refine XS.iload X52.here hx rfl (hb hby at_112) rfl ?_
          show Steps p.tables e below (T52.setTop (mkF m 114 #[.val (.int p0), .val (.int p1), .val (.int mg), .val (.int ng), .val (.int vv), .val (.int ww), .val (.int ff), .val (.int sg), .val (.ref b20), .val (.int (0 : Int32))] [(.int (0 : Int32)), (.int (0 : Int32))])) _
          refine XS.icmpNo X52.here hx rfl (hb hby at_114) rfl (teq (rfl : (0 : Int32) = (0 : Int32))).2 ?_
          show Steps p.tables e below (T52.setTop (mkF m 117 #[.val (.int p0), .val (.int p1), .val (.int mg), .val (.int ng), .val (.int vv), .val (.int ww), .val (.int ff), .val (.int sg), .val (.ref b20), .val (.int (0 : Int32))] [])) _
          refine XS.iconst X52.here hx rfl (hb hby at_117) ?_
          show Steps p.tables e below (T52.setTop (mkF m 118 #[.val (.int p0), .val (.int p1), .val (.int mg), .val (.int ng), .val (.int vv), .val (.int ww), .val (.int ff), .val (.int sg), .val (.ref b20), .val (.int (0 : Int32))] [(.int (1 : Int32))])) _
          refine XS.goto X52.here hx rfl (pc0 := 118) (pc' := 122) rfl (hb hby at_118) (by decide) (by decide) ?_
          exact kt)
      obtain ⟨fs, hr, hrun, hended, hRE⟩ := X52.leaveW hS30 (by rw [e52]; exact (Nat.le_trans (Nat.le_refl _) c42_0.1)) (v := some (.int (1 : Int32))) (fun h => by rw [Bd.returns] at h; cases h)
      have hCR : CHr Z consts_1 s.vm s.heap T52.vm T52.heap := by rw [e52, hh]; exact CHr.trans CR42 (CHv.at X52 hZ30 hEL CH42)
      refine ⟨_, _, pre55 _ ?_, hrun, hended, _, _, rfl, ?_, hCR, own_mono hRE (by decide) (by decide)⟩
      · show Steps p.tables e below (T52.setTop (mkF m 122 #[.val (.int p0), .val (.int p1), .val (.int mg), .val (.int ng), .val (.int vv), .val (.int ww), .val (.int ff), .val (.int sg), .val (.ref b20), .val (.int (0 : Int32))] [(.int (1 : Int32))])) _
        exact retN X52 hx (t := .boolean) Bd.returns (by simp) (hb hby at_122) hr
      · show Q0 Z _ _ _ h0 n0 _ T52.heap _
        rw [e52]
        exact ⟨rfl, N52, trivial⟩
    · skip
      have pre56 : ∀ t, Steps p.tables e below (T42.setTop (mkF m 97 #[.val (.int p0), .val (.int p1), .val (.int mg), .val (.int ng), .val (.int vv), .val (.int ww), .val (.int ff), .val (.int sg), .val (.ref b20), .unset] [(.int (vv % (100 : Int32)))])) t → Steps p.tables e below (s₁.setTop (entryFrame m #[(.int p0), (.int p1)] maxLocals)) t := fun t kt => pre50 t (by
          show Steps p.tables e below (T42.setTop (mkF m 89 #[.val (.int p0), .val (.int p1), .val (.int mg), .val (.int ng), .val (.int vv), .val (.int ww), .val (.int ff), .val (.int sg), .val (.ref b20), .unset] [(.int vv)])) _
          refine XS.ifNo X42.here hx rfl (hb hby at_89) rfl ((if0 _ _).trans (flt hc51).1) ?_
          show Steps p.tables e below (T42.setTop (mkF m 92 #[.val (.int p0), .val (.int p1), .val (.int mg), .val (.int ng), .val (.int vv), .val (.int ww), .val (.int ff), .val (.int sg), .val (.ref b20), .unset] [])) _
          refine XS.iload X42.here hx rfl (hb hby at_92) rfl ?_
          show Steps p.tables e below (T42.setTop (mkF m 94 #[.val (.int p0), .val (.int p1), .val (.int mg), .val (.int ng), .val (.int vv), .val (.int ww), .val (.int ff), .val (.int sg), .val (.ref b20), .unset] [(.int vv)])) _
          refine XS.bipush X42.here hx rfl (hb hby at_94) ?_
          show Steps p.tables e below (T42.setTop (mkF m 96 #[.val (.int p0), .val (.int p1), .val (.int mg), .val (.int ng), .val (.int vv), .val (.int ww), .val (.int ff), .val (.int sg), .val (.ref b20), .unset] [(.int (100 : Int32)), (.int vv)])) _
          refine iremM X42 hx rfl (hb hby at_96) rfl (by decide) ?_
          exact kt)
      by_cases hc57 : (vv % (100 : Int32)) = (0 : Int32)
      · skip
        obtain ⟨cq58, kq58, q58a, q58b, q58c⟩ := isOf hZ30 rfl c42_1
        obtain ⟨_, _, ⟨T58, L58, k58, n58⟩, -, X58, ⟨Lc58, hQ58, l58, y58, z58⟩, st58⟩ := X42.virtualBack hx (y := (⟨"cartouche/mapping/Decimal", "isCount", "()Z"⟩ : MethodName)) (z := (⟨"cartouche/mapping/Decimal", "isCount", "()Z"⟩ : MethodName)) hown30 (mvT hZ30 (hw _ (List.mem_of_getElem? (i := 36) rfl))) (mvT hZ30 (hw _ (List.mem_of_getElem? (i := 37) rfl))) (notFace_of_selects (args := #[]) (mvT hZ30 (hw _ (List.mem_of_getElem? (i := 39) rfl)))) (mvT hZ30 (hw _ (List.mem_of_getElem? (i := 39) rfl))) (mvT hZ30 (hw _ (List.mem_of_getElem? (i := 38) rfl))) (by decide) (backOf (W := 0) (rm6 l Z aw hw [] b20 sg r31 vb32 kb33 z34 vs35 T42.heap n0 (Nat.le_trans (Nat.le_trans (Nat.le_trans (Nat.le_trans Z0 E20.1) c22_0.1) c30_0.1) c42_0.1) f46 f47 f48 c42_2 c42_3) hZ30 (hw _ (List.mem_of_getElem? (i := 40) rfl)) (hw _ (List.mem_of_getElem? (i := 3) rfl)) (by decide) (by decide)) q58a q58c (g := (mkF m 109 #[.val (.int p0), .val (.int p1), .val (.int mg), .val (.int ng), .val (.int vv), .val (.int ww), .val (.int ff), .val (.int sg), .val (.ref b20), .val (.int (1 : Int32))] [(.ref b20)])) rfl (by rw [hml]; rfl) (Steps.refl _) (argsL := []) (rest := []) (lenOf pd_8 rfl) rfl (by show 2 * 0 + _ ≤ _; exact Nat.le_of_eq rfl) (hb hby at_109) (fun _ _ => ⟨rfl, rfl, (by decide : 7 + 0 ≤ _), (by decide : 19 + 0 ≤ _)⟩)
        dsimp only [Pt.U, Pt.locs, Pt.cells, Pt.slots] at X58 l58 y58 z58 st58 hQ58
        subst l58 y58 z58
        obtain ⟨⟨r59, rfl, Pr59⟩, Nq58, e58⟩ := hQ58
        have N58 := Fr.app N42 Nq58
        have pre60 : ∀ t, Steps p.tables e below (T58.setTop (mkF m 112 #[.val (.int p0), .val (.int p1), .val (.int mg), .val (.int ng), .val (.int vv), .val (.int ww), .val (.int ff), .val (.int sg), .val (.ref b20), .val (.int (1 : Int32))] [(.int r59)])) t → Steps p.tables e below (s₁.setTop (entryFrame m #[(.int p0), (.int p1)] maxLocals)) t := fun t kt => pre56 t (by
            show Steps p.tables e below (T42.setTop (mkF m 97 #[.val (.int p0), .val (.int p1), .val (.int mg), .val (.int ng), .val (.int vv), .val (.int ww), .val (.int ff), .val (.int sg), .val (.ref b20), .unset] [(.int (vv % (100 : Int32)))])) _
            refine XS.ifNo X42.here hx rfl (hb hby at_97) rfl ((if0 _ _).trans (teq hc57).2) ?_
            show Steps p.tables e below (T42.setTop (mkF m 100 #[.val (.int p0), .val (.int p1), .val (.int mg), .val (.int ng), .val (.int vv), .val (.int ww), .val (.int ff), .val (.int sg), .val (.ref b20), .unset] [])) _
            refine XS.iconst X42.here hx rfl (hb hby at_100) ?_
            show Steps p.tables e below (T42.setTop (mkF m 101 #[.val (.int p0), .val (.int p1), .val (.int mg), .val (.int ng), .val (.int vv), .val (.int ww), .val (.int ff), .val (.int sg), .val (.ref b20), .unset] [(.int (1 : Int32))])) _
            refine XS.goto X42.here hx rfl (pc0 := 101) (pc' := 105) rfl (hb hby at_101) (by decide) (by decide) ?_
            show Steps p.tables e below (T42.setTop (mkF m 105 #[.val (.int p0), .val (.int p1), .val (.int mg), .val (.int ng), .val (.int vv), .val (.int ww), .val (.int ff), .val (.int sg), .val (.ref b20), .unset] [(.int (1 : Int32))])) _
            refine XS.istore X42.here hx rfl (hb hby at_105) rfl (l' := #[.val (.int p0), .val (.int p1), .val (.int mg), .val (.int ng), .val (.int vv), .val (.int ww), .val (.int ff), .val (.int sg), .val (.ref b20), .val (.int (1 : Int32))]) rfl ?_
            show Steps p.tables e below (T42.setTop (mkF m 107 #[.val (.int p0), .val (.int p1), .val (.int mg), .val (.int ng), .val (.int vv), .val (.int ww), .val (.int ff), .val (.int sg), .val (.ref b20), .val (.int (1 : Int32))] [])) _
            refine XS.aload X42.here hx rfl (hb hby at_107) rfl rfl ?_
            show Steps p.tables e below (T42.setTop (mkF m 109 #[.val (.int p0), .val (.int p1), .val (.int mg), .val (.int ng), .val (.int vv), .val (.int ww), .val (.int ff), .val (.int sg), .val (.ref b20), .val (.int (1 : Int32))] [(.ref b20)])) _
            refine st58.trans ?_
            exact kt)
        obtain rfl : (1 : Int32) = r59 := Pr59.2.1 (hsg.2 hc51) (m30_3.1 (hff.mp hc57))
        have pre61 : ∀ t, Steps p.tables e below (T58.setTop (mkF m 122 #[.val (.int p0), .val (.int p1), .val (.int mg), .val (.int ng), .val (.int vv), .val (.int ww), .val (.int ff), .val (.int sg), .val (.ref b20), .val (.int (1 : Int32))] [(.int (1 : Int32))])) t → Steps p.tables e below (s₁.setTop (entryFrame m #[(.int p0), (.int p1)] maxLocals)) t := fun t kt => pre60 t (by
            show Steps p.tables e below (T58.setTop (mkF m 112 #[.val (.int p0), .val (.int p1), .val (.int mg), .val (.int ng), .val (.int vv), .val (.int ww), .val (.int ff), .val (.int sg), .val (.ref b20), .val (.int (1 : Int32))] [(.int (1 : Int32))])) _
            refine XS.iload X58.here hx rfl (hb hby at_112) rfl ?_
            show Steps p.tables e below (T58.setTop (mkF m 114 #[.val (.int p0), .val (.int p1), .val (.int mg), .val (.int ng), .val (.int vv), .val (.int ww), .val (.int ff), .val (.int sg), .val (.ref b20), .val (.int (1 : Int32))] [(.int (1 : Int32)), (.int (1 : Int32))])) _
            refine XS.icmpNo X58.here hx rfl (hb hby at_114) rfl (teq (rfl : (1 : Int32) = (1 : Int32))).2 ?_
            show Steps p.tables e below (T58.setTop (mkF m 117 #[.val (.int p0), .val (.int p1), .val (.int mg), .val (.int ng), .val (.int vv), .val (.int ww), .val (.int ff), .val (.int sg), .val (.ref b20), .val (.int (1 : Int32))] [])) _
            refine XS.iconst X58.here hx rfl (hb hby at_117) ?_
            show Steps p.tables e below (T58.setTop (mkF m 118 #[.val (.int p0), .val (.int p1), .val (.int mg), .val (.int ng), .val (.int vv), .val (.int ww), .val (.int ff), .val (.int sg), .val (.ref b20), .val (.int (1 : Int32))] [(.int (1 : Int32))])) _
            refine XS.goto X58.here hx rfl (pc0 := 118) (pc' := 122) rfl (hb hby at_118) (by decide) (by decide) ?_
            exact kt)
        obtain ⟨fs, hr, hrun, hended, hRE⟩ := X58.leaveW hS30 (by rw [e58]; exact (Nat.le_trans (Nat.le_refl _) c42_0.1)) (v := some (.int (1 : Int32))) (fun h => by rw [Bd.returns] at h; cases h)
        have hCR : CHr Z consts_1 s.vm s.heap T58.vm T58.heap := by rw [e58, hh]; exact CHr.trans CR42 (CHv.at X58 hZ30 hEL CH42)
        refine ⟨_, _, pre61 _ ?_, hrun, hended, _, _, rfl, ?_, hCR, own_mono hRE (by decide) (by decide)⟩
        · show Steps p.tables e below (T58.setTop (mkF m 122 #[.val (.int p0), .val (.int p1), .val (.int mg), .val (.int ng), .val (.int vv), .val (.int ww), .val (.int ff), .val (.int sg), .val (.ref b20), .val (.int (1 : Int32))] [(.int (1 : Int32))])) _
          exact retN X58 hx (t := .boolean) Bd.returns (by simp) (hb hby at_122) hr
        · show Q0 Z _ _ _ h0 n0 _ T58.heap _
          rw [e58]
          exact ⟨rfl, N58, trivial⟩
      · skip
        obtain ⟨cq62, kq62, q62a, q62b, q62c⟩ := isOf hZ30 rfl c42_1
        obtain ⟨_, _, ⟨T62, L62, k62, n62⟩, -, X62, ⟨Lc62, hQ62, l62, y62, z62⟩, st62⟩ := X42.virtualBack hx (y := (⟨"cartouche/mapping/Decimal", "isCount", "()Z"⟩ : MethodName)) (z := (⟨"cartouche/mapping/Decimal", "isCount", "()Z"⟩ : MethodName)) hown30 (mvT hZ30 (hw _ (List.mem_of_getElem? (i := 36) rfl))) (mvT hZ30 (hw _ (List.mem_of_getElem? (i := 37) rfl))) (notFace_of_selects (args := #[]) (mvT hZ30 (hw _ (List.mem_of_getElem? (i := 39) rfl)))) (mvT hZ30 (hw _ (List.mem_of_getElem? (i := 39) rfl))) (mvT hZ30 (hw _ (List.mem_of_getElem? (i := 38) rfl))) (by decide) (backOf (W := 0) (rm6 l Z aw hw [] b20 sg r31 vb32 kb33 z34 vs35 T42.heap n0 (Nat.le_trans (Nat.le_trans (Nat.le_trans (Nat.le_trans Z0 E20.1) c22_0.1) c30_0.1) c42_0.1) f46 f47 f48 c42_2 c42_3) hZ30 (hw _ (List.mem_of_getElem? (i := 40) rfl)) (hw _ (List.mem_of_getElem? (i := 3) rfl)) (by decide) (by decide)) q62a q62c (g := (mkF m 109 #[.val (.int p0), .val (.int p1), .val (.int mg), .val (.int ng), .val (.int vv), .val (.int ww), .val (.int ff), .val (.int sg), .val (.ref b20), .val (.int (0 : Int32))] [(.ref b20)])) rfl (by rw [hml]; rfl) (Steps.refl _) (argsL := []) (rest := []) (lenOf pd_8 rfl) rfl (by show 2 * 0 + _ ≤ _; exact Nat.le_of_eq rfl) (hb hby at_109) (fun _ _ => ⟨rfl, rfl, (by decide : 7 + 0 ≤ _), (by decide : 19 + 0 ≤ _)⟩)
        dsimp only [Pt.U, Pt.locs, Pt.cells, Pt.slots] at X62 l62 y62 z62 st62 hQ62
        subst l62 y62 z62
        obtain ⟨⟨r63, rfl, Pr63⟩, Nq62, e62⟩ := hQ62
        have N62 := Fr.app N42 Nq62
        have pre64 : ∀ t, Steps p.tables e below (T62.setTop (mkF m 112 #[.val (.int p0), .val (.int p1), .val (.int mg), .val (.int ng), .val (.int vv), .val (.int ww), .val (.int ff), .val (.int sg), .val (.ref b20), .val (.int (0 : Int32))] [(.int r63)])) t → Steps p.tables e below (s₁.setTop (entryFrame m #[(.int p0), (.int p1)] maxLocals)) t := fun t kt => pre56 t (by
            show Steps p.tables e below (T42.setTop (mkF m 97 #[.val (.int p0), .val (.int p1), .val (.int mg), .val (.int ng), .val (.int vv), .val (.int ww), .val (.int ff), .val (.int sg), .val (.ref b20), .unset] [(.int (vv % (100 : Int32)))])) _
            refine XS.ifYes X42.here hx rfl (pc0 := 97) (pc' := 104) rfl (hb hby at_97) rfl ((if0 _ _).trans (feq hc57).2) (by decide) (by decide) ?_
            show Steps p.tables e below (T42.setTop (mkF m 104 #[.val (.int p0), .val (.int p1), .val (.int mg), .val (.int ng), .val (.int vv), .val (.int ww), .val (.int ff), .val (.int sg), .val (.ref b20), .unset] [])) _
            refine XS.iconst X42.here hx rfl (hb hby at_104) ?_
            show Steps p.tables e below (T42.setTop (mkF m 105 #[.val (.int p0), .val (.int p1), .val (.int mg), .val (.int ng), .val (.int vv), .val (.int ww), .val (.int ff), .val (.int sg), .val (.ref b20), .unset] [(.int (0 : Int32))])) _
            refine XS.istore X42.here hx rfl (hb hby at_105) rfl (l' := #[.val (.int p0), .val (.int p1), .val (.int mg), .val (.int ng), .val (.int vv), .val (.int ww), .val (.int ff), .val (.int sg), .val (.ref b20), .val (.int (0 : Int32))]) rfl ?_
            show Steps p.tables e below (T42.setTop (mkF m 107 #[.val (.int p0), .val (.int p1), .val (.int mg), .val (.int ng), .val (.int vv), .val (.int ww), .val (.int ff), .val (.int sg), .val (.ref b20), .val (.int (0 : Int32))] [])) _
            refine XS.aload X42.here hx rfl (hb hby at_107) rfl rfl ?_
            show Steps p.tables e below (T42.setTop (mkF m 109 #[.val (.int p0), .val (.int p1), .val (.int mg), .val (.int ng), .val (.int vv), .val (.int ww), .val (.int ff), .val (.int sg), .val (.ref b20), .val (.int (0 : Int32))] [(.ref b20)])) _
            refine st62.trans ?_
            exact kt)
        obtain rfl : (0 : Int32) = r63 := Pr63.2.2 (hsg.2 hc51) (m30_3.2 (fun q => hc57 (hff.mpr q)))
        have pre65 : ∀ t, Steps p.tables e below (T62.setTop (mkF m 122 #[.val (.int p0), .val (.int p1), .val (.int mg), .val (.int ng), .val (.int vv), .val (.int ww), .val (.int ff), .val (.int sg), .val (.ref b20), .val (.int (0 : Int32))] [(.int (1 : Int32))])) t → Steps p.tables e below (s₁.setTop (entryFrame m #[(.int p0), (.int p1)] maxLocals)) t := fun t kt => pre64 t (by
            show Steps p.tables e below (T62.setTop (mkF m 112 #[.val (.int p0), .val (.int p1), .val (.int mg), .val (.int ng), .val (.int vv), .val (.int ww), .val (.int ff), .val (.int sg), .val (.ref b20), .val (.int (0 : Int32))] [(.int (0 : Int32))])) _
            refine XS.iload X62.here hx rfl (hb hby at_112) rfl ?_
            show Steps p.tables e below (T62.setTop (mkF m 114 #[.val (.int p0), .val (.int p1), .val (.int mg), .val (.int ng), .val (.int vv), .val (.int ww), .val (.int ff), .val (.int sg), .val (.ref b20), .val (.int (0 : Int32))] [(.int (0 : Int32)), (.int (0 : Int32))])) _
            refine XS.icmpNo X62.here hx rfl (hb hby at_114) rfl (teq (rfl : (0 : Int32) = (0 : Int32))).2 ?_
            show Steps p.tables e below (T62.setTop (mkF m 117 #[.val (.int p0), .val (.int p1), .val (.int mg), .val (.int ng), .val (.int vv), .val (.int ww), .val (.int ff), .val (.int sg), .val (.ref b20), .val (.int (0 : Int32))] [])) _
            refine XS.iconst X62.here hx rfl (hb hby at_117) ?_
            show Steps p.tables e below (T62.setTop (mkF m 118 #[.val (.int p0), .val (.int p1), .val (.int mg), .val (.int ng), .val (.int vv), .val (.int ww), .val (.int ff), .val (.int sg), .val (.ref b20), .val (.int (0 : Int32))] [(.int (1 : Int32))])) _
            refine XS.goto X62.here hx rfl (pc0 := 118) (pc' := 122) rfl (hb hby at_118) (by decide) (by decide) ?_
            exact kt)
        obtain ⟨fs, hr, hrun, hended, hRE⟩ := X62.leaveW hS30 (by rw [e62]; exact (Nat.le_trans (Nat.le_refl _) c42_0.1)) (v := some (.int (1 : Int32))) (fun h => by rw [Bd.returns] at h; cases h)
        have hCR : CHr Z consts_1 s.vm s.heap T62.vm T62.heap := by rw [e62, hh]; exact CHr.trans CR42 (CHv.at X62 hZ30 hEL CH42)
        refine ⟨_, _, pre65 _ ?_, hrun, hended, _, _, rfl, ?_, hCR, own_mono hRE (by decide) (by decide)⟩
        · show Steps p.tables e below (T62.setTop (mkF m 122 #[.val (.int p0), .val (.int p1), .val (.int mg), .val (.int ng), .val (.int vv), .val (.int ww), .val (.int ff), .val (.int sg), .val (.ref b20), .val (.int (0 : Int32))] [(.int (1 : Int32))])) _
          exact retN X62 hx (t := .boolean) Bd.returns (by simp) (hb hby at_122) hr
        · show Q0 Z _ _ _ h0 n0 _ T62.heap _
          rw [e62]
          exact ⟨rfl, N62, trivial⟩
set_option maxRecDepth 65536 in
set_option maxHeartbeats 40000000 in
theorem comes_1 {Post : Tables → Env → Array Value → State → Outcome → State → Prop} (hpost : ∀ tb e args s v u, (limb_1_1.after args s (.returned v) u = true ∧ limb_1_2.after args s (.returned v) u = true ∧ True) → ReturnedEndW s (.returned v) u (Jvm.fieldLocs frame_1_writes args s ++ Jvm.arrayLocs frame_1_arrays args s ++ Jvm.staticLocs frame_1_statics s) 24 1152 → Post tb e args s (.returned v) u) :
    ArmFor flags0 classFile x code maxLocals ret World_1 tables_1 room_1 Calls_1 rest_1 Pre_1 Post := by
  intro l hfl _ _ p e ha hc hk s m args below hf hA hF happ hP
  obtain ⟨hcalls, hrest, hpre⟩ := hP
  obtain ⟨-, -, -, hnamed, -, -, -, hat⟩ := (Spec.applies_iff hf).mp happ
  obtain ⟨hg, hn⟩ := and_e (Cond.before_iff.mp (show (Jvm.Cond.and given_1 narrow_1).before args s = true from hpre))
  obtain ⟨hg0, hgr0⟩ := and_e hg
  obtain ⟨hg1, hgr1⟩ := and_e hgr0
  obtain ⟨w0, w1, rfl⟩ : ∃ w0 w1 : Value, args = #[w0, w1] := by
    have hs : args.size = 2 := by simpa [Cond.value, given_1] using hg0
    obtain ⟨L⟩ := args
    match L, hs with
    | [w0, w1], _ => exact ⟨w0, w1, rfl⟩
  have hw := fun d (hd : d ∈ tables_1) => atoms_spec (ws := Jvm.Cond.code x code maxLocals ret :: tables_1) hat d (List.mem_cons_of_mem _ hd)
  have hfit : Fit s := fun {y c} hc i hi => by
    obtain ⟨ha, rfl⟩ := Array.getElem?_eq_some_iff.mp hc
    have q := List.all_eq_true.mp ((Array.all_eq_true_iff_forall_mem.mp hF) _ (Array.getElem_mem ha)) i (List.mem_range.mpr hi)
    simpa [Array.getElem?_eq_getElem hi] using q
  obtain ⟨hsets, hown0⟩ := atoms_of _ (rest_1_c_eq ▸ (show rest_1_c.before _ s = true from hrest))
  obtain ⟨i0, ei0⟩ := is_v hg1
  obtain rfl : w0 = (.int i0) := Option.some.inj ei0
  obtain ⟨i1, ei1⟩ := is_v hgr1
  obtain rfl : w1 = (.int i1) := Option.some.inj ei1
  obtain ⟨w_COMPACT_STRINGS_1, ev2⟩ := is_v (Cond.before_iff.mp (hsets _ (List.mem_of_getElem? (i := 1) rfl)))
  have S_COMPACT_STRINGS_0 : Sta s s.heap "java/lang/String" "COMPACT_STRINGS" "Z" (.int w_COMPACT_STRINGS_1) := Sta.start ev2 (Or.inl (hsets _ (List.mem_of_getElem? (i := 0) rfl)))
  have hne_1 : ¬ w_COMPACT_STRINGS_1 = (0 : Int32) := own_neI (Cond.before_iff.mp (hsets _ (List.mem_of_getElem? (i := 2) rfl))) ev2
  have hCH : CHv s consts_1 s.vm s.heap := CHv.start (own_EW hw) hcalls.1 (hsets _ (List.mem_of_getElem? (i := 2) rfl)) (hw _ (List.mem_of_getElem? (i := 11) rfl)) (hw _ (List.mem_of_getElem? (i := 10) rfl))
  obtain ⟨n, o, h1, h2, h3, _, L, rfl, ⟨rfl, N, -⟩, -, hq⟩ := rm0 l s _ hw tables_1 i0 i1 w_COMPACT_STRINGS_1 s.heap s.heap.size (Nat.le_refl _) S_COMPACT_STRINGS_0 hne_1 p e ha hc hk s m _ below hf ((Spec.applies_iff_loose hf).mp happ).1 ⟨rfl, State.Warmed39.refl s, rfl, hCH⟩ trivial
  refine ⟨n, _, h1, h2, h3, hpost _ _ _ _ _ _ ⟨Cond.after_iff.mpr rfl, Cond.after_iff.mpr (eq_i res_at (Term.int_eval (1)) rfl), trivial⟩ ⟨hq.1, hq.2.1, hq.2.2.1, (hq.2.2.2.sift fun y hy => Or.inr (N y hy)).mono (by decide) (by decide)⟩⟩
theorem main_1_1 : Claimed_1_1 := comes_1 fun _ _ _ _ _ _ h hF => ⟨h.1, hF⟩
theorem main_1_2 : Claimed_1_2 := comes_1 fun _ _ _ _ _ _ h hF => ⟨h.2.1, hF⟩
end Jvm.Pilot.@@N@@
namespace Jvm.Pilot.@@N@@
open Jvm Jvm.ClassFile Sem Op Lib Jvm.Free Jvm.Stand Jvm.Pilot.@@N@@.Jvm.D
/-! MADE BY PROGRAM (witnessworld.py) out of the Statement's table words and the real class files: 21 classes; the members and pool entries that the words name. The judged class is class 1, her method 3. -/
namespace start1
open Jvm.ClassFile
def u (s : String) : CpInfo := .utf8 (stringToUtf16 s)
/-- a pool by its gaps: so many unusable entries, then the entry; so many at the end -/
def gap : Nat → List CpInfo → List CpInfo
  | 0, r => r
  | n + 1, r => .unusable :: gap n r
def poolList (es : List (Nat × CpInfo)) (last : Nat) : List CpInfo := es.foldr (fun e r => gap e.1 (e.2 :: r)) (gap last [])
def pool (es : List (Nat × CpInfo)) (last : Nat) : Array CpInfo := ⟨poolList es last⟩
def fileOf (pool : Array CpInfo) (this : Nat) (attrs : Array Attribute := #[]) (ms : Array MethodInfo := #[]) (fl : Nat := 33) (sup : Nat := 0) (ifs : Array Nat := #[]) (fds : Array FieldInfo := #[]) : ClassFile where
  minorVersion := 0
  majorVersion := 65
  constantPool := pool
  accessFlags := fl
  thisClass := this
  superClass := sup
  interfaces := ifs
  fields := fds
  methods := ms
  attributes := attrs
def plain (name : String) (sup : Option ClassId) : Class where
  name := name
  kind := .ordinary
  loader := none
  accessFlags := 33
  super := sup
  interfaces := #[]
  cf := none
  fields := #[]
  methods := #[]
  instanceTypes := #[]
  staticTypes := #[]
  resolved := #[]
  callSites := []
  init := .initialized
  statics := none
  mirror := none

def pool0 : Array CpInfo := pool [(5, u "<init>"), (0, u "()V"), (1, .class_ 10), (1, u "java/lang/Object")] 113

def k0c0 : Code := { maxStack := 0, maxLocals := 1, code := object_method_1_code, exceptionTable := #[], attributes := #[] }
def k0m0 : Method := { name := "<init>", desc := "()V", sig := { parameters := [], returnType := none }, accessFlags := 1, code := some k0c0 }
/-- java/lang/Object -/
def k0 : Class := { plain "java/lang/Object" none with
  accessFlags := 33
  interfaces := #[]
  cf := some (fileOf pool0 8 #[] #[{ accessFlags := 1, nameIndex := 5, descriptorIndex := 6, attributes := #[] }] 33 0 #[] #[])
  fields := #[]
  methods := #[k0m0]
  instanceTypes := #[]
  staticTypes := #[]
  resolved := Array.replicate 124 none
  statics := none }

def pool1 : Array CpInfo := pool [(2, .class_ 4), (1, u "java/lang/Object"), (0, u "<init>"), (0, u "()V"), (0, .string 8), (0, u ""), (0, .methodref 10 11), (0, .class_ 12), (0, .nameAndType 13 14), (0, u "java/lang/String"), (0, u "valueOf"), (0, u "(C)Ljava/lang/String;"), (0, .methodref 10 16), (0, .nameAndType 5 17), (0, u "([C)V"), (0, .integer 2147483647), (0, .class_ 20), (0, u "cartouche/mapping/Decimal"), (0, .methodref 22 23), (0, .class_ 24), (0, .nameAndType 25 26), (0, u "cartouche/mapping/DecimalIsCountPinLaw"), (0, u "wholeDigits"), (0, u "(I)Ljava/lang/String;"), (0, .methodref 22 28), (0, .nameAndType 29 26), (0, u "fractionDigits"), (0, .methodref 19 31), (0, .nameAndType 5 32), (0, u "(ILjava/lang/String;Ljava/lang/String;)V"), (0, .methodref 19 34), (0, .nameAndType 35 36), (0, u "isCount"), (0, u "()Z"), (3, u "law"), (0, u "(II)Z")] 2

def k1m0 : Method := { name := "<init>", desc := "()V", sig := { parameters := [], returnType := none }, accessFlags := 1, code := none }
def k1c1 : Code := { maxStack := 8, maxLocals := 1, code := method_2_code, exceptionTable := #[], attributes := #[] }
def k1m1 : Method := { name := "wholeDigits", desc := "(I)Ljava/lang/String;", sig := { parameters := [.int], returnType := some (.object "java/lang/String") }, accessFlags := 10, code := some k1c1 }
def k1c2 : Code := { maxStack := 8, maxLocals := 1, code := method_3_code, exceptionTable := #[], attributes := #[] }
def k1m2 : Method := { name := "fractionDigits", desc := "(I)Ljava/lang/String;", sig := { parameters := [.int], returnType := some (.object "java/lang/String") }, accessFlags := 10, code := some k1c2 }
def k1c3 : Code := { maxStack := 5, maxLocals := 10, code := code, exceptionTable := #[], attributes := #[] }
def k1m3 : Method := { name := "law", desc := "(II)Z", sig := { parameters := [.int, .int], returnType := some .boolean }, accessFlags := 9, code := some k1c3 }
/-- cartouche/mapping/DecimalIsCountPinLaw -/
def k1 : Class := { plain "cartouche/mapping/DecimalIsCountPinLaw" (some 0) with
  accessFlags := 49
  interfaces := #[]
  cf := some (fileOf pool1 22 #[] #[{ accessFlags := 1, nameIndex := 5, descriptorIndex := 6, attributes := #[] }, { accessFlags := 10, nameIndex := 25, descriptorIndex := 26, attributes := #[] }, { accessFlags := 10, nameIndex := 29, descriptorIndex := 26, attributes := #[] }, { accessFlags := 9, nameIndex := 40, descriptorIndex := 41, attributes := #[] }] 49 2 #[] #[])
  fields := #[]
  methods := #[k1m0, k1m1, k1m2, k1m3]
  instanceTypes := #[]
  staticTypes := #[]
  resolved := Array.replicate 44 none
  statics := none }

def pool2 : Array CpInfo := pool [(1, .methodref 2 3), (0, .class_ 4), (0, .nameAndType 5 6), (0, u "java/lang/Object"), (0, u "<init>"), (0, u "()V"), (0, .class_ 8), (0, u "java/lang/Record")] 13

def k2c0 : Code := { maxStack := 1, maxLocals := 1, code := jdk_30_method_1_code, exceptionTable := #[], attributes := #[] }
def k2m0 : Method := { name := "<init>", desc := "()V", sig := { parameters := [], returnType := none }, accessFlags := 4, code := some k2c0 }
/-- java/lang/Record -/
def k2 : Class := { plain "java/lang/Record" (some 0) with
  accessFlags := 1057
  interfaces := #[]
  cf := some (fileOf pool2 7 #[] #[{ accessFlags := 4, nameIndex := 5, descriptorIndex := 6, attributes := #[] }] 1057 2 #[] #[])
  fields := #[]
  methods := #[k2m0]
  instanceTypes := #[]
  staticTypes := #[]
  resolved := Array.replicate 22 none
  statics := none }

def pool3 : Array CpInfo := pool [(1, .class_ 2), (0, u "java/lang/Comparable"), (0, .class_ 4), (0, u "java/lang/Object")] 7

/-- java/lang/Comparable -/
def k3 : Class := { plain "java/lang/Comparable" (some 0) with
  accessFlags := 1537
  interfaces := #[]
  cf := some (fileOf pool3 1 #[] #[] 1537 3 #[] #[])
  fields := #[]
  methods := #[]
  instanceTypes := #[]
  staticTypes := #[]
  resolved := Array.replicate 12 none
  statics := none }

def pool4 : Array CpInfo := pool [(1, .methodref 2 3), (0, .class_ 4), (0, .nameAndType 5 6), (0, u "java/lang/Record"), (0, u "<init>"), (0, u "()V"), (0, .fieldref 8 9), (0, .class_ 10), (0, .nameAndType 11 12), (0, u "cartouche/mapping/Decimal"), (0, u "sign"), (0, u "I"), (0, .fieldref 8 14), (0, .nameAndType 15 16), (0, u "whole"), (0, u "Ljava/lang/String;"), (0, .fieldref 8 18), (0, .nameAndType 19 16), (0, u "fraction"), (2, u "NOTATION"), (0, u "Ljava/util/regex/Pattern;"), (11, u "()Z"), (12, .methodref 49 50), (0, .class_ 51), (0, .nameAndType 52 35), (0, u "java/lang/String"), (0, u "isEmpty"), (25, u "(ILjava/lang/String;Ljava/lang/String;)V"), (50, .class_ 130), (0, u "java/lang/Comparable"), (7, u "isCount")] 26

def k4c0 : Code := { maxStack := 2, maxLocals := 4, code := prog_58_method_1_code, exceptionTable := #[], attributes := #[] }
def k4m0 : Method := { name := "<init>", desc := "(ILjava/lang/String;Ljava/lang/String;)V", sig := { parameters := [.int, (.object "java/lang/String"), (.object "java/lang/String")], returnType := none }, accessFlags := 0, code := some k4c0 }
def k4c1 : Code := { maxStack := 1, maxLocals := 1, code := prog_58_method_4_code, exceptionTable := #[], attributes := #[] }
def k4m1 : Method := { name := "isCount", desc := "()Z", sig := { parameters := [], returnType := some .boolean }, accessFlags := 0, code := some k4c1 }
/-- cartouche/mapping/Decimal -/
def k4 : Class := { plain "cartouche/mapping/Decimal" (some 2) with
  accessFlags := 48
  interfaces := #[3]
  cf := some (fileOf pool4 8 #[] #[{ accessFlags := 0, nameIndex := 5, descriptorIndex := 78, attributes := #[] }, { accessFlags := 0, nameIndex := 138, descriptorIndex := 35, attributes := #[] }] 48 2 #[129] #[{ accessFlags := 18, nameIndex := 11, descriptorIndex := 12, attributes := #[] }, { accessFlags := 18, nameIndex := 15, descriptorIndex := 16, attributes := #[] }, { accessFlags := 18, nameIndex := 19, descriptorIndex := 16, attributes := #[] }, { accessFlags := 26, nameIndex := 22, descriptorIndex := 23, attributes := #[] }])
  fields := #[{ name := "sign", type := .int, accessFlags := 18, slot := 0, constantValue := 0 }, { name := "whole", type := (.object "java/lang/String"), accessFlags := 18, slot := 1, constantValue := 0 }, { name := "fraction", type := (.object "java/lang/String"), accessFlags := 18, slot := 2, constantValue := 0 }, { name := "NOTATION", type := (.object "java/util/regex/Pattern"), accessFlags := 26, slot := 0, constantValue := 0 }]
  methods := #[k4m0, k4m1]
  instanceTypes := #[.int, (.object "java/lang/String"), (.object "java/lang/String")]
  staticTypes := #[(.object "java/util/regex/Pattern")]
  resolved := Array.replicate 165 none
  statics := none }

def pool5 : Array CpInfo := pool [(1, .class_ 2), (0, u "java/io/Serializable"), (0, .class_ 4), (0, u "java/lang/Object")] 2

/-- java/io/Serializable -/
def k5 : Class := { plain "java/io/Serializable" (some 0) with
  accessFlags := 1537
  interfaces := #[]
  cf := some (fileOf pool5 1 #[] #[] 1537 3 #[] #[])
  fields := #[]
  methods := #[]
  instanceTypes := #[]
  staticTypes := #[]
  resolved := Array.replicate 7 none
  statics := none }

def pool6 : Array CpInfo := pool [(2, .class_ 4), (1, u "java/lang/CharSequence"), (42, .class_ 48), (0, u "java/lang/CharSequence$1CodePointIterator"), (10, .class_ 60), (0, u "java/lang/CharSequence$1CharIterator"), (5, .class_ 67), (0, u "java/lang/Object")] 63

/-- java/lang/CharSequence -/
def k6 : Class := { plain "java/lang/CharSequence" (some 0) with
  accessFlags := 1537
  interfaces := #[]
  cf := some (fileOf pool6 2 #[.nestMembers #[47, 59]] #[] 1537 66 #[] #[])
  fields := #[]
  methods := #[]
  instanceTypes := #[]
  staticTypes := #[]
  resolved := Array.replicate 131 none
  statics := none }

def pool7 : Array CpInfo := pool [(1, .class_ 2), (0, u "java/lang/constant/Constable"), (0, .class_ 4), (0, u "java/lang/Object")] 6

/-- java/lang/constant/Constable -/
def k7 : Class := { plain "java/lang/constant/Constable" (some 0) with
  accessFlags := 1537
  interfaces := #[]
  cf := some (fileOf pool7 1 #[] #[] 1537 3 #[] #[])
  fields := #[]
  methods := #[]
  instanceTypes := #[]
  staticTypes := #[]
  resolved := Array.replicate 11 none
  statics := none }

def pool8 : Array CpInfo := pool [(1, .class_ 2), (0, u "java/lang/constant/ConstantDesc"), (0, .class_ 4), (0, u "java/lang/Object")] 32

/-- java/lang/constant/ConstantDesc -/
def k8 : Class := { plain "java/lang/constant/ConstantDesc" (some 0) with
  accessFlags := 1537
  interfaces := #[]
  cf := some (fileOf pool8 1 #[] #[] 1537 3 #[] #[])
  fields := #[]
  methods := #[]
  instanceTypes := #[]
  staticTypes := #[]
  resolved := Array.replicate 37 none
  statics := none }

def pool9 : Array CpInfo := pool [(1, .methodref 2 3), (0, .class_ 4), (0, .nameAndType 5 6), (0, u "java/lang/Object"), (0, u "<init>"), (0, u "()V"), (2, .fieldref 10 11), (0, .class_ 12), (0, .nameAndType 13 14), (0, u "java/lang/String"), (0, u "value"), (0, u "[B"), (0, .fieldref 10 16), (0, .nameAndType 17 18), (0, u "coder"), (0, u "B"), (2, u "hash"), (0, u "I"), (2, u "hashIsZero"), (0, u "Z"), (0, .methodref 10 28), (0, .nameAndType 5 29), (0, u "([CIILjava/lang/Void;)V"), (8, .fieldref 10 39), (0, .nameAndType 40 26), (0, u "COMPACT_STRINGS"), (1, .class_ 44), (1, u "java/lang/StringUTF16"), (0, u "compress"), (1, .methodref 42 48), (0, .nameAndType 49 50), (0, u "coderFromArrayLen"), (0, u "([BI)B"), (2, u "toBytes"), (53, .class_ 109), (1, u "java/lang/StringLatin1"), (32, u "()Z"), (34, .methodref 42 178), (0, .nameAndType 45 179), (0, u "([CII)[B"), (29, .methodref 10 210), (0, .nameAndType 5 211), (0, u "([BB)V"), (157, u "(C)Z"), (205, .class_ 576), (0, u "java/lang/CharSequence"), (22, u "CASE_INSENSITIVE_ORDER"), (0, u "Ljava/util/Comparator;"), (91, u "isEmpty"), (89, u "valueOf"), (0, u "(C)Ljava/lang/String;"), (226, u "([C)V"), (4, .methodref 107 1016), (0, .nameAndType 1017 369), (0, u "canEncode"), (0, .methodref 107 1019), (0, .nameAndType 53 1020), (0, u "(C)[B"), (80, u "serialPersistentFields"), (0, u "[Ljava/io/ObjectStreamField;"), (0, .class_ 1104), (0, u "java/lang/String$CaseInsensitiveComparator"), (1, .class_ 1107), (0, u "java/io/Serializable"), (0, .class_ 1109), (0, u "java/lang/Comparable"), (0, .class_ 1111), (0, u "java/lang/constant/Constable"), (0, .class_ 1113), (0, u "java/lang/constant/ConstantDesc"), (2, u "serialVersionUID"), (0, u "J"), (3, u "REPL"), (0, u "C"), (2, u "LATIN1"), (1, u "UTF16")] 323

def k9m0 : Method := { name := "<init>", desc := "()V", sig := { parameters := [], returnType := none }, accessFlags := 1, code := none }
def k9c1 : Code := { maxStack := 5, maxLocals := 2, code := jdk_42_method_3_code, exceptionTable := #[], attributes := #[] }
def k9m1 : Method := { name := "<init>", desc := "([C)V", sig := { parameters := [(.array .char)], returnType := none }, accessFlags := 1, code := some k9c1 }
def k9c2 : Code := { maxStack := 1, maxLocals := 1, code := jdk_42_method_55_code, exceptionTable := #[], attributes := #[] }
def k9m2 : Method := { name := "isEmpty", desc := "()Z", sig := { parameters := [], returnType := some .boolean }, accessFlags := 1, code := some k9c2 }
def k9c3 : Code := { maxStack := 4, maxLocals := 1, code := jdk_42_method_139_code, exceptionTable := #[], attributes := #[] }
def k9m3 : Method := { name := "valueOf", desc := "(C)Ljava/lang/String;", sig := { parameters := [.char], returnType := some (.object "java/lang/String") }, accessFlags := 9, code := some k9c3 }
def k9c4 : Code := { maxStack := 4, maxLocals := 6, code := jdk_42_method_149_code, exceptionTable := #[], attributes := #[] }
def k9m4 : Method := { name := "<init>", desc := "([CIILjava/lang/Void;)V", sig := { parameters := [(.array .char), .int, .int, (.object "java/lang/Void")], returnType := none }, accessFlags := 2, code := some k9c4 }
def k9c5 : Code := { maxStack := 2, maxLocals := 3, code := jdk_42_method_151_code, exceptionTable := #[], attributes := #[] }
def k9m5 : Method := { name := "<init>", desc := "([BB)V", sig := { parameters := [(.array .byte), .byte], returnType := none }, accessFlags := 0, code := some k9c5 }
/-- java/lang/String -/
def k9 : Class := { plain "java/lang/String" (some 0) with
  accessFlags := 49
  interfaces := #[5, 3, 6, 7, 8]
  cf := some (fileOf pool9 10 #[.nestMembers #[1103]] #[{ accessFlags := 1, nameIndex := 5, descriptorIndex := 6, attributes := #[] }, { accessFlags := 1, nameIndex := 5, descriptorIndex := 1010, attributes := #[] }, { accessFlags := 1, nameIndex := 692, descriptorIndex := 142, attributes := #[] }, { accessFlags := 9, nameIndex := 782, descriptorIndex := 783, attributes := #[] }, { accessFlags := 2, nameIndex := 5, descriptorIndex := 29, attributes := #[] }, { accessFlags := 0, nameIndex := 5, descriptorIndex := 211, attributes := #[] }] 49 2 #[1106, 1108, 575, 1110, 1112] #[{ accessFlags := 18, nameIndex := 13, descriptorIndex := 14, attributes := #[] }, { accessFlags := 18, nameIndex := 17, descriptorIndex := 18, attributes := #[] }, { accessFlags := 2, nameIndex := 21, descriptorIndex := 22, attributes := #[] }, { accessFlags := 2, nameIndex := 25, descriptorIndex := 26, attributes := #[] }, { accessFlags := 26, nameIndex := 1116, descriptorIndex := 1117, attributes := #[] }, { accessFlags := 24, nameIndex := 40, descriptorIndex := 26, attributes := #[] }, { accessFlags := 26, nameIndex := 1101, descriptorIndex := 1102, attributes := #[] }, { accessFlags := 26, nameIndex := 1121, descriptorIndex := 1122, attributes := #[] }, { accessFlags := 25, nameIndex := 599, descriptorIndex := 600, attributes := #[] }, { accessFlags := 24, nameIndex := 1125, descriptorIndex := 18, attributes := #[] }, { accessFlags := 24, nameIndex := 1127, descriptorIndex := 18, attributes := #[] }])
  fields := #[{ name := "value", type := (.array .byte), accessFlags := 18, slot := 0, constantValue := 0 }, { name := "coder", type := .byte, accessFlags := 18, slot := 1, constantValue := 0 }, { name := "hash", type := .int, accessFlags := 2, slot := 2, constantValue := 0 }, { name := "hashIsZero", type := .boolean, accessFlags := 2, slot := 3, constantValue := 0 }, { name := "serialVersionUID", type := .long, accessFlags := 26, slot := 0, constantValue := 0 }, { name := "COMPACT_STRINGS", type := .boolean, accessFlags := 24, slot := 1, constantValue := 0 }, { name := "serialPersistentFields", type := (.array (.object "java/io/ObjectStreamField")), accessFlags := 26, slot := 2, constantValue := 0 }, { name := "REPL", type := .char, accessFlags := 26, slot := 3, constantValue := 0 }, { name := "CASE_INSENSITIVE_ORDER", type := (.object "java/util/Comparator"), accessFlags := 25, slot := 4, constantValue := 0 }, { name := "LATIN1", type := .byte, accessFlags := 24, slot := 5, constantValue := 0 }, { name := "UTF16", type := .byte, accessFlags := 24, slot := 6, constantValue := 0 }]
  methods := #[k9m0, k9m1, k9m2, k9m3, k9m4, k9m5]
  instanceTypes := #[(.array .byte), .byte, .int, .boolean]
  staticTypes := #[.long, .boolean, (.array (.object "java/io/ObjectStreamField")), .char, (.object "java/util/Comparator"), .byte, .byte]
  resolved := Array.replicate 1451 none
  statics := some 0 }

def pool10 : Array CpInfo := pool [(6, .class_ 8), (1, u "java/lang/Object"), (0, u "<init>"), (0, u "()V"), (1, .class_ 14), (1, u "java/lang/StringUTF16"), (31, u "$assertionsDisabled"), (0, u "Z"), (13, u "HI_BYTE_SHIFT"), (0, u "I"), (2, u "LO_BYTE_SHIFT"), (49, .methodref 12 116), (0, .nameAndType 117 118), (0, u "compress"), (0, u "([CI[BII)I"), (3, u "([CII)[B"), (138, u "coderFromArrayLen"), (0, u "([BI)B"), (106, .class_ 371), (1, u "java/lang/StringUTF16$LinesSpliterator"), (58, u "MAX_LENGTH"), (196, .class_ 628), (0, u "java/lang/StringUTF16$CodePointsSpliterator"), (0, .class_ 630), (0, u "java/lang/StringUTF16$CharsSpliterator")] 4

def k10m0 : Method := { name := "<init>", desc := "()V", sig := { parameters := [], returnType := none }, accessFlags := 0, code := none }
def k10c1 : Code := { maxStack := 2, maxLocals := 2, code := jdk_52_method_15_code, exceptionTable := #[], attributes := #[] }
def k10m1 : Method := { name := "coderFromArrayLen", desc := "([BI)B", sig := { parameters := [(.array .byte), .int], returnType := some .byte }, accessFlags := 8, code := some k10c1 }
def k10c2 : Code := { maxStack := 5, maxLocals := 6, code := jdk_52_method_16_code, exceptionTable := #[], attributes := #[] }
def k10m2 : Method := { name := "compress", desc := "([CII)[B", sig := { parameters := [(.array .char), .int, .int], returnType := some (.array .byte) }, accessFlags := 9, code := some k10c2 }
def k10c3 : Code := { maxStack := 3, maxLocals := 7, code := jdk_52_method_21_code, exceptionTable := #[], attributes := #[] }
def k10m3 : Method := { name := "compress", desc := "([CI[BII)I", sig := { parameters := [(.array .char), .int, (.array .byte), .int, .int], returnType := some .int }, accessFlags := 9, code := some k10c3 }
/-- java/lang/StringUTF16 -/
def k10 : Class := { plain "java/lang/StringUTF16" (some 0) with
  accessFlags := 48
  interfaces := #[]
  cf := some (fileOf pool10 12 #[.nestMembers #[627, 629, 369]] #[{ accessFlags := 0, nameIndex := 9, descriptorIndex := 10, attributes := #[] }, { accessFlags := 8, nameIndex := 261, descriptorIndex := 262, attributes := #[] }, { accessFlags := 9, nameIndex := 117, descriptorIndex := 122, attributes := #[] }, { accessFlags := 9, nameIndex := 117, descriptorIndex := 118, attributes := #[] }] 48 6 #[] #[{ accessFlags := 26, nameIndex := 61, descriptorIndex := 62, attributes := #[] }, { accessFlags := 26, nameIndex := 65, descriptorIndex := 62, attributes := #[] }, { accessFlags := 24, nameIndex := 430, descriptorIndex := 62, attributes := #[] }, { accessFlags := 4120, nameIndex := 46, descriptorIndex := 47, attributes := #[] }])
  fields := #[{ name := "HI_BYTE_SHIFT", type := .int, accessFlags := 26, slot := 0, constantValue := 0 }, { name := "LO_BYTE_SHIFT", type := .int, accessFlags := 26, slot := 1, constantValue := 0 }, { name := "MAX_LENGTH", type := .int, accessFlags := 24, slot := 2, constantValue := 0 }, { name := "$assertionsDisabled", type := .boolean, accessFlags := 4120, slot := 3, constantValue := 0 }]
  methods := #[k10m0, k10m1, k10m2, k10m3]
  instanceTypes := #[]
  staticTypes := #[.int, .int, .int, .boolean]
  resolved := Array.replicate 635 none
  statics := none }

def pool11 : Array CpInfo := pool [(4, .class_ 6), (1, u "java/lang/Object"), (0, u "<init>"), (0, u "()V"), (5, .class_ 16), (1, u "java/lang/StringLatin1"), (73, u "canEncode"), (14, u "(C)Z"), (15, u "$assertionsDisabled"), (0, u "Z"), (98, .class_ 223), (1, u "java/lang/StringLatin1$LinesSpliterator"), (156, u "toBytes"), (1, u "(C)[B"), (7, .class_ 391), (0, u "java/lang/StringLatin1$CharsSpliterator")] 3

def k11m0 : Method := { name := "<init>", desc := "()V", sig := { parameters := [], returnType := none }, accessFlags := 0, code := none }
def k11c1 : Code := { maxStack := 2, maxLocals := 1, code := jdk_43_method_3_code, exceptionTable := #[], attributes := #[] }
def k11m1 : Method := { name := "canEncode", desc := "(C)Z", sig := { parameters := [.char], returnType := some .boolean }, accessFlags := 9, code := some k11c1 }
def k11c2 : Code := { maxStack := 4, maxLocals := 1, code := jdk_43_method_46_code, exceptionTable := #[], attributes := #[] }
def k11m2 : Method := { name := "toBytes", desc := "(C)[B", sig := { parameters := [.char], returnType := some (.array .byte) }, accessFlags := 9, code := some k11c2 }
/-- java/lang/StringLatin1 -/
def k11 : Class := { plain "java/lang/StringLatin1" (some 0) with
  accessFlags := 48
  interfaces := #[]
  cf := some (fileOf pool11 14 #[.nestMembers #[390, 221]] #[{ accessFlags := 0, nameIndex := 7, descriptorIndex := 8, attributes := #[] }, { accessFlags := 9, nameIndex := 90, descriptorIndex := 105, attributes := #[] }, { accessFlags := 9, nameIndex := 380, descriptorIndex := 382, attributes := #[] }] 48 4 #[] #[{ accessFlags := 4120, nameIndex := 121, descriptorIndex := 122, attributes := #[] }])
  fields := #[{ name := "$assertionsDisabled", type := .boolean, accessFlags := 4120, slot := 0, constantValue := 0 }]
  methods := #[k11m0, k11m1, k11m2]
  instanceTypes := #[]
  staticTypes := #[.boolean]
  resolved := Array.replicate 395 none
  statics := none }

def pool12 : Array CpInfo := pool [(2, .class_ 4), (1, u "java/lang/Object"), (0, u "<init>"), (0, u "()V"), (17, .class_ 26), (1, u "jdk/internal/util/Preconditions"), (28, .class_ 56), (0, u "jdk/internal/util/Preconditions$4"), (57, .class_ 115), (0, u "jdk/internal/util/Preconditions$1"), (7, u "SIOOBE_FORMATTER"), (0, u "Ljava/util/function/BiFunction;"), (0, .class_ 126), (0, u "jdk/internal/util/Preconditions$2"), (3, u "AIOOBE_FORMATTER"), (0, .class_ 132), (0, u "jdk/internal/util/Preconditions$3"), (3, u "IOOBE_FORMATTER")] 57

def k12m0 : Method := { name := "<init>", desc := "()V", sig := { parameters := [], returnType := none }, accessFlags := 1, code := none }
/-- jdk/internal/util/Preconditions -/
def k12 : Class := { plain "jdk/internal/util/Preconditions" (some 0) with
  accessFlags := 33
  interfaces := #[]
  cf := some (fileOf pool12 24 #[.nestMembers #[55, 131, 125, 114]] #[{ accessFlags := 1, nameIndex := 5, descriptorIndex := 6, attributes := #[] }] 33 2 #[] #[{ accessFlags := 25, nameIndex := 123, descriptorIndex := 124, attributes := #[] }, { accessFlags := 25, nameIndex := 130, descriptorIndex := 124, attributes := #[] }, { accessFlags := 25, nameIndex := 136, descriptorIndex := 124, attributes := #[] }])
  fields := #[{ name := "SIOOBE_FORMATTER", type := (.object "java/util/function/BiFunction"), accessFlags := 25, slot := 0, constantValue := 0 }, { name := "AIOOBE_FORMATTER", type := (.object "java/util/function/BiFunction"), accessFlags := 25, slot := 1, constantValue := 0 }, { name := "IOOBE_FORMATTER", type := (.object "java/util/function/BiFunction"), accessFlags := 25, slot := 2, constantValue := 0 }]
  methods := #[k12m0]
  instanceTypes := #[]
  staticTypes := #[(.object "java/util/function/BiFunction"), (.object "java/util/function/BiFunction"), (.object "java/util/function/BiFunction")]
  resolved := Array.replicate 194 none
  statics := some 1 }

def pool13 : Array CpInfo := pool [(9, u "<init>"), (6, .class_ 18), (1, u "java/lang/Object"), (0, u "()V"), (1, .class_ 23), (1, u "jdk/internal/util/ArraysSupport"), (0, u "LOG2_ARRAY_LONG_INDEX_SCALE"), (0, u "I"), (2, u "U"), (0, u "Ljdk/internal/misc/Unsafe;"), (8, u "BIG_ENDIAN"), (0, u "Z"), (8, u "LOG2_BYTE_BIT_SIZE"), (4, u "LOG2_ARRAY_INT_INDEX_SCALE"), (54, u "JLA"), (0, u "Ljdk/internal/access/JavaLangAccess;"), (11, u "LOG2_ARRAY_BOOLEAN_INDEX_SCALE"), (9, u "LOG2_ARRAY_BYTE_INDEX_SCALE"), (5, u "LOG2_ARRAY_CHAR_INDEX_SCALE"), (5, u "LOG2_ARRAY_SHORT_INDEX_SCALE"), (18, u "LOG2_ARRAY_FLOAT_INDEX_SCALE"), (24, u "LOG2_ARRAY_DOUBLE_INDEX_SCALE"), (89, u "T_BOOLEAN"), (2, u "T_CHAR"), (1, u "T_FLOAT"), (1, u "T_DOUBLE"), (1, u "T_BYTE"), (1, u "T_SHORT"), (1, u "T_INT"), (1, u "T_LONG"), (1, u "SOFT_MAX_ARRAY_LENGTH")] 83

def k13m0 : Method := { name := "<init>", desc := "()V", sig := { parameters := [], returnType := none }, accessFlags := 2, code := none }
/-- jdk/internal/util/ArraysSupport -/
def k13 : Class := { plain "jdk/internal/util/ArraysSupport" (some 0) with
  accessFlags := 33
  interfaces := #[]
  cf := some (fileOf pool13 21 #[] #[{ accessFlags := 2, nameIndex := 9, descriptorIndex := 19, attributes := #[] }] 33 16 #[] #[{ accessFlags := 24, nameIndex := 28, descriptorIndex := 29, attributes := #[] }, { accessFlags := 26, nameIndex := 38, descriptorIndex := 39, attributes := #[] }, { accessFlags := 25, nameIndex := 121, descriptorIndex := 25, attributes := #[] }, { accessFlags := 25, nameIndex := 131, descriptorIndex := 25, attributes := #[] }, { accessFlags := 25, nameIndex := 137, descriptorIndex := 25, attributes := #[] }, { accessFlags := 25, nameIndex := 143, descriptorIndex := 25, attributes := #[] }, { accessFlags := 25, nameIndex := 53, descriptorIndex := 25, attributes := #[] }, { accessFlags := 25, nameIndex := 24, descriptorIndex := 25, attributes := #[] }, { accessFlags := 25, nameIndex := 162, descriptorIndex := 25, attributes := #[] }, { accessFlags := 25, nameIndex := 187, descriptorIndex := 25, attributes := #[] }, { accessFlags := 26, nameIndex := 48, descriptorIndex := 25, attributes := #[] }, { accessFlags := 25, nameIndex := 277, descriptorIndex := 25, attributes := #[] }, { accessFlags := 25, nameIndex := 280, descriptorIndex := 25, attributes := #[] }, { accessFlags := 25, nameIndex := 282, descriptorIndex := 25, attributes := #[] }, { accessFlags := 25, nameIndex := 284, descriptorIndex := 25, attributes := #[] }, { accessFlags := 25, nameIndex := 286, descriptorIndex := 25, attributes := #[] }, { accessFlags := 25, nameIndex := 288, descriptorIndex := 25, attributes := #[] }, { accessFlags := 25, nameIndex := 290, descriptorIndex := 25, attributes := #[] }, { accessFlags := 25, nameIndex := 292, descriptorIndex := 25, attributes := #[] }, { accessFlags := 26, nameIndex := 108, descriptorIndex := 109, attributes := #[] }, { accessFlags := 25, nameIndex := 294, descriptorIndex := 25, attributes := #[] }])
  fields := #[{ name := "U", type := (.object "jdk/internal/misc/Unsafe"), accessFlags := 24, slot := 0, constantValue := 0 }, { name := "BIG_ENDIAN", type := .boolean, accessFlags := 26, slot := 1, constantValue := 0 }, { name := "LOG2_ARRAY_BOOLEAN_INDEX_SCALE", type := .int, accessFlags := 25, slot := 2, constantValue := 0 }, { name := "LOG2_ARRAY_BYTE_INDEX_SCALE", type := .int, accessFlags := 25, slot := 3, constantValue := 0 }, { name := "LOG2_ARRAY_CHAR_INDEX_SCALE", type := .int, accessFlags := 25, slot := 4, constantValue := 0 }, { name := "LOG2_ARRAY_SHORT_INDEX_SCALE", type := .int, accessFlags := 25, slot := 5, constantValue := 0 }, { name := "LOG2_ARRAY_INT_INDEX_SCALE", type := .int, accessFlags := 25, slot := 6, constantValue := 0 }, { name := "LOG2_ARRAY_LONG_INDEX_SCALE", type := .int, accessFlags := 25, slot := 7, constantValue := 0 }, { name := "LOG2_ARRAY_FLOAT_INDEX_SCALE", type := .int, accessFlags := 25, slot := 8, constantValue := 0 }, { name := "LOG2_ARRAY_DOUBLE_INDEX_SCALE", type := .int, accessFlags := 25, slot := 9, constantValue := 0 }, { name := "LOG2_BYTE_BIT_SIZE", type := .int, accessFlags := 26, slot := 10, constantValue := 0 }, { name := "T_BOOLEAN", type := .int, accessFlags := 25, slot := 11, constantValue := 0 }, { name := "T_CHAR", type := .int, accessFlags := 25, slot := 12, constantValue := 0 }, { name := "T_FLOAT", type := .int, accessFlags := 25, slot := 13, constantValue := 0 }, { name := "T_DOUBLE", type := .int, accessFlags := 25, slot := 14, constantValue := 0 }, { name := "T_BYTE", type := .int, accessFlags := 25, slot := 15, constantValue := 0 }, { name := "T_SHORT", type := .int, accessFlags := 25, slot := 16, constantValue := 0 }, { name := "T_INT", type := .int, accessFlags := 25, slot := 17, constantValue := 0 }, { name := "T_LONG", type := .int, accessFlags := 25, slot := 18, constantValue := 0 }, { name := "JLA", type := (.object "jdk/internal/access/JavaLangAccess"), accessFlags := 26, slot := 19, constantValue := 0 }, { name := "SOFT_MAX_ARRAY_LENGTH", type := .int, accessFlags := 25, slot := 20, constantValue := 0 }]
  methods := #[k13m0]
  instanceTypes := #[]
  staticTypes := #[(.object "jdk/internal/misc/Unsafe"), .boolean, .int, .int, .int, .int, .int, .int, .int, .int, .int, .int, .int, .int, .int, .int, .int, .int, .int, (.object "jdk/internal/access/JavaLangAccess"), .int]
  resolved := Array.replicate 378 none
  statics := none }

def pool14 : Array CpInfo := pool [(1, u "java/lang/Cloneable"), (0, .class_ 1), (0, u "java/lang/Object"), (0, .class_ 3)] 3

/-- java/lang/Cloneable -/
def k14 : Class := { plain "java/lang/Cloneable" (some 0) with
  accessFlags := 1537
  interfaces := #[]
  cf := some (fileOf pool14 2 #[] #[] 1537 4 #[] #[])
  fields := #[]
  methods := #[]
  instanceTypes := #[]
  staticTypes := #[]
  resolved := Array.replicate 8 none
  statics := none }

/-- the primitive byte -/
def k15 : Class := { plain "byte" none with kind := .primitive 'B', accessFlags := 0x411 }
/-- [B -/
def k16 : Class := { plain "[B" (some 0) with kind := .array 15 .byte, interfaces := #[14, 5], accessFlags := 1041 }

/-- the primitive char -/
def k17 : Class := { plain "char" none with kind := .primitive 'C', accessFlags := 0x411 }
/-- [C -/
def k18 : Class := { plain "[C" (some 0) with kind := .array 17 .char, interfaces := #[14, 5], accessFlags := 1041 }

/-- the primitive int -/
def k19 : Class := { plain "int" none with kind := .primitive 'I', accessFlags := 0x411 }
/-- [I -/
def k20 : Class := { plain "[I" (some 0) with kind := .array 19 .int, interfaces := #[14, 5], accessFlags := 1041 }

def heap : Heap := #[{ cls := 9, slots := #[.long 0, .int 1, .null, .int 0, .null, .int 0, .int 0], vm := .statics 9 },
  { cls := 12, slots := #[.null, .null, .null], vm := .statics 12 }]
def classes : Array Class := #[k0, k1, k2, k3, k4, k5, k6, k7, k8, k9, k10, k11, k12, k13, k14, k15, k16, k17, k18, k19, k20]
def interned : List (Array UInt16 × Addr) := []
def slotsUsed : Nat := 10
def theMethod : MethodId := ⟨1, 3⟩
def args0 : Array Value := #[.int 3, .int 4]
def aboutOver (below : List Frame) : State where
  vm := { classes := classes, interned := interned.toArray }
  heap := heap
  slotsUsed := slotsUsed
  threads := #[{ frames := .invoking theMethod args0 :: below }]
def below0 : List Frame := [.native { method := ⟨0, 0⟩, args := #[] }]
def about1 : State := aboutOver below0
def p0 : Program := .bare "" "" ""
def e0 : Env := launch0.env 0 0 0
theorem w_frames : about1.frames = Frame.invoking theMethod args0 :: below0 := rfl
set_option maxRecDepth 65536 in
theorem w_args : argsFit about1.vm theMethod args0 = true := by decide +kernel
set_option maxRecDepth 65536 in
theorem w_heap : heapFits about1 = true := by decide +kernel
set_option maxRecDepth 65536 in
theorem w_runnable : about1.curStatus? = some .runnable := by decide +kernel
set_option maxRecDepth 65536 in
theorem w_alone : about1.alone = true := by decide +kernel
set_option maxRecDepth 65536 in
theorem w_named : about1.methodNamed? x = some theMethod := by decide +kernel
set_option maxRecDepth 65536 in
theorem w_hears : about1.hears theMethod below0 = true := by decide +kernel
set_option maxRecDepth 65536 in
theorem w_ripe : about1.ripe theMethod args0 below0 = true := by decide +kernel
theorem w_running : about1.status = .running := rfl
set_option maxRecDepth 65536 in
theorem w_room : about1.hasRoom e0.platform room_1 = true :=
  launch0.hasRoom_least _ room_1 (by decide +kernel) (by decide +kernel) (by decide +kernel) (by decide +kernel) (by decide +kernel) (by decide +kernel)
theorem allAtoms_all (ts : List Jvm.Cond) (a : Array Jvm.Value) (st : Jvm.State) : (allAtoms ts).before a st = ts.all (fun c => c.before a st) := by
  induction ts with
  | nil => rfl
  | cons c t ih =>
    show (Jvm.Cond.and c (allAtoms t)).before a st = _
    rw [Jvm.Cond.before_and, ih, List.all_cons]
def words1 : List Jvm.Cond := Jvm.Cond.code x code maxLocals ret :: tables_1
/-- a 'code' word, met by the world's own term for the bytes: nothing is compared byte by byte -/
theorem code_word {y : MethodName} {bytes : ByteArray} {mx : Nat} {rt : Option FieldType} {a : Array Value} {s : State} {m : MethodId} {meth : Method} {c : Code} (h1 : s.methodNamed? y = some m) (h2 : s.vm.method? m = some meth) (h3 : meth.code = some c) (h4 : c.code = bytes)
    (h5 : (c.maxLocals == mx && c.exceptionTable.isEmpty && decide (c.maxStack ≤ mostOperands) && decide (meth.sig.returnType = rt) && !meth.locks && decide (parseMethodDescriptor y.desc = some meth.sig)) = true) : (Jvm.Cond.code y bytes mx rt).before a s = true := by
  simp only [Bool.and_eq_true, beq_iff_eq, Bool.not_eq_true', decide_eq_true_eq] at h5
  obtain ⟨⟨⟨⟨⟨g1, g2⟩, g3⟩, g4⟩, g5⟩, g6⟩ := h5
  simp [Cond.before, Cond.holds, Cond.value, h1, h2, h3, h4, g1, g2, g3, g4, g5, g6]
def isCode : Jvm.Cond → Bool
  | .code _ _ _ _ => true
  | _ => false
theorem all_split {L : List Jvm.Cond} {P : Jvm.Cond → Bool} (h1 : L.all (fun c => isCode c || P c) = true) (h2 : ∀ c ∈ L.filter isCode, P c = true) : L.all P = true := by
  refine List.all_eq_true.mpr fun c hc => ?_
  have h := List.all_eq_true.mp h1 c hc
  rcases Bool.eq_false_or_eq_true (isCode c) with hi | hi
  · exact h2 c (List.mem_filter.mpr ⟨hc, hi⟩)
  · simpa [hi] using h
set_option maxRecDepth 65536 in
theorem w_c0 : (Jvm.Cond.code x code maxLocals ret).before args0 about1 = true := code_word (m := ⟨1, 3⟩) (meth := k1m3) (c := k1c3) (by decide +kernel) rfl rfl rfl (by decide +kernel)
set_option maxRecDepth 65536 in
theorem w_c1 : (Jvm.Cond.code ({ cls := "cartouche/mapping/DecimalIsCountPinLaw", name := "wholeDigits", desc := "(I)Ljava/lang/String;" } : Jvm.MethodName) method_2_code (1 : Nat) (Option.some (Jvm.ClassFile.FieldType.object "java/lang/String"))).before args0 about1 = true := code_word (m := ⟨1, 1⟩) (meth := k1m1) (c := k1c1) (by decide +kernel) rfl rfl rfl (by decide +kernel)
set_option maxRecDepth 65536 in
theorem w_c2 : (Jvm.Cond.code ({ cls := "cartouche/mapping/DecimalIsCountPinLaw", name := "fractionDigits", desc := "(I)Ljava/lang/String;" } : Jvm.MethodName) method_3_code (1 : Nat) (Option.some (Jvm.ClassFile.FieldType.object "java/lang/String"))).before args0 about1 = true := code_word (m := ⟨1, 2⟩) (meth := k1m2) (c := k1c2) (by decide +kernel) rfl rfl rfl (by decide +kernel)
set_option maxRecDepth 65536 in
theorem w_c3 : (Jvm.Cond.code ({ cls := "cartouche/mapping/Decimal", name := "<init>", desc := "(ILjava/lang/String;Ljava/lang/String;)V" } : Jvm.MethodName) prog_58_method_1_code (4 : Nat) (Option.none : Option Jvm.ClassFile.FieldType)).before args0 about1 = true := code_word (m := ⟨4, 0⟩) (meth := k4m0) (c := k4c0) (by decide +kernel) rfl rfl rfl (by decide +kernel)
set_option maxRecDepth 65536 in
theorem w_c4 : (Jvm.Cond.code ({ cls := "java/lang/Record", name := "<init>", desc := "()V" } : Jvm.MethodName) jdk_30_method_1_code (1 : Nat) (Option.none : Option Jvm.ClassFile.FieldType)).before args0 about1 = true := code_word (m := ⟨2, 0⟩) (meth := k2m0) (c := k2c0) (by decide +kernel) rfl rfl rfl (by decide +kernel)
set_option maxRecDepth 65536 in
theorem w_c5 : (Jvm.Cond.code ({ cls := "java/lang/Object", name := "<init>", desc := "()V" } : Jvm.MethodName) object_method_1_code (1 : Nat) (Option.none : Option Jvm.ClassFile.FieldType)).before args0 about1 = true := code_word (m := ⟨0, 0⟩) (meth := k0m0) (c := k0c0) (by decide +kernel) rfl rfl rfl (by decide +kernel)
set_option maxRecDepth 65536 in
theorem w_c6 : (Jvm.Cond.code ({ cls := "cartouche/mapping/Decimal", name := "isCount", desc := "()Z" } : Jvm.MethodName) prog_58_method_4_code (1 : Nat) (Option.some Jvm.ClassFile.FieldType.boolean)).before args0 about1 = true := code_word (m := ⟨4, 1⟩) (meth := k4m1) (c := k4c1) (by decide +kernel) rfl rfl rfl (by decide +kernel)
set_option maxRecDepth 65536 in
theorem w_c7 : (Jvm.Cond.code ({ cls := "java/lang/String", name := "isEmpty", desc := "()Z" } : Jvm.MethodName) jdk_42_method_55_code (1 : Nat) (Option.some Jvm.ClassFile.FieldType.boolean)).before args0 about1 = true := code_word (m := ⟨9, 2⟩) (meth := k9m2) (c := k9c2) (by decide +kernel) rfl rfl rfl (by decide +kernel)
set_option maxRecDepth 65536 in
theorem w_c8 : (Jvm.Cond.code ({ cls := "java/lang/String", name := "<init>", desc := "([C)V" } : Jvm.MethodName) jdk_42_method_3_code (2 : Nat) (Option.none : Option Jvm.ClassFile.FieldType)).before args0 about1 = true := code_word (m := ⟨9, 1⟩) (meth := k9m1) (c := k9c1) (by decide +kernel) rfl rfl rfl (by decide +kernel)
set_option maxRecDepth 65536 in
theorem w_c9 : (Jvm.Cond.code ({ cls := "java/lang/String", name := "<init>", desc := "([CIILjava/lang/Void;)V" } : Jvm.MethodName) jdk_42_method_149_code (6 : Nat) (Option.none : Option Jvm.ClassFile.FieldType)).before args0 about1 = true := code_word (m := ⟨9, 4⟩) (meth := k9m4) (c := k9c4) (by decide +kernel) rfl rfl rfl (by decide +kernel)
set_option maxRecDepth 65536 in
theorem w_c10 : (Jvm.Cond.code ({ cls := "java/lang/StringUTF16", name := "compress", desc := "([CII)[B" } : Jvm.MethodName) jdk_52_method_16_code (6 : Nat) (Option.some (Jvm.ClassFile.FieldType.array Jvm.ClassFile.FieldType.byte))).before args0 about1 = true := code_word (m := ⟨10, 2⟩) (meth := k10m2) (c := k10c2) (by decide +kernel) rfl rfl rfl (by decide +kernel)
set_option maxRecDepth 65536 in
theorem w_c11 : (Jvm.Cond.code ({ cls := "java/lang/StringUTF16", name := "compress", desc := "([CI[BII)I" } : Jvm.MethodName) jdk_52_method_21_code (7 : Nat) (Option.some Jvm.ClassFile.FieldType.int)).before args0 about1 = true := code_word (m := ⟨10, 3⟩) (meth := k10m3) (c := k10c3) (by decide +kernel) rfl rfl rfl (by decide +kernel)
set_option maxRecDepth 65536 in
theorem w_c12 : (Jvm.Cond.code ({ cls := "java/lang/StringUTF16", name := "coderFromArrayLen", desc := "([BI)B" } : Jvm.MethodName) jdk_52_method_15_code (2 : Nat) (Option.some Jvm.ClassFile.FieldType.byte)).before args0 about1 = true := code_word (m := ⟨10, 1⟩) (meth := k10m1) (c := k10c1) (by decide +kernel) rfl rfl rfl (by decide +kernel)
set_option maxRecDepth 65536 in
theorem w_c13 : (Jvm.Cond.code ({ cls := "java/lang/String", name := "valueOf", desc := "(C)Ljava/lang/String;" } : Jvm.MethodName) jdk_42_method_139_code (1 : Nat) (Option.some (Jvm.ClassFile.FieldType.object "java/lang/String"))).before args0 about1 = true := code_word (m := ⟨9, 3⟩) (meth := k9m3) (c := k9c3) (by decide +kernel) rfl rfl rfl (by decide +kernel)
set_option maxRecDepth 65536 in
theorem w_c14 : (Jvm.Cond.code ({ cls := "java/lang/StringLatin1", name := "canEncode", desc := "(C)Z" } : Jvm.MethodName) jdk_43_method_3_code (1 : Nat) (Option.some Jvm.ClassFile.FieldType.boolean)).before args0 about1 = true := code_word (m := ⟨11, 1⟩) (meth := k11m1) (c := k11c1) (by decide +kernel) rfl rfl rfl (by decide +kernel)
set_option maxRecDepth 65536 in
theorem w_c15 : (Jvm.Cond.code ({ cls := "java/lang/StringLatin1", name := "toBytes", desc := "(C)[B" } : Jvm.MethodName) jdk_43_method_46_code (1 : Nat) (Option.some (Jvm.ClassFile.FieldType.array Jvm.ClassFile.FieldType.byte))).before args0 about1 = true := code_word (m := ⟨11, 2⟩) (meth := k11m2) (c := k11c2) (by decide +kernel) rfl rfl rfl (by decide +kernel)
set_option maxRecDepth 65536 in
theorem w_c16 : (Jvm.Cond.code ({ cls := "java/lang/String", name := "<init>", desc := "([BB)V" } : Jvm.MethodName) jdk_42_method_151_code (3 : Nat) (Option.none : Option Jvm.ClassFile.FieldType)).before args0 about1 = true := code_word (m := ⟨9, 5⟩) (meth := k9m5) (c := k9c5) (by decide +kernel) rfl rfl rfl (by decide +kernel)
def codes1 : List Jvm.Cond := [Jvm.Cond.code x code maxLocals ret, Jvm.Cond.code ({ cls := "cartouche/mapping/DecimalIsCountPinLaw", name := "wholeDigits", desc := "(I)Ljava/lang/String;" } : Jvm.MethodName) method_2_code (1 : Nat) (Option.some (Jvm.ClassFile.FieldType.object "java/lang/String")), Jvm.Cond.code ({ cls := "cartouche/mapping/DecimalIsCountPinLaw", name := "fractionDigits", desc := "(I)Ljava/lang/String;" } : Jvm.MethodName) method_3_code (1 : Nat) (Option.some (Jvm.ClassFile.FieldType.object "java/lang/String")), Jvm.Cond.code ({ cls := "cartouche/mapping/Decimal", name := "<init>", desc := "(ILjava/lang/String;Ljava/lang/String;)V" } : Jvm.MethodName) prog_58_method_1_code (4 : Nat) (Option.none : Option Jvm.ClassFile.FieldType), Jvm.Cond.code ({ cls := "java/lang/Record", name := "<init>", desc := "()V" } : Jvm.MethodName) jdk_30_method_1_code (1 : Nat) (Option.none : Option Jvm.ClassFile.FieldType), Jvm.Cond.code ({ cls := "java/lang/Object", name := "<init>", desc := "()V" } : Jvm.MethodName) object_method_1_code (1 : Nat) (Option.none : Option Jvm.ClassFile.FieldType), Jvm.Cond.code ({ cls := "cartouche/mapping/Decimal", name := "isCount", desc := "()Z" } : Jvm.MethodName) prog_58_method_4_code (1 : Nat) (Option.some Jvm.ClassFile.FieldType.boolean), Jvm.Cond.code ({ cls := "java/lang/String", name := "isEmpty", desc := "()Z" } : Jvm.MethodName) jdk_42_method_55_code (1 : Nat) (Option.some Jvm.ClassFile.FieldType.boolean), Jvm.Cond.code ({ cls := "java/lang/String", name := "<init>", desc := "([C)V" } : Jvm.MethodName) jdk_42_method_3_code (2 : Nat) (Option.none : Option Jvm.ClassFile.FieldType), Jvm.Cond.code ({ cls := "java/lang/String", name := "<init>", desc := "([CIILjava/lang/Void;)V" } : Jvm.MethodName) jdk_42_method_149_code (6 : Nat) (Option.none : Option Jvm.ClassFile.FieldType), Jvm.Cond.code ({ cls := "java/lang/StringUTF16", name := "compress", desc := "([CII)[B" } : Jvm.MethodName) jdk_52_method_16_code (6 : Nat) (Option.some (Jvm.ClassFile.FieldType.array Jvm.ClassFile.FieldType.byte)), Jvm.Cond.code ({ cls := "java/lang/StringUTF16", name := "compress", desc := "([CI[BII)I" } : Jvm.MethodName) jdk_52_method_21_code (7 : Nat) (Option.some Jvm.ClassFile.FieldType.int), Jvm.Cond.code ({ cls := "java/lang/StringUTF16", name := "coderFromArrayLen", desc := "([BI)B" } : Jvm.MethodName) jdk_52_method_15_code (2 : Nat) (Option.some Jvm.ClassFile.FieldType.byte), Jvm.Cond.code ({ cls := "java/lang/String", name := "valueOf", desc := "(C)Ljava/lang/String;" } : Jvm.MethodName) jdk_42_method_139_code (1 : Nat) (Option.some (Jvm.ClassFile.FieldType.object "java/lang/String")), Jvm.Cond.code ({ cls := "java/lang/StringLatin1", name := "canEncode", desc := "(C)Z" } : Jvm.MethodName) jdk_43_method_3_code (1 : Nat) (Option.some Jvm.ClassFile.FieldType.boolean), Jvm.Cond.code ({ cls := "java/lang/StringLatin1", name := "toBytes", desc := "(C)[B" } : Jvm.MethodName) jdk_43_method_46_code (1 : Nat) (Option.some (Jvm.ClassFile.FieldType.array Jvm.ClassFile.FieldType.byte)), Jvm.Cond.code ({ cls := "java/lang/String", name := "<init>", desc := "([BB)V" } : Jvm.MethodName) jdk_42_method_151_code (3 : Nat) (Option.none : Option Jvm.ClassFile.FieldType)]
set_option maxRecDepth 65536 in
theorem codes_eq : words1.filter isCode = codes1 := rfl
theorem w_codes : ∀ c ∈ words1.filter isCode, c.before args0 about1 = true := by
  rw [codes_eq]
  intro c hc
  simp only [codes1, List.mem_cons, List.not_mem_nil, or_false] at hc
  rcases hc with rfl | rfl | rfl | rfl | rfl | rfl | rfl | rfl | rfl | rfl | rfl | rfl | rfl | rfl | rfl | rfl | rfl
  · exact w_c0
  · exact w_c1
  · exact w_c2
  · exact w_c3
  · exact w_c4
  · exact w_c5
  · exact w_c6
  · exact w_c7
  · exact w_c8
  · exact w_c9
  · exact w_c10
  · exact w_c11
  · exact w_c12
  · exact w_c13
  · exact w_c14
  · exact w_c15
  · exact w_c16
set_option maxRecDepth 65536 in
theorem w_t1 : (words1.take 24).all (fun c => isCode c || c.before args0 about1) = true := by decide +kernel
set_option maxRecDepth 65536 in
theorem w_t2 : ((words1.drop 24).take 24).all (fun c => isCode c || c.before args0 about1) = true := by decide +kernel
set_option maxRecDepth 65536 in
theorem w_t3 : (((words1.drop 24).drop 24).take 24).all (fun c => isCode c || c.before args0 about1) = true := by decide +kernel
set_option maxRecDepth 65536 in
theorem w_t4 : (((words1.drop 24).drop 24).drop 24).all (fun c => isCode c || c.before args0 about1) = true := by decide +kernel
theorem w_tables : (allAtoms (Jvm.Cond.code x code maxLocals ret :: tables_1)).before args0 about1 = true := by
  rw [allAtoms_all]
  show words1.all (fun c => c.before args0 about1) = true
  refine all_split ?_ w_codes
  rw [← List.take_append_drop 24 words1, List.all_append, w_t1, ← List.take_append_drop 24 (words1.drop 24), List.all_append, w_t2, ← List.take_append_drop 24 ((words1.drop 24).drop 24), List.all_append, w_t3, w_t4]
  rfl
set_option maxRecDepth 65536 in
theorem w_rest : rest_1_c.before args0 about1 = true := by decide +kernel
set_option maxRecDepth 65536 in
theorem w_case : (Jvm.Cond.and given_1 narrow_1).before args0 about1 = true := by decide +kernel
set_option maxRecDepth 65536 in
theorem w_consts : constsHeld consts_1 about1 := Jvm.Lit.constsHeldB_iff.mp (by decide +kernel)
theorem w_applies : (headSpec (Jvm.Cond.code x code maxLocals ret :: tables_1) room_1).applies x e0.platform about1 = true :=
  (Spec.applies_iff w_frames).mpr ⟨w_running, w_runnable, w_alone, w_named, w_hears, w_ripe, w_room, w_tables⟩
theorem atStart : AtStart classFile x code maxLocals ret World_1 tables_1 room_1 Calls_1 rest_1 Pre_1 launch0 p0 e0 about1 theMethod args0 below0 :=
  ⟨lists_1, trivial, launch0.admits_env _ _ _, launch0.least_env, fairChoices_fair.cas, fairChoices_fair.clock, w_frames, w_args, w_heap, w_applies, ⟨w_consts, trivial⟩, w_rest, w_case⟩
end start1
theorem witness_1 : WitnessClaimed_1 := ⟨start1.p0, start1.e0, start1.about1, start1.theMethod, start1.args0, start1.below0, start1.atStart⟩
end Jvm.Pilot.@@N@@
