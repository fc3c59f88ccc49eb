import JvmDerived
import JvmDerived.Pilot.@@N@@Statement
import JvmDerived.Pilot.@@N@@Code
set_option linter.unusedVariables false
set_option linter.unusedSimpArgs false
namespace Jvm.RoadKit
open Sem ClassFile Op Lib Jvm.Stand Jvm.Free Jvm.LawKit
section New
variable {p : Program} {l : Launch} {e : Env} {R : Room} {s : State} {m : MethodId} {args : Array Value} {below : List Frame} {meth : Method} {c : Code} {T : State} {locs : List Loc} {cells slots : Nat}
theorem retI (X : Stand p l e R s m args below meth c T locs cells slots) (hx : p.tables.exec = Jvm.exec) {pc : Nat} {Ls : Array Slot} {z : Int32} {rest : List Value} (hret : meth.sig.returnType = some .int) (hd : decode c.code pc = .ok (.ireturn, 1)) {fs : List Frame}
    (hl : ∀ (f : JFrame) (acts : List Action), f.method = m → f.locked = none → f.entered = [] → (doReturn e (T.setTop f) acts (some (.int z))).1 = T.setFrames fs) : Steps p.tables e below (T.setTop (mkF m pc Ls (.int z :: rest))) (T.setFrames fs) := by
  have hm' : T.vm.method? m = some meth := X.method'
  have hn : narrow .int (.int z) = .int z := rfl
  show Steps p.tables e below (T.setTop { method := m, pc := pc, locals := Ls, stack := _ :: rest, locked := none }) _
  jvm_step X.here [X.here.top, hx, hd, hm', hret, hn]
  first | (intro acts; rw [hl _ acts rfl rfl rfl]) | rw [hl _ _ rfl rfl rfl]
  exact Steps.refl _
end New
end Jvm.RoadKit
namespace Jvm.Pilot.@@N@@
open Jvm Jvm.ClassFile Sem Op Lib Jvm.Free Jvm.Stand Jvm.LawKit Jvm.RoadKit Bundle Jvm.Pilot.@@N@@.Jvm.D
theorem own_eqI {t : Term} {args : Array Value} {first s : State} {o : Option Outcome} {idx : List Nat} {k : Int32} (h : (Jvm.Cond.eq t (.int k)).value args first o s idx = some true) : t.eval args first o idx s = some (.int k) := by
  cases ht : t.eval args first o idx s with
  | none => simp [Cond.value, ht] at h
  | some x => cases x <;> simp [Cond.value, ht, Term.eval] at h ⊢ <;> exact h
theorem own_eqJ {t : Term} {args : Array Value} {first s : State} {o : Option Outcome} {idx : List Nat} {k : Int64} (h : (Jvm.Cond.eq t (.long k)).value args first o s idx = some true) : t.eval args first o idx s = some (.long k) := by
  cases ht : t.eval args first o idx s with
  | none => simp [Cond.value, ht] at h
  | some x => cases x <;> simp [Cond.value, ht, Term.eval] at h ⊢ <;> exact h
theorem own_eqR {t u : Term} {args : Array Value} {first s : State} {o : Option Outcome} {idx : List Nat} {x : Addr} (h : (Jvm.Cond.eq t u).value args first o s idx = some true) (hu : u.eval args first o idx s = some (.ref x)) : t.eval args first o idx s = some (.ref x) := by
  cases ht : t.eval args first o idx s with
  | none => simp [Cond.value, ht] at h
  | some z => cases z <;> simp [Cond.value, ht, hu] at h ⊢ <;> exact h
theorem cat_of {v : Value} (h : v.isRef = true) : v.category = 1 := by rcases ref_cases h with rfl | ⟨a, rfl⟩ <;> rfl
theorem own_fits {n : String} {v : Value} (h : v.isRef = true) : fits (.object n) v = true := by rcases ref_cases h with rfl | ⟨a, rfl⟩ <;> rfl
theorem own_exa_ns {Z : State} {h : Heap} {a : Addr} {C : String} (E : Exa Z h a C) : ∀ c : Cell, h[a]? = some c → c.vm.isStatics = false := fun c hc => by
  obtain ⟨cell, k, h1, -, -, h4, -⟩ := E
  cases h1.symm.trans hc; exact h4
theorem own_sta_keep {Z : State} {h h' : Heap} {ws : List Addr} {C n d : String} {v : Value} (F : Sta Z h C n d v) (K : Keep h h' ws) (q : ∀ x ∈ ws, ∀ c : Cell, h[x]? = some c → c.vm.isStatics = false) : Sta Z h' C n d v := by
  obtain ⟨cf, i, k, f, st, cell, h1, h2, h3, h4, h5, h6, r⟩ := F
  refine ⟨cf, i, k, f, st, cell, h1, h2, h3, h4, K.2.1 st cell h5 (fun hm => ?_), h6, r⟩
  have := q st hm cell h5
  rw [h6] at this; cases this
theorem own_na {x : Int32} (h : x < 0) : ¬ 0 < x := by rw [Int32.lt_iff_toInt_lt] at h ⊢; omega
theorem own_nb {x : Int32} (h : x = 0) : ¬ 0 < x := by subst h; decide
theorem own_pos {x : Int32} (h : ¬ x < 0) (h0 : ¬ x = 0) : 0 < x := by
  have : x.toInt ≠ (0 : Int32).toInt := fun e => h0 (Int32.toInt_inj.mp e)
  rw [Int32.lt_iff_toInt_lt] at h ⊢
  omega
theorem pn_0 : plainName "java/lang/Enum" = true := by first | (simp [plainName, overriddenIn]; done) | decide +kernel
theorem d2_0 : decode jdk_37_method_2_code 0 = .ok (.aload_n 0, 1) := by decide +kernel
theorem d2_1 : decode jdk_37_method_2_code 1 = .ok (.getfield 7, 3) := by decide +kernel
theorem d2_4 : decode jdk_37_method_2_code 4 = .ok (.ireturn, 1) := by decide +kernel
theorem ef_2 (m : MethodId) (x0 : Addr)  : entryFrame m #[(.ref x0)] 1 = mkF m 0 #[.val (.ref x0)] [] := by first | (simp [entryFrame, mkF, argsToLocals, Value.category]; done) | rfl
def Q2 (Z : State) (a0 : Addr) (w_ordinal_0 : Int32) (h0 : Heap) (n0 : Nat) (v : Option Value) (h : Heap) (L : List Loc) : Prop := v = some (.int w_ordinal_0) ∧ Fr n0 L ∧ h = h0
set_option maxRecDepth 65536 in
set_option maxHeartbeats 40000000 in
theorem rm2 (l : Launch) (Z : State) (aw : Array Value) (hw : ∀ d ∈ tables_1, d.before aw Z = true) (ws : List Jvm.Cond) (a0 : Addr) (w_ordinal_0 : Int32) (h0 : Heap) (n0 : Nat) (Z0 : n0 ≤ h0.size) (Ff_ordinal_0 : Fld Z h0 a0 "java/lang/Enum" "ordinal" "I" (.int w_ordinal_0)) :
    MetFree l (⟨"java/lang/Enum", "ordinal", "()I"⟩ : MethodName) (head1 (Jvm.Cond.code (⟨"java/lang/Enum", "ordinal", "()I"⟩ : MethodName) jdk_37_method_2_code 1 (some .int) :: ws) ({ frames := 0, cells := 0, slots := 0, locals := 0 } : Room)) (fun a U => a = #[(.ref a0)] ∧ Z.Warmed39 U.vm ∧ U.heap = h0) (fun _ _ _ _ _ => True) (fun _ U o U' => ∃ v L, o = .returned v ∧ Q2 Z a0 w_ordinal_0 h0 n0 v U'.heap L ∧ FrameEnd U o U' L ({ frames := 0, cells := 0, slots := 0, locals := 0 } : Room).cells ({ frames := 0, cells := 0, slots := 0, locals := 0 } : Room).slots) := by
  refine MetFree.of_bodySF (plainFor_of_name pn_0) hisR ?_
  intro p e s m args below meth c s₁ Bd hml0 hP hK
  obtain ⟨rfl, hZ, hh⟩ := hP
  have hx := Bd.exec
  have hby := Bd.bytes
  have hml : c.maxLocals = 1 := hml0
  have hown : s.vm.findClass "java/lang/Enum" = some m.cls := findClass_of_methodNamed Bd.named
  have hnm := (name_of_methodNamed Bd.named Bd.method).1
  have X0 : Stand p l e ({ frames := 0, cells := 0, slots := 0, locals := 0 } : Room) s m #[(.ref a0)] below meth c s₁ [] 0 0 := Stand.of_body Bd
  have e0 : s₁.heap = h0 := by rw [← hh, Bd.state]; rfl
  have N0 := Fr.nil n0
  have pre0 : ∀ t, Steps p.tables e below (s₁.setTop (mkF m 0 #[.val (.ref a0)] [])) t → Steps p.tables e below (s₁.setTop (entryFrame m #[(.ref a0)] 1)) t := fun t k => castTop (ef_2 m a0 ) k
  obtain ⟨T1, X1, e1, st1⟩ := getF X0 hx hZ hown (host := "") (Or.inl (hw _ (List.mem_of_getElem? (i := 15) rfl))) Via.refl e0 Ff_ordinal_0 (g := (mkF m 1 #[.val (.ref a0)] [(.ref a0)])) rfl rfl (hb hby d2_1)
  have pre2 : ∀ t, Steps p.tables e below (T1.setTop (mkF m 4 #[.val (.ref a0)] [(.int w_ordinal_0)])) t → Steps p.tables e below (s₁.setTop (entryFrame m #[(.ref a0)] 1)) t := fun t kt => pre0 t (by
      show Steps p.tables e below (s₁.setTop (mkF m 0 #[.val (.ref a0)] [])) _
      refine XS.aloadN X0.here hx rfl (hb hby d2_0) rfl rfl ?_
      show Steps p.tables e below (s₁.setTop (mkF m 1 #[.val (.ref a0)] [(.ref a0)])) _
      refine st1 _ ?_
      exact kt)
  obtain ⟨fs, hr, hrun, hended, hW, hsame⟩ := X1.leave (v := some (.int w_ordinal_0)) (fun h => by rw [Bd.returns] at h; cases h)
  refine ⟨_, _, pre2 _ ?_, hrun, hended, _, _, rfl, ?_, ⟨_, rfl⟩, hW, hsame.mono (by decide) (by decide)⟩
  · show Steps p.tables e below (T1.setTop (mkF m 4 #[.val (.ref a0)] [(.int w_ordinal_0)])) _
    exact retI X1 hx Bd.returns (hb hby d2_4) hr
  · show Q2 Z _ _ h0 n0 _ T1.heap _
    rw [e1]
    exact ⟨rfl, N0, rfl⟩
theorem pd_0 : parseMethodDescriptor "()I" = some ⟨[], some .int⟩ := by decide +kernel
theorem pn_1 : plainName "cartouche/mapping/ValueConstraint$Bound$Side" = true := by first | (simp [plainName, overriddenIn]; done) | decide +kernel
theorem d1_0 : decode prog_99_method_4_code 0 = .ok (.aload_n 0, 1) := by decide +kernel
theorem d1_1 : decode prog_99_method_4_code 1 = .ok (.invokevirtual 29, 3) := by decide +kernel
theorem d1_4 : decode prog_99_method_4_code 4 = .ok (.lookupswitch 28 #[(0, 38), (1, 50)], 28) := by decide +kernel
theorem d1_42 : decode prog_99_method_4_code 42 = .ok (.iload_n 1, 1) := by decide +kernel
theorem d1_43 : decode prog_99_method_4_code 43 = .ok (.ifCond .lt 7, 3) := by decide +kernel
theorem d1_46 : decode prog_99_method_4_code 46 = .ok (.iconst 1, 1) := by decide +kernel
theorem d1_47 : decode prog_99_method_4_code 47 = .ok (.goto 16, 3) := by decide +kernel
theorem d1_50 : decode prog_99_method_4_code 50 = .ok (.iconst 0, 1) := by decide +kernel
theorem d1_51 : decode prog_99_method_4_code 51 = .ok (.goto 12, 3) := by decide +kernel
theorem d1_63 : decode prog_99_method_4_code 63 = .ok (.ireturn, 1) := by decide +kernel
theorem ef_1a (m : MethodId) (x0 : Addr) (x1 : Int32)  : entryFrame m #[(.ref x0), (.int x1)] 2 = mkF m 0 #[.val (.ref x0), .val (.int x1)] [] := by first | (simp [entryFrame, mkF, argsToLocals, Value.category]; done) | rfl
def Q1a (Z : State) (a0 : Addr) (p1 : Int32) (h0 : Heap) (n0 : Nat) (v : Option Value) (h : Heap) (L : List Loc) : Prop := (∃ r : Int32, v = some (.int r) ∧ ((p1 < (0 : Int32) → (0 : Int32) = r) ∧ (¬ p1 < (0 : Int32) → (1 : Int32) = r))) ∧ Fr n0 L ∧ h = h0
set_option maxRecDepth 65536 in
set_option maxHeartbeats 40000000 in
theorem rm1a (l : Launch) (Z : State) (aw : Array Value) (hw : ∀ d ∈ tables_1, d.before aw Z = true) (ws : List Jvm.Cond) (a0 : Addr) (p1 : Int32) (h0 : Heap) (n0 : Nat) (Z0 : n0 ≤ h0.size) (Ff_ordinal_0 : Fld Z h0 a0 "java/lang/Enum" "ordinal" "I" (.int (0 : Int32))) (Exa_1 : Exa Z h0 a0 "cartouche/mapping/ValueConstraint$Bound$Side") :
    MetFree l (⟨"cartouche/mapping/ValueConstraint$Bound$Side", "holds", "(I)Z"⟩ : MethodName) (head1 (Jvm.Cond.code (⟨"cartouche/mapping/ValueConstraint$Bound$Side", "holds", "(I)Z"⟩ : MethodName) prog_99_method_4_code 2 (some .boolean) :: ws) ({ frames := 1, cells := 0, slots := 0, locals := 12 } : Room)) (fun a U => a = #[(.ref a0), (.int p1)] ∧ Z.Warmed39 U.vm ∧ U.heap = h0) (fun _ _ _ _ _ => True) (fun _ U o U' => ∃ v L, o = .returned v ∧ Q1a Z a0 p1 h0 n0 v U'.heap L ∧ FrameEnd U o U' L ({ frames := 1, cells := 0, slots := 0, locals := 12 } : Room).cells ({ frames := 1, cells := 0, slots := 0, locals := 12 } : Room).slots) := by
  refine MetFree.of_bodySF (plainFor_of_name pn_1) hisR ?_
  intro p e s m args below meth c s₁ Bd hml0 hP hK
  obtain ⟨rfl, hZ, hh⟩ := hP
  have hx := Bd.exec
  have hby := Bd.bytes
  have hml : c.maxLocals = 2 := hml0
  have hown : s.vm.findClass "cartouche/mapping/ValueConstraint$Bound$Side" = some m.cls := findClass_of_methodNamed Bd.named
  have hnm := (name_of_methodNamed Bd.named Bd.method).1
  have X0 : Stand p l e ({ frames := 1, cells := 0, slots := 0, locals := 12 } : Room) s m #[(.ref a0), (.int p1)] below meth c s₁ [] 0 0 := Stand.of_body Bd
  have e0 : s₁.heap = h0 := by rw [← hh, Bd.state]; rfl
  have N0 := Fr.nil n0
  have pre0 : ∀ t, Steps p.tables e below (s₁.setTop (mkF m 0 #[.val (.ref a0), .val (.int p1)] [])) t → Steps p.tables e below (s₁.setTop (entryFrame m #[(.ref a0), (.int p1)] 2)) t := fun t k => castTop (ef_1a m a0 p1 ) k
  obtain ⟨cq1, kq1, q1a, q1b, q1c⟩ := isOf hZ e0 Exa_1
  obtain ⟨_, _, ⟨T1, L1, k1, n1⟩, -, X1, ⟨Lc1, hQ1, l1, y1, z1⟩, st1⟩ := X0.virtualBackUp hx (x := (⟨"cartouche/mapping/ValueConstraint$Bound$Side", "ordinal", "()I"⟩ : MethodName)) (y := (⟨"java/lang/Enum", "ordinal", "()I"⟩ : MethodName)) hown (mvT hZ (hw _ (List.mem_of_getElem? (i := 8) rfl))) (mvT hZ (hw _ (List.mem_of_getElem? (i := 9) rfl))) (mvT hZ (hw _ (List.mem_of_getElem? (i := 10) rfl))) (by decide) (mvT hZ (hw _ (List.mem_of_getElem? (i := 12) rfl))) (mvT hZ (hw _ (List.mem_of_getElem? (i := 11) rfl))) (backOf (W := 0) (rm2 l Z aw hw [] a0 (0 : Int32) h0 n0 Z0 Ff_ordinal_0) hZ (hw _ (List.mem_of_getElem? (i := 14) rfl)) (hw _ (List.mem_of_getElem? (i := 13) rfl)) (by decide) (by decide)) q1a q1c (g := (mkF m 1 #[.val (.ref a0), .val (.int p1)] [(.ref a0)])) rfl (by rw [hml]; rfl) (Steps.refl _) (argsL := []) (rest := []) (lenOf pd_0 rfl) rfl (by show 2 * 0 + _ ≤ _; exact Nat.le_of_eq rfl) (hb hby d1_1) (fun _ _ => ⟨rfl, e0, (by decide : 0 + 0 ≤ _), (by decide : 0 + 0 ≤ _)⟩)
  dsimp only [Pt.U, Pt.locs, Pt.cells, Pt.slots] at X1 l1 y1 z1 st1 hQ1
  subst l1 y1 z1
  obtain ⟨rfl, Nq1, e1⟩ := hQ1
  have N1 := Fr.app N0 Nq1
  have pre2 : ∀ t, Steps p.tables e below (T1.setTop (mkF m 43 #[.val (.ref a0), .val (.int p1)] [(.int p1)])) t → Steps p.tables e below (s₁.setTop (entryFrame m #[(.ref a0), (.int p1)] 2)) t := fun t kt => pre0 t (by
      show Steps p.tables e below (s₁.setTop (mkF m 0 #[.val (.ref a0), .val (.int p1)] [])) _
      refine XS.aloadN X0.here hx rfl (hb hby d1_0) rfl rfl ?_
      show Steps p.tables e below (s₁.setTop (mkF m 1 #[.val (.ref a0), .val (.int p1)] [(.ref a0)])) _
      refine st1.trans ?_
      show Steps p.tables e below (T1.setTop (mkF m 4 #[.val (.ref a0), .val (.int p1)] [(.int (0 : Int32))])) _
      refine X1.lookupswitchHit hx (g := (mkF m 4 #[.val (.ref a0), .val (.int p1)] [(.int (0 : Int32))])) rfl rfl (hb hby d1_4) (by decide) (a := 0) (off := 38) (by decide) (by show (0 : Int) ≤ ((4 : Nat) : Int) + 38; decide) _ ?_
      show Steps p.tables e below (T1.setTop (mkF m 42 #[.val (.ref a0), .val (.int p1)] [])) _
      refine XS.iloadN X1.here hx rfl (hb hby d1_42) rfl ?_
      exact kt)
  by_cases hc3 : p1 < (0 : Int32)
  · skip
    have pre4 : ∀ t, Steps p.tables e below (T1.setTop (mkF m 63 #[.val (.ref a0), .val (.int p1)] [(.int (0 : Int32))])) t → Steps p.tables e below (s₁.setTop (entryFrame m #[(.ref a0), (.int p1)] 2)) t := fun t kt => pre2 t (by
        show Steps p.tables e below (T1.setTop (mkF m 43 #[.val (.ref a0), .val (.int p1)] [(.int p1)])) _
        refine XS.ifYes X1.here hx rfl (pc0 := 43) (pc' := 50) rfl (hb hby d1_43) rfl ((if0 _ _).trans (tlt hc3).1) (by decide) (by decide) ?_
        show Steps p.tables e below (T1.setTop (mkF m 50 #[.val (.ref a0), .val (.int p1)] [])) _
        refine XS.iconst X1.here hx rfl (hb hby d1_50) ?_
        show Steps p.tables e below (T1.setTop (mkF m 51 #[.val (.ref a0), .val (.int p1)] [(.int (0 : Int32))])) _
        refine XS.goto X1.here hx rfl (pc0 := 51) (pc' := 63) rfl (hb hby d1_51) (by decide) (by decide) ?_
        exact kt)
    obtain ⟨fs, hr, hrun, hended, hW, hsame⟩ := X1.leave (v := some (.int (0 : Int32))) (fun h => by rw [Bd.returns] at h; cases h)
    refine ⟨_, _, pre4 _ ?_, hrun, hended, _, _, rfl, ?_, ⟨_, rfl⟩, hW, hsame.mono (by decide) (by decide)⟩
    · show Steps p.tables e below (T1.setTop (mkF m 63 #[.val (.ref a0), .val (.int p1)] [(.int (0 : Int32))])) _
      exact retN X1 hx (t := .boolean) Bd.returns (by simp) (hb hby d1_63) hr
    · show Q1a Z _ _ h0 n0 _ T1.heap _
      rw [e1]
      exact ⟨⟨_, rfl, by simp [hc3]⟩, N1, rfl⟩
  · skip
    have pre5 : ∀ t, Steps p.tables e below (T1.setTop (mkF m 63 #[.val (.ref a0), .val (.int p1)] [(.int (1 : Int32))])) t → Steps p.tables e below (s₁.setTop (entryFrame m #[(.ref a0), (.int p1)] 2)) t := fun t kt => pre2 t (by
        show Steps p.tables e below (T1.setTop (mkF m 43 #[.val (.ref a0), .val (.int p1)] [(.int p1)])) _
        refine XS.ifNo X1.here hx rfl (hb hby d1_43) rfl ((if0 _ _).trans (flt hc3).1) ?_
        show Steps p.tables e below (T1.setTop (mkF m 46 #[.val (.ref a0), .val (.int p1)] [])) _
        refine XS.iconst X1.here hx rfl (hb hby d1_46) ?_
        show Steps p.tables e below (T1.setTop (mkF m 47 #[.val (.ref a0), .val (.int p1)] [(.int (1 : Int32))])) _
        refine XS.goto X1.here hx rfl (pc0 := 47) (pc' := 63) rfl (hb hby d1_47) (by decide) (by decide) ?_
        exact kt)
    obtain ⟨fs, hr, hrun, hended, hW, hsame⟩ := X1.leave (v := some (.int (1 : Int32))) (fun h => by rw [Bd.returns] at h; cases h)
    refine ⟨_, _, pre5 _ ?_, hrun, hended, _, _, rfl, ?_, ⟨_, rfl⟩, hW, hsame.mono (by decide) (by decide)⟩
    · show Steps p.tables e below (T1.setTop (mkF m 63 #[.val (.ref a0), .val (.int p1)] [(.int (1 : Int32))])) _
      exact retN X1 hx (t := .boolean) Bd.returns (by simp) (hb hby d1_63) hr
    · show Q1a Z _ _ h0 n0 _ T1.heap _
      rw [e1]
      exact ⟨⟨_, rfl, by simp [hc3]⟩, N1, rfl⟩
theorem d1_54 : decode prog_99_method_4_code 54 = .ok (.iload_n 1, 1) := by decide +kernel
theorem d1_55 : decode prog_99_method_4_code 55 = .ok (.ifCond .gt 7, 3) := by decide +kernel
theorem d1_58 : decode prog_99_method_4_code 58 = .ok (.iconst 1, 1) := by decide +kernel
theorem d1_59 : decode prog_99_method_4_code 59 = .ok (.goto 4, 3) := by decide +kernel
theorem d1_62 : decode prog_99_method_4_code 62 = .ok (.iconst 0, 1) := by decide +kernel
theorem ef_1b (m : MethodId) (x0 : Addr) (x1 : Int32)  : entryFrame m #[(.ref x0), (.int x1)] 2 = mkF m 0 #[.val (.ref x0), .val (.int x1)] [] := by first | (simp [entryFrame, mkF, argsToLocals, Value.category]; done) | rfl
def Q1b (Z : State) (a0 : Addr) (p1 : Int32) (h0 : Heap) (n0 : Nat) (v : Option Value) (h : Heap) (L : List Loc) : Prop := (∃ r : Int32, v = some (.int r) ∧ (((0 : Int32) < p1 → (0 : Int32) = r) ∧ (¬ (0 : Int32) < p1 → (1 : Int32) = r))) ∧ Fr n0 L ∧ h = h0
set_option maxRecDepth 65536 in
set_option maxHeartbeats 40000000 in
theorem rm1b (l : Launch) (Z : State) (aw : Array Value) (hw : ∀ d ∈ tables_1, d.before aw Z = true) (ws : List Jvm.Cond) (a0 : Addr) (p1 : Int32) (h0 : Heap) (n0 : Nat) (Z0 : n0 ≤ h0.size) (Ff_ordinal_0 : Fld Z h0 a0 "java/lang/Enum" "ordinal" "I" (.int (1 : Int32))) (Exa_1 : Exa Z h0 a0 "cartouche/mapping/ValueConstraint$Bound$Side") :
    MetFree l (⟨"cartouche/mapping/ValueConstraint$Bound$Side", "holds", "(I)Z"⟩ : MethodName) (head1 (Jvm.Cond.code (⟨"cartouche/mapping/ValueConstraint$Bound$Side", "holds", "(I)Z"⟩ : MethodName) prog_99_method_4_code 2 (some .boolean) :: ws) ({ frames := 1, cells := 0, slots := 0, locals := 12 } : Room)) (fun a U => a = #[(.ref a0), (.int p1)] ∧ Z.Warmed39 U.vm ∧ U.heap = h0) (fun _ _ _ _ _ => True) (fun _ U o U' => ∃ v L, o = .returned v ∧ Q1b Z a0 p1 h0 n0 v U'.heap L ∧ FrameEnd U o U' L ({ frames := 1, cells := 0, slots := 0, locals := 12 } : Room).cells ({ frames := 1, cells := 0, slots := 0, locals := 12 } : Room).slots) := by
  refine MetFree.of_bodySF (plainFor_of_name pn_1) hisR ?_
  intro p e s m args below meth c s₁ Bd hml0 hP hK
  obtain ⟨rfl, hZ, hh⟩ := hP
  have hx := Bd.exec
  have hby := Bd.bytes
  have hml : c.maxLocals = 2 := hml0
  have hown : s.vm.findClass "cartouche/mapping/ValueConstraint$Bound$Side" = some m.cls := findClass_of_methodNamed Bd.named
  have hnm := (name_of_methodNamed Bd.named Bd.method).1
  have X0 : Stand p l e ({ frames := 1, cells := 0, slots := 0, locals := 12 } : Room) s m #[(.ref a0), (.int p1)] below meth c s₁ [] 0 0 := Stand.of_body Bd
  have e0 : s₁.heap = h0 := by rw [← hh, Bd.state]; rfl
  have N0 := Fr.nil n0
  have pre0 : ∀ t, Steps p.tables e below (s₁.setTop (mkF m 0 #[.val (.ref a0), .val (.int p1)] [])) t → Steps p.tables e below (s₁.setTop (entryFrame m #[(.ref a0), (.int p1)] 2)) t := fun t k => castTop (ef_1b m a0 p1 ) k
  obtain ⟨cq1, kq1, q1a, q1b, q1c⟩ := isOf hZ e0 Exa_1
  obtain ⟨_, _, ⟨T1, L1, k1, n1⟩, -, X1, ⟨Lc1, hQ1, l1, y1, z1⟩, st1⟩ := X0.virtualBackUp hx (x := (⟨"cartouche/mapping/ValueConstraint$Bound$Side", "ordinal", "()I"⟩ : MethodName)) (y := (⟨"java/lang/Enum", "ordinal", "()I"⟩ : MethodName)) hown (mvT hZ (hw _ (List.mem_of_getElem? (i := 8) rfl))) (mvT hZ (hw _ (List.mem_of_getElem? (i := 9) rfl))) (mvT hZ (hw _ (List.mem_of_getElem? (i := 10) rfl))) (by decide) (mvT hZ (hw _ (List.mem_of_getElem? (i := 12) rfl))) (mvT hZ (hw _ (List.mem_of_getElem? (i := 11) rfl))) (backOf (W := 0) (rm2 l Z aw hw [] a0 (1 : Int32) h0 n0 Z0 Ff_ordinal_0) hZ (hw _ (List.mem_of_getElem? (i := 14) rfl)) (hw _ (List.mem_of_getElem? (i := 13) rfl)) (by decide) (by decide)) q1a q1c (g := (mkF m 1 #[.val (.ref a0), .val (.int p1)] [(.ref a0)])) rfl (by rw [hml]; rfl) (Steps.refl _) (argsL := []) (rest := []) (lenOf pd_0 rfl) rfl (by show 2 * 0 + _ ≤ _; exact Nat.le_of_eq rfl) (hb hby d1_1) (fun _ _ => ⟨rfl, e0, (by decide : 0 + 0 ≤ _), (by decide : 0 + 0 ≤ _)⟩)
  dsimp only [Pt.U, Pt.locs, Pt.cells, Pt.slots] at X1 l1 y1 z1 st1 hQ1
  subst l1 y1 z1
  obtain ⟨rfl, Nq1, e1⟩ := hQ1
  have N1 := Fr.app N0 Nq1
  have pre2 : ∀ t, Steps p.tables e below (T1.setTop (mkF m 55 #[.val (.ref a0), .val (.int p1)] [(.int p1)])) t → Steps p.tables e below (s₁.setTop (entryFrame m #[(.ref a0), (.int p1)] 2)) t := fun t kt => pre0 t (by
      show Steps p.tables e below (s₁.setTop (mkF m 0 #[.val (.ref a0), .val (.int p1)] [])) _
      refine XS.aloadN X0.here hx rfl (hb hby d1_0) rfl rfl ?_
      show Steps p.tables e below (s₁.setTop (mkF m 1 #[.val (.ref a0), .val (.int p1)] [(.ref a0)])) _
      refine st1.trans ?_
      show Steps p.tables e below (T1.setTop (mkF m 4 #[.val (.ref a0), .val (.int p1)] [(.int (1 : Int32))])) _
      refine X1.lookupswitchHit hx (g := (mkF m 4 #[.val (.ref a0), .val (.int p1)] [(.int (1 : Int32))])) rfl rfl (hb hby d1_4) (by decide) (a := 1) (off := 50) (by decide) (by show (0 : Int) ≤ ((4 : Nat) : Int) + 50; decide) _ ?_
      show Steps p.tables e below (T1.setTop (mkF m 54 #[.val (.ref a0), .val (.int p1)] [])) _
      refine XS.iloadN X1.here hx rfl (hb hby d1_54) rfl ?_
      exact kt)
  by_cases hc3 : (0 : Int32) < p1
  · skip
    have pre4 : ∀ t, Steps p.tables e below (T1.setTop (mkF m 63 #[.val (.ref a0), .val (.int p1)] [(.int (0 : Int32))])) t → Steps p.tables e below (s₁.setTop (entryFrame m #[(.ref a0), (.int p1)] 2)) t := fun t kt => pre2 t (by
        show Steps p.tables e below (T1.setTop (mkF m 55 #[.val (.ref a0), .val (.int p1)] [(.int p1)])) _
        refine XS.ifYes X1.here hx rfl (pc0 := 55) (pc' := 62) rfl (hb hby d1_55) rfl ((if0 _ _).trans (tlt hc3).2.2.1) (by decide) (by decide) ?_
        show Steps p.tables e below (T1.setTop (mkF m 62 #[.val (.ref a0), .val (.int p1)] [])) _
        refine XS.iconst X1.here hx rfl (hb hby d1_62) ?_
        exact kt)
    obtain ⟨fs, hr, hrun, hended, hW, hsame⟩ := X1.leave (v := some (.int (0 : Int32))) (fun h => by rw [Bd.returns] at h; cases h)
    refine ⟨_, _, pre4 _ ?_, hrun, hended, _, _, rfl, ?_, ⟨_, rfl⟩, hW, hsame.mono (by decide) (by decide)⟩
    · show Steps p.tables e below (T1.setTop (mkF m 63 #[.val (.ref a0), .val (.int p1)] [(.int (0 : Int32))])) _
      exact retN X1 hx (t := .boolean) Bd.returns (by simp) (hb hby d1_63) hr
    · show Q1b Z _ _ h0 n0 _ T1.heap _
      rw [e1]
      exact ⟨⟨_, rfl, by simp [hc3]⟩, N1, rfl⟩
  · skip
    have pre5 : ∀ t, Steps p.tables e below (T1.setTop (mkF m 63 #[.val (.ref a0), .val (.int p1)] [(.int (1 : Int32))])) t → Steps p.tables e below (s₁.setTop (entryFrame m #[(.ref a0), (.int p1)] 2)) t := fun t kt => pre2 t (by
        show Steps p.tables e below (T1.setTop (mkF m 55 #[.val (.ref a0), .val (.int p1)] [(.int p1)])) _
        refine XS.ifNo X1.here hx rfl (hb hby d1_55) rfl ((if0 _ _).trans (flt hc3).2.2.1) ?_
        show Steps p.tables e below (T1.setTop (mkF m 58 #[.val (.ref a0), .val (.int p1)] [])) _
        refine XS.iconst X1.here hx rfl (hb hby d1_58) ?_
        show Steps p.tables e below (T1.setTop (mkF m 59 #[.val (.ref a0), .val (.int p1)] [(.int (1 : Int32))])) _
        refine XS.goto X1.here hx rfl (pc0 := 59) (pc' := 63) rfl (hb hby d1_59) (by decide) (by decide) ?_
        exact kt)
    obtain ⟨fs, hr, hrun, hended, hW, hsame⟩ := X1.leave (v := some (.int (1 : Int32))) (fun h => by rw [Bd.returns] at h; cases h)
    refine ⟨_, _, pre5 _ ?_, hrun, hended, _, _, rfl, ?_, ⟨_, rfl⟩, hW, hsame.mono (by decide) (by decide)⟩
    · show Steps p.tables e below (T1.setTop (mkF m 63 #[.val (.ref a0), .val (.int p1)] [(.int (1 : Int32))])) _
      exact retN X1 hx (t := .boolean) Bd.returns (by simp) (hb hby d1_63) hr
    · show Q1b Z _ _ h0 n0 _ T1.heap _
      rw [e1]
      exact ⟨⟨_, rfl, by simp [hc3]⟩, N1, rfl⟩
theorem pd_1 : parseMethodDescriptor "(I)Z" = some ⟨[.int], some .boolean⟩ := by decide +kernel
theorem pn_2 : plainName "cartouche/mapping/SideHoldsPinLaw" = true := by first | (simp [plainName, overriddenIn]; done) | decide +kernel
theorem ef_0 (m : MethodId) (x0 : Int32)  : entryFrame m #[(.int x0)] maxLocals = mkF m 0 #[.val (.int x0), .unset, .unset, .unset, .unset] [] := by first | (simp [entryFrame, mkF, argsToLocals, Value.category, maxLocals]; done) | rfl
def Q0 (Z : State) (p0 : Int32) (w_AT_LEAST_1 : Addr) (w_AT_MOST_3 : Addr) (h0 : Heap) (n0 : Nat) (v : Option Value) (h : Heap) (L : List Loc) : Prop := v = some (.int (1 : Int32)) ∧ Fr n0 L ∧ h = h0
set_option maxRecDepth 65536 in
set_option maxHeartbeats 40000000 in
theorem rm0 (l : Launch) (Z : State) (aw : Array Value) (hw : ∀ d ∈ tables_1, d.before aw Z = true) (ws : List Jvm.Cond) (p0 : Int32) (w_AT_LEAST_1 : Addr) (w_AT_MOST_3 : Addr) (h0 : Heap) (n0 : Nat) (Z0 : n0 ≤ h0.size) (S_AT_LEAST_0 : Sta Z h0 "cartouche/mapping/ValueConstraint$Bound$Side" "AT_LEAST" "Lcartouche/mapping/ValueConstraint$Bound$Side;" (.ref w_AT_LEAST_1)) (E_1 : Exa Z h0 w_AT_LEAST_1 "cartouche/mapping/ValueConstraint$Bound$Side") (F_ordinal_2 : Fld Z h0 w_AT_LEAST_1 "java/lang/Enum" "ordinal" "I" (.int (0 : Int32))) (S_AT_MOST_3 : Sta Z h0 "cartouche/mapping/ValueConstraint$Bound$Side" "AT_MOST" "Lcartouche/mapping/ValueConstraint$Bound$Side;" (.ref w_AT_MOST_3)) (E_4 : Exa Z h0 w_AT_MOST_3 "cartouche/mapping/ValueConstraint$Bound$Side") (F_ordinal_5 : Fld Z h0 w_AT_MOST_3 "java/lang/Enum" "ordinal" "I" (.int (1 : Int32))) :
    MetFree l x (head1 (Jvm.Cond.code x code maxLocals ret :: ws) room_1) (fun a U => a = #[(.int p0)] ∧ Z.Warmed39 U.vm ∧ U.heap = h0) (fun _ _ _ _ _ => True) (fun _ U o U' => ∃ v L, o = .returned v ∧ Q0 Z p0 w_AT_LEAST_1 w_AT_MOST_3 h0 n0 v U'.heap L ∧ FrameEnd U o U' L room_1.cells room_1.slots) := by
  refine MetFree.of_bodySF (plainFor_of_name pn_2) hisR ?_
  intro p e s m args below meth c s₁ Bd hml0 hP hK
  obtain ⟨rfl, hZ, hh⟩ := hP
  have hx := Bd.exec
  have hby := Bd.bytes
  have hml : c.maxLocals = 5 := hml0
  have hown : s.vm.findClass "cartouche/mapping/SideHoldsPinLaw" = some m.cls := findClass_of_methodNamed Bd.named
  have hnm := (name_of_methodNamed Bd.named Bd.method).1
  have X0 : Stand p l e room_1 s m #[(.int p0)] below meth c s₁ [] 0 0 := Stand.of_body Bd
  have e0 : s₁.heap = h0 := by rw [← hh, Bd.state]; rfl
  have N0 := Fr.nil n0
  have pre0 : ∀ t, Steps p.tables e below (s₁.setTop (mkF m 0 #[.val (.int p0), .unset, .unset, .unset, .unset] [])) t → Steps p.tables e below (s₁.setTop (entryFrame m #[(.int p0)] maxLocals)) t := fun t k => castTop (ef_0 m p0 ) k
  obtain ⟨T1, X1, e1, st1⟩ := getS2 X0 hx hZ hown (host := "") (Or.inl (hw _ (List.mem_of_getElem? (i := 0) rfl))) Via.refl e0 S_AT_LEAST_0 (g := (mkF m 0 #[.val (.int p0), .unset, .unset, .unset, .unset] [])) rfl (hb hby at_0)
  obtain ⟨cq2, kq2, q2a, q2b, q2c⟩ := isOf hZ e1 E_1
  obtain ⟨_, _, ⟨T2, L2, k2, n2⟩, -, X2, ⟨Lc2, hQ2, l2, y2, z2⟩, st2⟩ := X1.virtualBack hx (y := (⟨"cartouche/mapping/ValueConstraint$Bound$Side", "holds", "(I)Z"⟩ : MethodName)) (z := (⟨"cartouche/mapping/ValueConstraint$Bound$Side", "holds", "(I)Z"⟩ : MethodName)) hown (mvT hZ (hw _ (List.mem_of_getElem? (i := 3) rfl))) (mvT hZ (hw _ (List.mem_of_getElem? (i := 4) rfl))) (notFace_of_selects (args := #[]) (mvT hZ (hw _ (List.mem_of_getElem? (i := 6) rfl)))) (mvT hZ (hw _ (List.mem_of_getElem? (i := 6) rfl))) (mvT hZ (hw _ (List.mem_of_getElem? (i := 5) rfl))) (by decide) (backOf (W := 0) (rm1a l Z aw hw [] w_AT_LEAST_1 p0 h0 n0 Z0 F_ordinal_2 E_1) hZ (hw _ (List.mem_of_getElem? (i := 7) rfl)) (hw _ (List.mem_of_getElem? (i := 1) rfl)) (by decide) (by decide)) q2a q2c (g := (mkF m 4 #[.val (.int p0), .unset, .unset, .unset, .unset] [(.int p0), (.ref w_AT_LEAST_1)])) rfl (by rw [hml]; rfl) (Steps.refl _) (argsL := [(.int p0)]) (rest := []) (lenOf pd_1 rfl) rfl (by show 2 * 0 + _ ≤ _; exact Nat.le_of_eq rfl) (hb hby at_4) (fun _ _ => ⟨rfl, e1, (by decide : 0 + 0 ≤ _), (by decide : 0 + 0 ≤ _)⟩)
  dsimp only [Pt.U, Pt.locs, Pt.cells, Pt.slots] at X2 l2 y2 z2 st2 hQ2
  subst l2 y2 z2
  obtain ⟨⟨r3, rfl, Pr3⟩, Nq2, e2⟩ := hQ2
  have N2 := Fr.app N0 Nq2
  obtain ⟨T4, X4, e4, st4⟩ := getS2 X2 hx hZ hown (host := "") (Or.inl (hw _ (List.mem_of_getElem? (i := 17) rfl))) Via.refl e2 S_AT_MOST_3 (g := (mkF m 8 #[.val (.int p0), .val (.int r3), .unset, .unset, .unset] [])) rfl (hb hby at_8)
  obtain ⟨cq5, kq5, q5a, q5b, q5c⟩ := isOf hZ e4 E_4
  obtain ⟨_, _, ⟨T5, L5, k5, n5⟩, -, X5, ⟨Lc5, hQ5, l5, y5, z5⟩, st5⟩ := X4.virtualBack hx (y := (⟨"cartouche/mapping/ValueConstraint$Bound$Side", "holds", "(I)Z"⟩ : MethodName)) (z := (⟨"cartouche/mapping/ValueConstraint$Bound$Side", "holds", "(I)Z"⟩ : MethodName)) hown (mvT hZ (hw _ (List.mem_of_getElem? (i := 3) rfl))) (mvT hZ (hw _ (List.mem_of_getElem? (i := 4) rfl))) (notFace_of_selects (args := #[]) (mvT hZ (hw _ (List.mem_of_getElem? (i := 6) rfl)))) (mvT hZ (hw _ (List.mem_of_getElem? (i := 6) rfl))) (mvT hZ (hw _ (List.mem_of_getElem? (i := 5) rfl))) (by decide) (backOf (W := 0) (rm1b l Z aw hw [] w_AT_MOST_3 p0 h0 n0 Z0 F_ordinal_5 E_4) hZ (hw _ (List.mem_of_getElem? (i := 7) rfl)) (hw _ (List.mem_of_getElem? (i := 1) rfl)) (by decide) (by decide)) q5a q5c (g := (mkF m 12 #[.val (.int p0), .val (.int r3), .unset, .unset, .unset] [(.int p0), (.ref w_AT_MOST_3)])) rfl (by rw [hml]; rfl) (Steps.refl _) (argsL := [(.int p0)]) (rest := []) (lenOf pd_1 rfl) rfl (by show 2 * 0 + _ ≤ _; exact Nat.le_of_eq rfl) (hb hby at_12) (fun _ _ => ⟨rfl, e4, (by decide : 0 + 0 ≤ _), (by decide : 0 + 0 ≤ _)⟩)
  dsimp only [Pt.U, Pt.locs, Pt.cells, Pt.slots] at X5 l5 y5 z5 st5 hQ5
  subst l5 y5 z5
  obtain ⟨⟨r6, rfl, Pr6⟩, Nq5, e5⟩ := hQ5
  have N5 := Fr.app N2 Nq5
  have pre7 : ∀ t, Steps p.tables e below (T5.setTop (mkF m 17 #[.val (.int p0), .val (.int r3), .val (.int r6), .unset, .unset] [(.int p0)])) t → Steps p.tables e below (s₁.setTop (entryFrame m #[(.int p0)] maxLocals)) t := fun t kt => pre0 t (by
      show Steps p.tables e below (s₁.setTop (mkF m 0 #[.val (.int p0), .unset, .unset, .unset, .unset] [])) _
      refine st1 _ ?_
      show Steps p.tables e below (T1.setTop (mkF m 3 #[.val (.int p0), .unset, .unset, .unset, .unset] [(.ref w_AT_LEAST_1)])) _
      refine XS.iloadN X1.here hx rfl (hb hby at_3) rfl ?_
      show Steps p.tables e below (T1.setTop (mkF m 4 #[.val (.int p0), .unset, .unset, .unset, .unset] [(.int p0), (.ref w_AT_LEAST_1)])) _
      refine st2.trans ?_
      show Steps p.tables e below (T2.setTop (mkF m 7 #[.val (.int p0), .unset, .unset, .unset, .unset] [(.int r3)])) _
      refine XS.istoreN X2.here hx rfl (hb hby at_7) rfl (l' := #[.val (.int p0), .val (.int r3), .unset, .unset, .unset]) rfl ?_
      show Steps p.tables e below (T2.setTop (mkF m 8 #[.val (.int p0), .val (.int r3), .unset, .unset, .unset] [])) _
      refine st4 _ ?_
      show Steps p.tables e below (T4.setTop (mkF m 11 #[.val (.int p0), .val (.int r3), .unset, .unset, .unset] [(.ref w_AT_MOST_3)])) _
      refine XS.iloadN X4.here hx rfl (hb hby at_11) rfl ?_
      show Steps p.tables e below (T4.setTop (mkF m 12 #[.val (.int p0), .val (.int r3), .unset, .unset, .unset] [(.int p0), (.ref w_AT_MOST_3)])) _
      refine st5.trans ?_
      show Steps p.tables e below (T5.setTop (mkF m 15 #[.val (.int p0), .val (.int r3), .unset, .unset, .unset] [(.int r6)])) _
      refine XS.istoreN X5.here hx rfl (hb hby at_15) rfl (l' := #[.val (.int p0), .val (.int r3), .val (.int r6), .unset, .unset]) rfl ?_
      show Steps p.tables e below (T5.setTop (mkF m 16 #[.val (.int p0), .val (.int r3), .val (.int r6), .unset, .unset] [])) _
      refine XS.iloadN X5.here hx rfl (hb hby at_16) rfl ?_
      exact kt)
  by_cases hc8 : p0 < (0 : Int32)
  · skip
    have pre9 : ∀ t, Steps p.tables e below (T5.setTop (mkF m 45 #[.val (.int p0), .val (.int r3), .val (.int r6), .val (.int (0 : Int32)), .val (.int (1 : Int32))] [])) t → Steps p.tables e below (s₁.setTop (entryFrame m #[(.int p0)] maxLocals)) t := fun t kt => pre7 t (by
        show Steps p.tables e below (T5.setTop (mkF m 17 #[.val (.int p0), .val (.int r3), .val (.int r6), .unset, .unset] [(.int p0)])) _
        refine XS.ifNo X5.here hx rfl (hb hby at_17) rfl ((if0 _ _).trans (tlt hc8).2.1) ?_
        show Steps p.tables e below (T5.setTop (mkF m 20 #[.val (.int p0), .val (.int r3), .val (.int r6), .unset, .unset] [])) _
        refine XS.iconst X5.here hx rfl (hb hby at_20) ?_
        show Steps p.tables e below (T5.setTop (mkF m 21 #[.val (.int p0), .val (.int r3), .val (.int r6), .unset, .unset] [(.int (0 : Int32))])) _
        refine XS.istoreN X5.here hx rfl (hb hby at_21) rfl (l' := #[.val (.int p0), .val (.int r3), .val (.int r6), .val (.int (0 : Int32)), .unset]) rfl ?_
        show Steps p.tables e below (T5.setTop (mkF m 22 #[.val (.int p0), .val (.int r3), .val (.int r6), .val (.int (0 : Int32)), .unset] [])) _
        refine XS.iconst X5.here hx rfl (hb hby at_22) ?_
        show Steps p.tables e below (T5.setTop (mkF m 23 #[.val (.int p0), .val (.int r3), .val (.int r6), .val (.int (0 : Int32)), .unset] [(.int (1 : Int32))])) _
        refine XS.istore X5.here hx rfl (hb hby at_23) rfl (l' := #[.val (.int p0), .val (.int r3), .val (.int r6), .val (.int (0 : Int32)), .val (.int (1 : Int32))]) rfl ?_
        show Steps p.tables e below (T5.setTop (mkF m 25 #[.val (.int p0), .val (.int r3), .val (.int r6), .val (.int (0 : Int32)), .val (.int (1 : Int32))] [])) _
        refine XS.goto X5.here hx rfl (pc0 := 25) (pc' := 45) rfl (hb hby at_25) (by decide) (by decide) ?_
        exact kt)
    obtain rfl : (0 : Int32) = r3 := Pr3.1 hc8
    obtain rfl : (1 : Int32) = r6 := Pr6.2 (own_na hc8)
    have pre10 : ∀ t, Steps p.tables e below (T5.setTop (mkF m 61 #[.val (.int p0), .val (.int (0 : Int32)), .val (.int (1 : Int32)), .val (.int (0 : Int32)), .val (.int (1 : Int32))] [(.int (1 : Int32))])) t → Steps p.tables e below (s₁.setTop (entryFrame m #[(.int p0)] maxLocals)) t := fun t kt => pre9 t (by
        show Steps p.tables e below (T5.setTop (mkF m 45 #[.val (.int p0), .val (.int (0 : Int32)), .val (.int (1 : Int32)), .val (.int (0 : Int32)), .val (.int (1 : Int32))] [])) _
        refine XS.iloadN X5.here hx rfl (hb hby at_45) rfl ?_
        show Steps p.tables e below (T5.setTop (mkF m 46 #[.val (.int p0), .val (.int (0 : Int32)), .val (.int (1 : Int32)), .val (.int (0 : Int32)), .val (.int (1 : Int32))] [(.int (0 : Int32))])) _
        refine XS.iloadN X5.here hx rfl (hb hby at_46) rfl ?_
        show Steps p.tables e below (T5.setTop (mkF m 47 #[.val (.int p0), .val (.int (0 : Int32)), .val (.int (1 : Int32)), .val (.int (0 : Int32)), .val (.int (1 : Int32))] [(.int (0 : Int32)), (.int (0 : Int32))])) _
        refine XS.icmpNo X5.here hx rfl (hb hby at_47) rfl (teq (rfl : (0 : Int32) = (0 : Int32))).2 ?_
        show Steps p.tables e below (T5.setTop (mkF m 50 #[.val (.int p0), .val (.int (0 : Int32)), .val (.int (1 : Int32)), .val (.int (0 : Int32)), .val (.int (1 : Int32))] [])) _
        refine XS.iloadN X5.here hx rfl (hb hby at_50) rfl ?_
        show Steps p.tables e below (T5.setTop (mkF m 51 #[.val (.int p0), .val (.int (0 : Int32)), .val (.int (1 : Int32)), .val (.int (0 : Int32)), .val (.int (1 : Int32))] [(.int (1 : Int32))])) _
        refine XS.iload X5.here hx rfl (hb hby at_51) rfl ?_
        show Steps p.tables e below (T5.setTop (mkF m 53 #[.val (.int p0), .val (.int (0 : Int32)), .val (.int (1 : Int32)), .val (.int (0 : Int32)), .val (.int (1 : Int32))] [(.int (1 : Int32)), (.int (1 : Int32))])) _
        refine XS.icmpNo X5.here hx rfl (hb hby at_53) rfl (teq (rfl : (1 : Int32) = (1 : Int32))).2 ?_
        show Steps p.tables e below (T5.setTop (mkF m 56 #[.val (.int p0), .val (.int (0 : Int32)), .val (.int (1 : Int32)), .val (.int (0 : Int32)), .val (.int (1 : Int32))] [])) _
        refine XS.iconst X5.here hx rfl (hb hby at_56) ?_
        show Steps p.tables e below (T5.setTop (mkF m 57 #[.val (.int p0), .val (.int (0 : Int32)), .val (.int (1 : Int32)), .val (.int (0 : Int32)), .val (.int (1 : Int32))] [(.int (1 : Int32))])) _
        refine XS.goto X5.here hx rfl (pc0 := 57) (pc' := 61) rfl (hb hby at_57) (by decide) (by decide) ?_
        exact kt)
    obtain ⟨fs, hr, hrun, hended, hW, hsame⟩ := X5.leave (v := some (.int (1 : Int32))) (fun h => by rw [Bd.returns] at h; cases h)
    refine ⟨_, _, pre10 _ ?_, hrun, hended, _, _, rfl, ?_, ⟨_, rfl⟩, hW, hsame.mono (by decide) (by decide)⟩
    · show Steps p.tables e below (T5.setTop (mkF m 61 #[.val (.int p0), .val (.int (0 : Int32)), .val (.int (1 : Int32)), .val (.int (0 : Int32)), .val (.int (1 : Int32))] [(.int (1 : Int32))])) _
      exact retN X5 hx (t := .boolean) Bd.returns (by simp) (hb hby at_61) hr
    · show Q0 Z _ _ _ h0 n0 _ T5.heap _
      rw [e5]
      exact ⟨rfl, N5, rfl⟩
  · skip
    have pre11 : ∀ t, Steps p.tables e below (T5.setTop (mkF m 29 #[.val (.int p0), .val (.int r3), .val (.int r6), .unset, .unset] [(.int p0)])) t → Steps p.tables e below (s₁.setTop (entryFrame m #[(.int p0)] maxLocals)) t := fun t kt => pre7 t (by
        show Steps p.tables e below (T5.setTop (mkF m 17 #[.val (.int p0), .val (.int r3), .val (.int r6), .unset, .unset] [(.int p0)])) _
        refine XS.ifYes X5.here hx rfl (pc0 := 17) (pc' := 28) rfl (hb hby at_17) rfl ((if0 _ _).trans (flt hc8).2.1) (by decide) (by decide) ?_
        show Steps p.tables e below (T5.setTop (mkF m 28 #[.val (.int p0), .val (.int r3), .val (.int r6), .unset, .unset] [])) _
        refine XS.iloadN X5.here hx rfl (hb hby at_28) rfl ?_
        exact kt)
    by_cases hc12 : p0 = (0 : Int32)
    · skip
      have pre13 : ∀ t, Steps p.tables e below (T5.setTop (mkF m 45 #[.val (.int p0), .val (.int r3), .val (.int r6), .val (.int (1 : Int32)), .val (.int (1 : Int32))] [])) t → Steps p.tables e below (s₁.setTop (entryFrame m #[(.int p0)] maxLocals)) t := fun t kt => pre11 t (by
          show Steps p.tables e below (T5.setTop (mkF m 29 #[.val (.int p0), .val (.int r3), .val (.int r6), .unset, .unset] [(.int p0)])) _
          refine XS.ifNo X5.here hx rfl (hb hby at_29) rfl ((if0 _ _).trans (teq hc12).2) ?_
          show Steps p.tables e below (T5.setTop (mkF m 32 #[.val (.int p0), .val (.int r3), .val (.int r6), .unset, .unset] [])) _
          refine XS.iconst X5.here hx rfl (hb hby at_32) ?_
          show Steps p.tables e below (T5.setTop (mkF m 33 #[.val (.int p0), .val (.int r3), .val (.int r6), .unset, .unset] [(.int (1 : Int32))])) _
          refine XS.istoreN X5.here hx rfl (hb hby at_33) rfl (l' := #[.val (.int p0), .val (.int r3), .val (.int r6), .val (.int (1 : Int32)), .unset]) rfl ?_
          show Steps p.tables e below (T5.setTop (mkF m 34 #[.val (.int p0), .val (.int r3), .val (.int r6), .val (.int (1 : Int32)), .unset] [])) _
          refine XS.iconst X5.here hx rfl (hb hby at_34) ?_
          show Steps p.tables e below (T5.setTop (mkF m 35 #[.val (.int p0), .val (.int r3), .val (.int r6), .val (.int (1 : Int32)), .unset] [(.int (1 : Int32))])) _
          refine XS.istore X5.here hx rfl (hb hby at_35) rfl (l' := #[.val (.int p0), .val (.int r3), .val (.int r6), .val (.int (1 : Int32)), .val (.int (1 : Int32))]) rfl ?_
          show Steps p.tables e below (T5.setTop (mkF m 37 #[.val (.int p0), .val (.int r3), .val (.int r6), .val (.int (1 : Int32)), .val (.int (1 : Int32))] [])) _
          refine XS.goto X5.here hx rfl (pc0 := 37) (pc' := 45) rfl (hb hby at_37) (by decide) (by decide) ?_
          exact kt)
      obtain rfl : (1 : Int32) = r3 := Pr3.2 hc8
      obtain rfl : (1 : Int32) = r6 := Pr6.2 (own_nb hc12)
      have pre14 : ∀ t, Steps p.tables e below (T5.setTop (mkF m 61 #[.val (.int p0), .val (.int (1 : Int32)), .val (.int (1 : Int32)), .val (.int (1 : Int32)), .val (.int (1 : Int32))] [(.int (1 : Int32))])) t → Steps p.tables e below (s₁.setTop (entryFrame m #[(.int p0)] maxLocals)) t := fun t kt => pre13 t (by
          show Steps p.tables e below (T5.setTop (mkF m 45 #[.val (.int p0), .val (.int (1 : Int32)), .val (.int (1 : Int32)), .val (.int (1 : Int32)), .val (.int (1 : Int32))] [])) _
          refine XS.iloadN X5.here hx rfl (hb hby at_45) rfl ?_
          show Steps p.tables e below (T5.setTop (mkF m 46 #[.val (.int p0), .val (.int (1 : Int32)), .val (.int (1 : Int32)), .val (.int (1 : Int32)), .val (.int (1 : Int32))] [(.int (1 : Int32))])) _
          refine XS.iloadN X5.here hx rfl (hb hby at_46) rfl ?_
          show Steps p.tables e below (T5.setTop (mkF m 47 #[.val (.int p0), .val (.int (1 : Int32)), .val (.int (1 : Int32)), .val (.int (1 : Int32)), .val (.int (1 : Int32))] [(.int (1 : Int32)), (.int (1 : Int32))])) _
          refine XS.icmpNo X5.here hx rfl (hb hby at_47) rfl (teq (rfl : (1 : Int32) = (1 : Int32))).2 ?_
          show Steps p.tables e below (T5.setTop (mkF m 50 #[.val (.int p0), .val (.int (1 : Int32)), .val (.int (1 : Int32)), .val (.int (1 : Int32)), .val (.int (1 : Int32))] [])) _
          refine XS.iloadN X5.here hx rfl (hb hby at_50) rfl ?_
          show Steps p.tables e below (T5.setTop (mkF m 51 #[.val (.int p0), .val (.int (1 : Int32)), .val (.int (1 : Int32)), .val (.int (1 : Int32)), .val (.int (1 : Int32))] [(.int (1 : Int32))])) _
          refine XS.iload X5.here hx rfl (hb hby at_51) rfl ?_
          show Steps p.tables e below (T5.setTop (mkF m 53 #[.val (.int p0), .val (.int (1 : Int32)), .val (.int (1 : Int32)), .val (.int (1 : Int32)), .val (.int (1 : Int32))] [(.int (1 : Int32)), (.int (1 : Int32))])) _
          refine XS.icmpNo X5.here hx rfl (hb hby at_53) rfl (teq (rfl : (1 : Int32) = (1 : Int32))).2 ?_
          show Steps p.tables e below (T5.setTop (mkF m 56 #[.val (.int p0), .val (.int (1 : Int32)), .val (.int (1 : Int32)), .val (.int (1 : Int32)), .val (.int (1 : Int32))] [])) _
          refine XS.iconst X5.here hx rfl (hb hby at_56) ?_
          show Steps p.tables e below (T5.setTop (mkF m 57 #[.val (.int p0), .val (.int (1 : Int32)), .val (.int (1 : Int32)), .val (.int (1 : Int32)), .val (.int (1 : Int32))] [(.int (1 : Int32))])) _
          refine XS.goto X5.here hx rfl (pc0 := 57) (pc' := 61) rfl (hb hby at_57) (by decide) (by decide) ?_
          exact kt)
      obtain ⟨fs, hr, hrun, hended, hW, hsame⟩ := X5.leave (v := some (.int (1 : Int32))) (fun h => by rw [Bd.returns] at h; cases h)
      refine ⟨_, _, pre14 _ ?_, hrun, hended, _, _, rfl, ?_, ⟨_, rfl⟩, hW, hsame.mono (by decide) (by decide)⟩
      · show Steps p.tables e below (T5.setTop (mkF m 61 #[.val (.int p0), .val (.int (1 : Int32)), .val (.int (1 : Int32)), .val (.int (1 : Int32)), .val (.int (1 : Int32))] [(.int (1 : Int32))])) _
        exact retN X5 hx (t := .boolean) Bd.returns (by simp) (hb hby at_61) hr
      · show Q0 Z _ _ _ h0 n0 _ T5.heap _
        rw [e5]
        exact ⟨rfl, N5, rfl⟩
    · skip
      have pre15 : ∀ t, Steps p.tables e below (T5.setTop (mkF m 45 #[.val (.int p0), .val (.int r3), .val (.int r6), .val (.int (1 : Int32)), .val (.int (0 : Int32))] [])) t → Steps p.tables e below (s₁.setTop (entryFrame m #[(.int p0)] maxLocals)) t := fun t kt => pre11 t (by
          show Steps p.tables e below (T5.setTop (mkF m 29 #[.val (.int p0), .val (.int r3), .val (.int r6), .unset, .unset] [(.int p0)])) _
          refine XS.ifYes X5.here hx rfl (pc0 := 29) (pc' := 40) rfl (hb hby at_29) rfl ((if0 _ _).trans (feq hc12).2) (by decide) (by decide) ?_
          show Steps p.tables e below (T5.setTop (mkF m 40 #[.val (.int p0), .val (.int r3), .val (.int r6), .unset, .unset] [])) _
          refine XS.iconst X5.here hx rfl (hb hby at_40) ?_
          show Steps p.tables e below (T5.setTop (mkF m 41 #[.val (.int p0), .val (.int r3), .val (.int r6), .unset, .unset] [(.int (1 : Int32))])) _
          refine XS.istoreN X5.here hx rfl (hb hby at_41) rfl (l' := #[.val (.int p0), .val (.int r3), .val (.int r6), .val (.int (1 : Int32)), .unset]) rfl ?_
          show Steps p.tables e below (T5.setTop (mkF m 42 #[.val (.int p0), .val (.int r3), .val (.int r6), .val (.int (1 : Int32)), .unset] [])) _
          refine XS.iconst X5.here hx rfl (hb hby at_42) ?_
          show Steps p.tables e below (T5.setTop (mkF m 43 #[.val (.int p0), .val (.int r3), .val (.int r6), .val (.int (1 : Int32)), .unset] [(.int (0 : Int32))])) _
          refine XS.istore X5.here hx rfl (hb hby at_43) rfl (l' := #[.val (.int p0), .val (.int r3), .val (.int r6), .val (.int (1 : Int32)), .val (.int (0 : Int32))]) rfl ?_
          exact kt)
      obtain rfl : (1 : Int32) = r3 := Pr3.2 hc8
      obtain rfl : (0 : Int32) = r6 := Pr6.1 (own_pos hc8 hc12)
      have pre16 : ∀ t, Steps p.tables e below (T5.setTop (mkF m 61 #[.val (.int p0), .val (.int (1 : Int32)), .val (.int (0 : Int32)), .val (.int (1 : Int32)), .val (.int (0 : Int32))] [(.int (1 : Int32))])) t → Steps p.tables e below (s₁.setTop (entryFrame m #[(.int p0)] maxLocals)) t := fun t kt => pre15 t (by
          show Steps p.tables e below (T5.setTop (mkF m 45 #[.val (.int p0), .val (.int (1 : Int32)), .val (.int (0 : Int32)), .val (.int (1 : Int32)), .val (.int (0 : Int32))] [])) _
          refine XS.iloadN X5.here hx rfl (hb hby at_45) rfl ?_
          show Steps p.tables e below (T5.setTop (mkF m 46 #[.val (.int p0), .val (.int (1 : Int32)), .val (.int (0 : Int32)), .val (.int (1 : Int32)), .val (.int (0 : Int32))] [(.int (1 : Int32))])) _
          refine XS.iloadN X5.here hx rfl (hb hby at_46) rfl ?_
          show Steps p.tables e below (T5.setTop (mkF m 47 #[.val (.int p0), .val (.int (1 : Int32)), .val (.int (0 : Int32)), .val (.int (1 : Int32)), .val (.int (0 : Int32))] [(.int (1 : Int32)), (.int (1 : Int32))])) _
          refine XS.icmpNo X5.here hx rfl (hb hby at_47) rfl (teq (rfl : (1 : Int32) = (1 : Int32))).2 ?_
          show Steps p.tables e below (T5.setTop (mkF m 50 #[.val (.int p0), .val (.int (1 : Int32)), .val (.int (0 : Int32)), .val (.int (1 : Int32)), .val (.int (0 : Int32))] [])) _
          refine XS.iloadN X5.here hx rfl (hb hby at_50) rfl ?_
          show Steps p.tables e below (T5.setTop (mkF m 51 #[.val (.int p0), .val (.int (1 : Int32)), .val (.int (0 : Int32)), .val (.int (1 : Int32)), .val (.int (0 : Int32))] [(.int (0 : Int32))])) _
          refine XS.iload X5.here hx rfl (hb hby at_51) rfl ?_
          show Steps p.tables e below (T5.setTop (mkF m 53 #[.val (.int p0), .val (.int (1 : Int32)), .val (.int (0 : Int32)), .val (.int (1 : Int32)), .val (.int (0 : Int32))] [(.int (0 : Int32)), (.int (0 : Int32))])) _
          refine XS.icmpNo X5.here hx rfl (hb hby at_53) rfl (teq (rfl : (0 : Int32) = (0 : Int32))).2 ?_
          show Steps p.tables e below (T5.setTop (mkF m 56 #[.val (.int p0), .val (.int (1 : Int32)), .val (.int (0 : Int32)), .val (.int (1 : Int32)), .val (.int (0 : Int32))] [])) _
          refine XS.iconst X5.here hx rfl (hb hby at_56) ?_
          show Steps p.tables e below (T5.setTop (mkF m 57 #[.val (.int p0), .val (.int (1 : Int32)), .val (.int (0 : Int32)), .val (.int (1 : Int32)), .val (.int (0 : Int32))] [(.int (1 : Int32))])) _
          refine XS.goto X5.here hx rfl (pc0 := 57) (pc' := 61) rfl (hb hby at_57) (by decide) (by decide) ?_
          exact kt)
      obtain ⟨fs, hr, hrun, hended, hW, hsame⟩ := X5.leave (v := some (.int (1 : Int32))) (fun h => by rw [Bd.returns] at h; cases h)
      refine ⟨_, _, pre16 _ ?_, hrun, hended, _, _, rfl, ?_, ⟨_, rfl⟩, hW, hsame.mono (by decide) (by decide)⟩
      · show Steps p.tables e below (T5.setTop (mkF m 61 #[.val (.int p0), .val (.int (1 : Int32)), .val (.int (0 : Int32)), .val (.int (1 : Int32)), .val (.int (0 : Int32))] [(.int (1 : Int32))])) _
        exact retN X5 hx (t := .boolean) Bd.returns (by simp) (hb hby at_61) hr
      · show Q0 Z _ _ _ h0 n0 _ T5.heap _
        rw [e5]
        exact ⟨rfl, N5, rfl⟩
set_option maxRecDepth 65536 in
set_option maxHeartbeats 40000000 in
theorem comes_1 {Post : Tables → Env → Array Value → State → Outcome → State → Prop} (hpost : ∀ tb e args s v u, (limb_1_1.after args s (.returned v) u = true ∧ limb_1_2.after args s (.returned v) u = true ∧ True) → FrameEnd s (.returned v) u (Jvm.fieldLocs frame_1_writes args s ++ Jvm.arrayLocs frame_1_arrays args s ++ Jvm.staticLocs frame_1_statics s) 0 0 → Post tb e args s (.returned v) u) :
    ArmFor flags0 classFile x code maxLocals ret World_1 tables_1 room_1 Calls_1 rest_1 Pre_1 Post := by
  intro l hfl _ _ p e ha hc hk s m args below hf hA hF happ hP
  obtain ⟨hcalls, hrest, hpre⟩ := hP
  obtain ⟨-, -, -, hnamed, -, -, -, hat⟩ := (Spec.applies_iff hf).mp happ
  obtain ⟨hg, hn⟩ := and_e (Cond.before_iff.mp (show (Jvm.Cond.and given_1 narrow_1).before args s = true from hpre))
  obtain ⟨hg0, hgr0⟩ := and_e hg
  obtain ⟨w0, rfl⟩ : ∃ w0 : Value, args = #[w0] := by
    have hs : args.size = 1 := by simpa [Cond.value, given_1] using hg0
    obtain ⟨L⟩ := args
    match L, hs with
    | [w0], _ => exact ⟨w0, rfl⟩
  have hw := fun d (hd : d ∈ tables_1) => atoms_spec (ws := Jvm.Cond.code x code maxLocals ret :: tables_1) hat d (List.mem_cons_of_mem _ hd)
  have hfit : Fit s := fun {y c} hc i hi => by
    obtain ⟨ha, rfl⟩ := Array.getElem?_eq_some_iff.mp hc
    have q := List.all_eq_true.mp ((Array.all_eq_true_iff_forall_mem.mp hF) _ (Array.getElem_mem ha)) i (List.mem_range.mpr hi)
    simpa [Array.getElem?_eq_getElem hi] using q
  obtain ⟨i0, ei0⟩ := is_v hgr0
  obtain rfl : w0 = (.int i0) := Option.some.inj ei0
  obtain ⟨hn0, hr0⟩ := and_e hn
  obtain ⟨hn1, hr1⟩ := and_e hr0
  obtain ⟨hn2, hr2⟩ := and_e hr1
  obtain ⟨w_AT_LEAST_1, ev2⟩ := exa_v hn0
  have S_AT_LEAST_0 : Sta s s.heap "cartouche/mapping/ValueConstraint$Bound$Side" "AT_LEAST" "Lcartouche/mapping/ValueConstraint$Bound$Side;" (.ref w_AT_LEAST_1) := Sta.start ev2 (Or.inr ⟨(hw _ (List.mem_of_getElem? (i := 1) rfl)), (hw _ (List.mem_of_getElem? (i := 2) rfl))⟩)
  have E_1 : Exa s s.heap w_AT_LEAST_1 "cartouche/mapping/ValueConstraint$Bound$Side" := Exa.start ev2 hn0
  have F_ordinal_2 : Fld s s.heap w_AT_LEAST_1 "java/lang/Enum" "ordinal" "I" (.int (0 : Int32)) := Fld.start ((fld_at ev2).symm.trans (own_eqI hn1))
  obtain ⟨w_AT_MOST_3, ev4⟩ := exa_v hn2
  have S_AT_MOST_3 : Sta s s.heap "cartouche/mapping/ValueConstraint$Bound$Side" "AT_MOST" "Lcartouche/mapping/ValueConstraint$Bound$Side;" (.ref w_AT_MOST_3) := Sta.start ev4 (Or.inr ⟨(hw _ (List.mem_of_getElem? (i := 1) rfl)), (hw _ (List.mem_of_getElem? (i := 18) rfl))⟩)
  have E_4 : Exa s s.heap w_AT_MOST_3 "cartouche/mapping/ValueConstraint$Bound$Side" := Exa.start ev4 hn2
  have F_ordinal_5 : Fld s s.heap w_AT_MOST_3 "java/lang/Enum" "ordinal" "I" (.int (1 : Int32)) := Fld.start ((fld_at ev4).symm.trans (own_eqI hr2))
  obtain ⟨n, o, h1, h2, h3, _, L, rfl, ⟨rfl, N, -⟩, hq⟩ := rm0 l s _ hw tables_1 i0 w_AT_LEAST_1 w_AT_MOST_3 s.heap s.heap.size (Nat.le_refl _) S_AT_LEAST_0 E_1 F_ordinal_2 S_AT_MOST_3 E_4 F_ordinal_5 p e ha hc hk s m _ below hf ((Spec.applies_iff_loose hf).mp happ).1 ⟨rfl, State.Warmed39.refl s, rfl⟩ trivial
  refine ⟨n, _, h1, h2, h3, hpost _ _ _ _ _ _ ⟨Cond.after_iff.mpr rfl, Cond.after_iff.mpr (eq_i res_at (Term.int_eval (1)) rfl), trivial⟩ ⟨hq.1, hq.2.1, (hq.2.2.sift fun y hy => Or.inr (N y hy)).mono (by decide) (by decide)⟩⟩
theorem main_1_1 : Claimed_1_1 := comes_1 fun _ _ _ _ _ _ h hF => ⟨h.1, hF⟩
theorem main_1_2 : Claimed_1_2 := comes_1 fun _ _ _ _ _ _ h hF => ⟨h.2.1, hF⟩
end Jvm.Pilot.@@N@@
namespace Jvm.Pilot.@@N@@
open Jvm Jvm.ClassFile Sem Op Lib Jvm.Free Jvm.Stand Jvm.Pilot.@@N@@.Jvm.D
/-! MADE BY PROGRAM (witnessworld.py) out of the Statement's table words and the real class files: 12 classes; the members and pool entries that the words name. The judged class is class 1, her method 1. -/
namespace start1
open Jvm.ClassFile
def u (s : String) : CpInfo := .utf8 (stringToUtf16 s)
/-- a pool by its gaps: so many unusable entries, then the entry; so many at the end -/
def gap : Nat → List CpInfo → List CpInfo
  | 0, r => r
  | n + 1, r => .unusable :: gap n r
def poolList (es : List (Nat × CpInfo)) (last : Nat) : List CpInfo := es.foldr (fun e r => gap e.1 (e.2 :: r)) (gap last [])
def pool (es : List (Nat × CpInfo)) (last : Nat) : Array CpInfo := ⟨poolList es last⟩
def fileOf (pool : Array CpInfo) (this : Nat) (attrs : Array Attribute := #[]) (ms : Array MethodInfo := #[]) (fl : Nat := 33) (sup : Nat := 0) (ifs : Array Nat := #[]) (fds : Array FieldInfo := #[]) : ClassFile where
  minorVersion := 0
  majorVersion := 65
  constantPool := pool
  accessFlags := fl
  thisClass := this
  superClass := sup
  interfaces := ifs
  fields := fds
  methods := ms
  attributes := attrs
def plain (name : String) (sup : Option ClassId) : Class where
  name := name
  kind := .ordinary
  loader := none
  accessFlags := 33
  super := sup
  interfaces := #[]
  cf := none
  fields := #[]
  methods := #[]
  instanceTypes := #[]
  staticTypes := #[]
  resolved := #[]
  callSites := []
  init := .initialized
  statics := none
  mirror := none

def pool0 : Array CpInfo := pool [(5, u "<init>"), (0, u "()V"), (1, .class_ 10), (1, u "java/lang/Object")] 113

def k0m0 : Method := { name := "<init>", desc := "()V", sig := { parameters := [], returnType := none }, accessFlags := 1, code := none }
/-- java/lang/Object -/
def k0 : Class := { plain "java/lang/Object" none with
  accessFlags := 33
  interfaces := #[]
  cf := some (fileOf pool0 8 #[] #[{ accessFlags := 1, nameIndex := 5, descriptorIndex := 6, attributes := #[] }] 33 0 #[] #[])
  fields := #[]
  methods := #[k0m0]
  instanceTypes := #[]
  staticTypes := #[]
  resolved := Array.replicate 124 none
  statics := none }

def pool1 : Array CpInfo := pool [(2, .class_ 4), (1, u "java/lang/Object"), (0, u "<init>"), (0, u "()V"), (0, .fieldref 8 9), (0, .class_ 10), (0, .nameAndType 11 12), (0, u "cartouche/mapping/ValueConstraint$Bound$Side"), (0, u "AT_LEAST"), (0, u "Lcartouche/mapping/ValueConstraint$Bound$Side;"), (0, .methodref 8 14), (0, .nameAndType 15 16), (0, u "holds"), (0, u "(I)Z"), (0, .fieldref 8 18), (0, .nameAndType 19 12), (0, u "AT_MOST"), (0, .class_ 21), (0, u "cartouche/mapping/SideHoldsPinLaw"), (2, u "law")] 10

def k1m0 : Method := { name := "<init>", desc := "()V", sig := { parameters := [], returnType := none }, accessFlags := 1, code := none }
def k1c1 : Code := { maxStack := 2, maxLocals := 5, code := code, exceptionTable := #[], attributes := #[] }
def k1m1 : Method := { name := "law", desc := "(I)Z", sig := { parameters := [.int], returnType := some .boolean }, accessFlags := 9, code := some k1c1 }
/-- cartouche/mapping/SideHoldsPinLaw -/
def k1 : Class := { plain "cartouche/mapping/SideHoldsPinLaw" (some 0) with
  accessFlags := 49
  interfaces := #[]
  cf := some (fileOf pool1 20 #[] #[{ accessFlags := 1, nameIndex := 5, descriptorIndex := 6, attributes := #[] }, { accessFlags := 9, nameIndex := 24, descriptorIndex := 16, attributes := #[] }] 49 2 #[] #[])
  fields := #[]
  methods := #[k1m0, k1m1]
  instanceTypes := #[]
  staticTypes := #[]
  resolved := Array.replicate 35 none
  statics := none }

def pool2 : Array CpInfo := pool [(1, .class_ 2), (0, u "java/lang/constant/Constable"), (0, .class_ 4), (0, u "java/lang/Object")] 6

/-- java/lang/constant/Constable -/
def k2 : Class := { plain "java/lang/constant/Constable" (some 0) with
  accessFlags := 1537
  interfaces := #[]
  cf := some (fileOf pool2 1 #[] #[] 1537 3 #[] #[])
  fields := #[]
  methods := #[]
  instanceTypes := #[]
  staticTypes := #[]
  resolved := Array.replicate 11 none
  statics := none }

def pool3 : Array CpInfo := pool [(1, .class_ 2), (0, u "java/lang/Comparable"), (0, .class_ 4), (0, u "java/lang/Object")] 7

/-- java/lang/Comparable -/
def k3 : Class := { plain "java/lang/Comparable" (some 0) with
  accessFlags := 1537
  interfaces := #[]
  cf := some (fileOf pool3 1 #[] #[] 1537 3 #[] #[])
  fields := #[]
  methods := #[]
  instanceTypes := #[]
  staticTypes := #[]
  resolved := Array.replicate 12 none
  statics := none }

def pool4 : Array CpInfo := pool [(1, .class_ 2), (0, u "java/io/Serializable"), (0, .class_ 4), (0, u "java/lang/Object")] 2

/-- java/io/Serializable -/
def k4 : Class := { plain "java/io/Serializable" (some 0) with
  accessFlags := 1537
  interfaces := #[]
  cf := some (fileOf pool4 1 #[] #[] 1537 3 #[] #[])
  fields := #[]
  methods := #[]
  instanceTypes := #[]
  staticTypes := #[]
  resolved := Array.replicate 7 none
  statics := none }

def pool5 : Array CpInfo := pool [(2, .class_ 4), (1, u "java/lang/Enum"), (0, u "name"), (0, u "Ljava/lang/String;"), (0, .fieldref 2 8), (0, .nameAndType 9 10), (0, u "ordinal"), (0, u "I"), (1, .class_ 14), (1, u "java/lang/Object"), (4, u "hash"), (86, .class_ 108), (1, u "java/lang/Enum$EnumDesc"), (2, .class_ 112), (0, u "java/lang/constant/Constable"), (0, .class_ 114), (0, u "java/lang/Comparable"), (0, .class_ 116), (0, u "java/io/Serializable"), (9, u "()I")] 77

def k5c0 : Code := { maxStack := 1, maxLocals := 1, code := jdk_37_method_2_code, exceptionTable := #[], attributes := #[] }
def k5m0 : Method := { name := "ordinal", desc := "()I", sig := { parameters := [], returnType := some .int }, accessFlags := 17, code := some k5c0 }
/-- java/lang/Enum -/
def k5 : Class := { plain "java/lang/Enum" (some 0) with
  accessFlags := 1057
  interfaces := #[2, 3, 4]
  cf := some (fileOf pool5 2 #[.nestMembers #[106]] #[{ accessFlags := 17, nameIndex := 9, descriptorIndex := 126, attributes := #[] }] 1057 12 #[111, 113, 115] #[{ accessFlags := 18, nameIndex := 5, descriptorIndex := 6, attributes := #[] }, { accessFlags := 18, nameIndex := 9, descriptorIndex := 10, attributes := #[] }, { accessFlags := 2, nameIndex := 19, descriptorIndex := 10, attributes := #[] }])
  fields := #[{ name := "name", type := (.object "java/lang/String"), accessFlags := 18, slot := 0, constantValue := 0 }, { name := "ordinal", type := .int, accessFlags := 18, slot := 1, constantValue := 0 }, { name := "hash", type := .int, accessFlags := 2, slot := 2, constantValue := 0 }]
  methods := #[k5m0]
  instanceTypes := #[(.object "java/lang/String"), .int, .int]
  staticTypes := #[]
  resolved := Array.replicate 204 none
  statics := none }

def pool6 : Array CpInfo := pool [(1, .class_ 2), (0, u "cartouche/mapping/ValueConstraint$Bound$Side"), (2, u "AT_LEAST"), (0, u "Lcartouche/mapping/ValueConstraint$Bound$Side;"), (2, u "AT_MOST"), (2, u "$VALUES"), (0, u "[Lcartouche/mapping/ValueConstraint$Bound$Side;"), (6, .class_ 22), (1, u "java/lang/Enum"), (6, .methodref 1 30), (0, .nameAndType 31 32), (0, u "ordinal"), (0, u "()I"), (19, u "holds"), (0, u "(I)Z"), (6, .class_ 61), (0, u "cartouche/mapping/ValueConstraint")] 5

def k6c0 : Code := { maxStack := 4, maxLocals := 2, code := prog_99_method_4_code, exceptionTable := #[], attributes := #[] }
def k6m0 : Method := { name := "holds", desc := "(I)Z", sig := { parameters := [.int], returnType := some .boolean }, accessFlags := 0, code := some k6c0 }
/-- cartouche/mapping/ValueConstraint$Bound$Side -/
def k6 : Class := { plain "cartouche/mapping/ValueConstraint$Bound$Side" (some 5) with
  accessFlags := 16432
  interfaces := #[]
  cf := some (fileOf pool6 1 #[.nestHost 60] #[{ accessFlags := 0, nameIndex := 52, descriptorIndex := 53, attributes := #[] }] 16432 20 #[] #[{ accessFlags := 16409, nameIndex := 5, descriptorIndex := 6, attributes := #[] }, { accessFlags := 16409, nameIndex := 9, descriptorIndex := 6, attributes := #[] }, { accessFlags := 4122, nameIndex := 12, descriptorIndex := 13, attributes := #[] }])
  fields := #[{ name := "AT_LEAST", type := (.object "cartouche/mapping/ValueConstraint$Bound$Side"), accessFlags := 16409, slot := 0, constantValue := 0 }, { name := "AT_MOST", type := (.object "cartouche/mapping/ValueConstraint$Bound$Side"), accessFlags := 16409, slot := 1, constantValue := 0 }, { name := "$VALUES", type := (.array (.object "cartouche/mapping/ValueConstraint$Bound$Side")), accessFlags := 4122, slot := 2, constantValue := 0 }]
  methods := #[k6m0]
  instanceTypes := #[(.object "java/lang/String"), .int, .int]
  staticTypes := #[(.object "cartouche/mapping/ValueConstraint$Bound$Side"), (.object "cartouche/mapping/ValueConstraint$Bound$Side"), (.array (.object "cartouche/mapping/ValueConstraint$Bound$Side"))]
  resolved := Array.replicate 67 none
  statics := some 0 }

def pool7 : Array CpInfo := pool [(1, u "java/lang/Cloneable"), (0, .class_ 1), (0, u "java/lang/Object"), (0, .class_ 3)] 3

/-- java/lang/Cloneable -/
def k7 : Class := { plain "java/lang/Cloneable" (some 0) with
  accessFlags := 1537
  interfaces := #[]
  cf := some (fileOf pool7 2 #[] #[] 1537 4 #[] #[])
  fields := #[]
  methods := #[]
  instanceTypes := #[]
  staticTypes := #[]
  resolved := Array.replicate 8 none
  statics := none }

/-- the primitive byte -/
def k8 : Class := { plain "byte" none with kind := .primitive 'B', accessFlags := 0x411 }
/-- [B -/
def k9 : Class := { plain "[B" (some 0) with kind := .array 8 .byte, interfaces := #[7, 4], accessFlags := 1041 }

/-- the primitive int -/
def k10 : Class := { plain "int" none with kind := .primitive 'I', accessFlags := 0x411 }
/-- [I -/
def k11 : Class := { plain "[I" (some 0) with kind := .array 10 .int, interfaces := #[7, 4], accessFlags := 1041 }

def heap : Heap := #[{ cls := 6, slots := #[.ref 1, .ref 2, .null], vm := .statics 6 },
  { cls := 6, slots := #[.null, .int 0, .int 0], vm := .none },
  { cls := 6, slots := #[.null, .int 1, .int 0], vm := .none }]
def classes : Array Class := #[k0, k1, k2, k3, k4, k5, k6, k7, k8, k9, k10, k11]
def interned : List (Array UInt16 × Addr) := []
def slotsUsed : Nat := 9
def theMethod : MethodId := ⟨1, 1⟩
def args0 : Array Value := #[.int 5]
def aboutOver (below : List Frame) : State where
  vm := { classes := classes, interned := interned.toArray }
  heap := heap
  slotsUsed := slotsUsed
  threads := #[{ frames := .invoking theMethod args0 :: below }]
def below0 : List Frame := [.native { method := ⟨0, 0⟩, args := #[] }]
def about1 : State := aboutOver below0
def p0 : Program := .bare "" "" ""
def e0 : Env := launch0.env 0 0 0
theorem w_frames : about1.frames = Frame.invoking theMethod args0 :: below0 := rfl
set_option maxRecDepth 65536 in
theorem w_args : argsFit about1.vm theMethod args0 = true := by decide +kernel
set_option maxRecDepth 65536 in
theorem w_heap : heapFits about1 = true := by decide +kernel
set_option maxRecDepth 65536 in
theorem w_runnable : about1.curStatus? = some .runnable := by decide +kernel
set_option maxRecDepth 65536 in
theorem w_alone : about1.alone = true := by decide +kernel
set_option maxRecDepth 65536 in
theorem w_named : about1.methodNamed? x = some theMethod := by decide +kernel
set_option maxRecDepth 65536 in
theorem w_hears : about1.hears theMethod below0 = true := by decide +kernel
set_option maxRecDepth 65536 in
theorem w_ripe : about1.ripe theMethod args0 below0 = true := by decide +kernel
theorem w_running : about1.status = .running := rfl
set_option maxRecDepth 65536 in
theorem w_room : about1.hasRoom e0.platform room_1 = true :=
  launch0.hasRoom_least _ room_1 (by decide +kernel) (by decide +kernel) (by decide +kernel) (by decide +kernel) (by decide +kernel) (by decide +kernel)
theorem allAtoms_all (ts : List Jvm.Cond) (a : Array Jvm.Value) (st : Jvm.State) : (allAtoms ts).before a st = ts.all (fun c => c.before a st) := by
  induction ts with
  | nil => rfl
  | cons c t ih =>
    show (Jvm.Cond.and c (allAtoms t)).before a st = _
    rw [Jvm.Cond.before_and, ih, List.all_cons]
def words1 : List Jvm.Cond := Jvm.Cond.code x code maxLocals ret :: tables_1
/-- a 'code' word, met by the world's own term for the bytes: nothing is compared byte by byte -/
theorem code_word {y : MethodName} {bytes : ByteArray} {mx : Nat} {rt : Option FieldType} {a : Array Value} {s : State} {m : MethodId} {meth : Method} {c : Code} (h1 : s.methodNamed? y = some m) (h2 : s.vm.method? m = some meth) (h3 : meth.code = some c) (h4 : c.code = bytes)
    (h5 : (c.maxLocals == mx && c.exceptionTable.isEmpty && decide (c.maxStack ≤ mostOperands) && decide (meth.sig.returnType = rt) && !meth.locks && decide (parseMethodDescriptor y.desc = some meth.sig)) = true) : (Jvm.Cond.code y bytes mx rt).before a s = true := by
  simp only [Bool.and_eq_true, beq_iff_eq, Bool.not_eq_true', decide_eq_true_eq] at h5
  obtain ⟨⟨⟨⟨⟨g1, g2⟩, g3⟩, g4⟩, g5⟩, g6⟩ := h5
  simp [Cond.before, Cond.holds, Cond.value, h1, h2, h3, h4, g1, g2, g3, g4, g5, g6]
def isCode : Jvm.Cond → Bool
  | .code _ _ _ _ => true
  | _ => false
theorem all_split {L : List Jvm.Cond} {P : Jvm.Cond → Bool} (h1 : L.all (fun c => isCode c || P c) = true) (h2 : ∀ c ∈ L.filter isCode, P c = true) : L.all P = true := by
  refine List.all_eq_true.mpr fun c hc => ?_
  have h := List.all_eq_true.mp h1 c hc
  rcases Bool.eq_false_or_eq_true (isCode c) with hi | hi
  · exact h2 c (List.mem_filter.mpr ⟨hc, hi⟩)
  · simpa [hi] using h
set_option maxRecDepth 65536 in
theorem w_c0 : (Jvm.Cond.code x code maxLocals ret).before args0 about1 = true := code_word (m := ⟨1, 1⟩) (meth := k1m1) (c := k1c1) (by decide +kernel) rfl rfl rfl (by decide +kernel)
set_option maxRecDepth 65536 in
theorem w_c1 : (Jvm.Cond.code ({ cls := "cartouche/mapping/ValueConstraint$Bound$Side", name := "holds", desc := "(I)Z" } : Jvm.MethodName) prog_99_method_4_code (2 : Nat) (Option.some Jvm.ClassFile.FieldType.boolean)).before args0 about1 = true := code_word (m := ⟨6, 0⟩) (meth := k6m0) (c := k6c0) (by decide +kernel) rfl rfl rfl (by decide +kernel)
set_option maxRecDepth 65536 in
theorem w_c2 : (Jvm.Cond.code ({ cls := "java/lang/Enum", name := "ordinal", desc := "()I" } : Jvm.MethodName) jdk_37_method_2_code (1 : Nat) (Option.some Jvm.ClassFile.FieldType.int)).before args0 about1 = true := code_word (m := ⟨5, 0⟩) (meth := k5m0) (c := k5c0) (by decide +kernel) rfl rfl rfl (by decide +kernel)
def codes1 : List Jvm.Cond := [Jvm.Cond.code x code maxLocals ret, Jvm.Cond.code ({ cls := "cartouche/mapping/ValueConstraint$Bound$Side", name := "holds", desc := "(I)Z" } : Jvm.MethodName) prog_99_method_4_code (2 : Nat) (Option.some Jvm.ClassFile.FieldType.boolean), Jvm.Cond.code ({ cls := "java/lang/Enum", name := "ordinal", desc := "()I" } : Jvm.MethodName) jdk_37_method_2_code (1 : Nat) (Option.some Jvm.ClassFile.FieldType.int)]
set_option maxRecDepth 65536 in
theorem codes_eq : words1.filter isCode = codes1 := rfl
theorem w_codes : ∀ c ∈ words1.filter isCode, c.before args0 about1 = true := by
  rw [codes_eq]
  intro c hc
  simp only [codes1, List.mem_cons, List.not_mem_nil, or_false] at hc
  rcases hc with rfl | rfl | rfl
  · exact w_c0
  · exact w_c1
  · exact w_c2
set_option maxRecDepth 65536 in
theorem w_t1 : words1.all (fun c => isCode c || c.before args0 about1) = true := by decide +kernel
theorem w_tables : (allAtoms (Jvm.Cond.code x code maxLocals ret :: tables_1)).before args0 about1 = true := by
  rw [allAtoms_all]
  show words1.all (fun c => c.before args0 about1) = true
  refine all_split ?_ w_codes
  rw [w_t1]
set_option maxRecDepth 65536 in
theorem w_case : (Jvm.Cond.and given_1 narrow_1).before args0 about1 = true := by decide +kernel
theorem w_applies : (headSpec (Jvm.Cond.code x code maxLocals ret :: tables_1) room_1).applies x e0.platform about1 = true :=
  (Spec.applies_iff w_frames).mpr ⟨w_running, w_runnable, w_alone, w_named, w_hears, w_ripe, w_room, w_tables⟩
theorem atStart : AtStart classFile x code maxLocals ret World_1 tables_1 room_1 Calls_1 rest_1 Pre_1 launch0 p0 e0 about1 theMethod args0 below0 :=
  ⟨lists_1, trivial, launch0.admits_env _ _ _, launch0.least_env, fairChoices_fair.cas, fairChoices_fair.clock, w_frames, w_args, w_heap, w_applies, trivial, trivial, w_case⟩
end start1
theorem witness_1 : WitnessClaimed_1 := ⟨start1.p0, start1.e0, start1.about1, start1.theMethod, start1.args0, start1.below0, start1.atStart⟩
end Jvm.Pilot.@@N@@
