import JvmDerived
import JvmDerived.Pilot.@@N@@Statement
import JvmDerived.Pilot.@@N@@Code
set_option linter.unusedVariables false
set_option linter.unusedSimpArgs false
namespace Jvm.RoadKit
open Sem ClassFile Op Lib Jvm.Stand Jvm.Free Jvm.LawKit
section New
variable {p : Program} {l : Launch} {e : Env} {R : Room} {s : State} {m : MethodId} {args : Array Value} {below : List Frame} {meth : Method} {c : Code} {T : State} {locs : List Loc} {cells slots : Nat}
theorem retI (X : Stand p l e R s m args below meth c T locs cells slots) (hx : p.tables.exec = Jvm.exec) {pc : Nat} {Ls : Array Slot} {z : Int32} {rest : List Value} (hret : meth.sig.returnType = some .int) (hd : decode c.code pc = .ok (.ireturn, 1)) {fs : List Frame}
    (hl : ∀ (f : JFrame) (acts : List Action), f.method = m → f.locked = none → f.entered = [] → (doReturn e (T.setTop f) acts (some (.int z))).1 = T.setFrames fs) : Steps p.tables e below (T.setTop (mkF m pc Ls (.int z :: rest))) (T.setFrames fs) := by
  have hm' : T.vm.method? m = some meth := X.method'
  have hn : narrow .int (.int z) = .int z := rfl
  show Steps p.tables e below (T.setTop { method := m, pc := pc, locals := Ls, stack := _ :: rest, locked := none }) _
  jvm_step X.here [X.here.top, hx, hd, hm', hret, hn]
  first | (intro acts; rw [hl _ acts rfl rfl rfl]) | rw [hl _ _ rfl rfl rfl]
  exact Steps.refl _
end New
end Jvm.RoadKit
namespace Jvm.Pilot.@@N@@
open Jvm Jvm.ClassFile Sem Op Lib Jvm.Free Jvm.Stand Jvm.LawKit Jvm.RoadKit Bundle Jvm.Pilot.@@N@@.Jvm.D
theorem own_eqI {t : Term} {args : Array Value} {first s : State} {o : Option Outcome} {idx : List Nat} {k : Int32} (h : (Jvm.Cond.eq t (.int k)).value args first o s idx = some true) : t.eval args first o idx s = some (.int k) := by
  cases ht : t.eval args first o idx s with
  | none => simp [Cond.value, ht] at h
  | some x => cases x <;> simp [Cond.value, ht, Term.eval] at h ⊢ <;> exact h
theorem own_eqJ {t : Term} {args : Array Value} {first s : State} {o : Option Outcome} {idx : List Nat} {k : Int64} (h : (Jvm.Cond.eq t (.long k)).value args first o s idx = some true) : t.eval args first o idx s = some (.long k) := by
  cases ht : t.eval args first o idx s with
  | none => simp [Cond.value, ht] at h
  | some x => cases x <;> simp [Cond.value, ht, Term.eval] at h ⊢ <;> exact h
theorem own_eqR {t u : Term} {args : Array Value} {first s : State} {o : Option Outcome} {idx : List Nat} {x : Addr} (h : (Jvm.Cond.eq t u).value args first o s idx = some true) (hu : u.eval args first o idx s = some (.ref x)) : t.eval args first o idx s = some (.ref x) := by
  cases ht : t.eval args first o idx s with
  | none => simp [Cond.value, ht] at h
  | some z => cases z <;> simp [Cond.value, ht, hu] at h ⊢ <;> exact h
theorem cat_of {v : Value} (h : v.isRef = true) : v.category = 1 := by rcases ref_cases h with rfl | ⟨a, rfl⟩ <;> rfl
theorem own_fits {n : String} {v : Value} (h : v.isRef = true) : fits (.object n) v = true := by rcases ref_cases h with rfl | ⟨a, rfl⟩ <;> rfl
theorem own_exa_ns {Z : State} {h : Heap} {a : Addr} {C : String} (E : Exa Z h a C) : ∀ c : Cell, h[a]? = some c → c.vm.isStatics = false := fun c hc => by
  obtain ⟨cell, k, h1, -, -, h4, -⟩ := E
  cases h1.symm.trans hc; exact h4
theorem own_sta_keep {Z : State} {h h' : Heap} {ws : List Addr} {C n d : String} {v : Value} (F : Sta Z h C n d v) (K : Keep h h' ws) (q : ∀ x ∈ ws, ∀ c : Cell, h[x]? = some c → c.vm.isStatics = false) : Sta Z h' C n d v := by
  obtain ⟨cf, i, k, f, st, cell, h1, h2, h3, h4, h5, h6, r⟩ := F
  refine ⟨cf, i, k, f, st, cell, h1, h2, h3, h4, K.2.1 st cell h5 (fun hm => ?_), h6, r⟩
  have := q st hm cell h5
  rw [h6] at this; cases this
theorem own_alg (x y z : Int64) : (((24 : Int32).toInt64 + 8 * x) + 5 * y) + z = ((((24 + 4 * x) + 4 * x) + 4 * y) + y) + z := by
  have q : (24 : Int32).toInt64 = 24 := by decide
  rw [q]; grind
theorem pn_0 : plainName "com/example/gibbon/gibbon/search/TextIndexFormat" = true := by first | (simp [plainName, overriddenIn]; done) | decide +kernel
theorem d1_0 : decode prog_48_method_3_code 0 = .ok (.getstatic 27, 3) := by decide +kernel
theorem d1_3 : decode prog_48_method_3_code 3 = .ok (.i2l, 1) := by decide +kernel
theorem d1_4 : decode prog_48_method_3_code 4 = .ok (.ldc2_w 33, 3) := by decide +kernel
theorem d1_7 : decode prog_48_method_3_code 7 = .ok (.iload_n 0, 1) := by decide +kernel
theorem d1_8 : decode prog_48_method_3_code 8 = .ok (.i2l, 1) := by decide +kernel
theorem d1_9 : decode prog_48_method_3_code 9 = .ok (.lmul, 1) := by decide +kernel
theorem d1_10 : decode prog_48_method_3_code 10 = .ok (.ladd, 1) := by decide +kernel
theorem d1_11 : decode prog_48_method_3_code 11 = .ok (.ldc2_w 35, 3) := by decide +kernel
theorem d1_14 : decode prog_48_method_3_code 14 = .ok (.iload_n 1, 1) := by decide +kernel
theorem d1_15 : decode prog_48_method_3_code 15 = .ok (.i2l, 1) := by decide +kernel
theorem d1_16 : decode prog_48_method_3_code 16 = .ok (.lmul, 1) := by decide +kernel
theorem d1_17 : decode prog_48_method_3_code 17 = .ok (.ladd, 1) := by decide +kernel
theorem d1_18 : decode prog_48_method_3_code 18 = .ok (.iload_n 2, 1) := by decide +kernel
theorem d1_19 : decode prog_48_method_3_code 19 = .ok (.i2l, 1) := by decide +kernel
theorem d1_20 : decode prog_48_method_3_code 20 = .ok (.ladd, 1) := by decide +kernel
theorem d1_21 : decode prog_48_method_3_code 21 = .ok (.lreturn, 1) := by decide +kernel
theorem ef_1 (m : MethodId) (x0 : Int32) (x1 : Int32) (x2 : Int32)  : entryFrame m #[(.int x0), (.int x1), (.int x2)] 3 = mkF m 0 #[.val (.int x0), .val (.int x1), .val (.int x2)] [] := by first | (simp [entryFrame, mkF, argsToLocals, Value.category]; done) | rfl
def Q1 (Z : State) (p0 : Int32) (p1 : Int32) (p2 : Int32) (w_HEADER_BYTES_0 : Int32) (h0 : Heap) (n0 : Nat) (v : Option Value) (h : Heap) (L : List Loc) : Prop := v = some (.long ((((w_HEADER_BYTES_0.toInt64) + ((8 : Int64) * (p0.toInt64))) + ((5 : Int64) * (p1.toInt64))) + (p2.toInt64))) ∧ Fr n0 L ∧ h = h0
set_option maxRecDepth 65536 in
set_option maxHeartbeats 40000000 in
theorem rm1 (l : Launch) (Z : State) (a0 : Array Value) (hw : ∀ d ∈ tables_1, d.before a0 Z = true) (ws : List Jvm.Cond) (p0 : Int32) (p1 : Int32) (p2 : Int32) (w_HEADER_BYTES_0 : Int32) (h0 : Heap) (n0 : Nat) (Z0 : n0 ≤ h0.size) (Sf_HEADER_BYTES_0 : Sta Z h0 "com/example/gibbon/gibbon/search/TextIndexFormat" "HEADER_BYTES" "I" (.int w_HEADER_BYTES_0)) :
    MetFree l (⟨"com/example/gibbon/gibbon/search/TextIndexFormat", "fileBytes", "(III)J"⟩ : MethodName) (head1 (Jvm.Cond.code (⟨"com/example/gibbon/gibbon/search/TextIndexFormat", "fileBytes", "(III)J"⟩ : MethodName) prog_48_method_3_code 3 (some .long) :: ws) ({ frames := 0, cells := 0, slots := 0, locals := 0 } : Room)) (fun a U => a = #[(.int p0), (.int p1), (.int p2)] ∧ Z.Warmed39 U.vm ∧ U.heap = h0) (fun _ _ _ _ _ => True) (fun _ U o U' => ∃ v L, o = .returned v ∧ Q1 Z p0 p1 p2 w_HEADER_BYTES_0 h0 n0 v U'.heap L ∧ FrameEnd U o U' L ({ frames := 0, cells := 0, slots := 0, locals := 0 } : Room).cells ({ frames := 0, cells := 0, slots := 0, locals := 0 } : Room).slots) := by
  refine MetFree.of_bodySF (plainFor_of_name pn_0) hisR ?_
  intro p e s m args below meth c s₁ Bd hml0 hP hK
  obtain ⟨rfl, hZ, hh⟩ := hP
  have hx := Bd.exec
  have hby := Bd.bytes
  have hml : c.maxLocals = 3 := hml0
  have hown : s.vm.findClass "com/example/gibbon/gibbon/search/TextIndexFormat" = some m.cls := findClass_of_methodNamed Bd.named
  have hnm := (name_of_methodNamed Bd.named Bd.method).1
  have X0 : Stand p l e ({ frames := 0, cells := 0, slots := 0, locals := 0 } : Room) s m #[(.int p0), (.int p1), (.int p2)] below meth c s₁ [] 0 0 := Stand.of_body Bd
  have e0 : s₁.heap = h0 := by rw [← hh, Bd.state]; rfl
  have N0 := Fr.nil n0
  have pre0 : ∀ t, Steps p.tables e below (s₁.setTop (mkF m 0 #[.val (.int p0), .val (.int p1), .val (.int p2)] [])) t → Steps p.tables e below (s₁.setTop (entryFrame m #[(.int p0), (.int p1), (.int p2)] 3)) t := fun t k => castTop (ef_1 m p0 p1 p2 ) k
  obtain ⟨T1, X1, e1, st1⟩ := getS2 X0 hx hZ hown (host := "") (Or.inl (hw _ (List.mem_of_getElem? (i := 7) rfl))) Via.refl e0 Sf_HEADER_BYTES_0 (g := (mkF m 0 #[.val (.int p0), .val (.int p1), .val (.int p2)] [])) rfl (hb hby d1_0)
  have pre2 : ∀ t, Steps p.tables e below (T1.setTop (mkF m 21 #[.val (.int p0), .val (.int p1), .val (.int p2)] [(.long ((((w_HEADER_BYTES_0.toInt64) + ((8 : Int64) * (p0.toInt64))) + ((5 : Int64) * (p1.toInt64))) + (p2.toInt64)))])) t → Steps p.tables e below (s₁.setTop (entryFrame m #[(.int p0), (.int p1), (.int p2)] 3)) t := fun t kt => pre0 t (by
      show Steps p.tables e below (s₁.setTop (mkF m 0 #[.val (.int p0), .val (.int p1), .val (.int p2)] [])) _
      refine st1 _ ?_
      show Steps p.tables e below (T1.setTop (mkF m 3 #[.val (.int p0), .val (.int p1), .val (.int p2)] [(.int w_HEADER_BYTES_0)])) _
      refine XS.i2l X1.here hx rfl (hb hby d1_3) rfl ?_
      show Steps p.tables e below (T1.setTop (mkF m 4 #[.val (.int p0), .val (.int p1), .val (.int p2)] [(.long (w_HEADER_BYTES_0.toInt64))])) _
      refine X1.ldc2Long hx hown (mvT hZ (hw _ (List.mem_of_getElem? (i := 9) rfl))) (g := (mkF m 4 #[.val (.int p0), .val (.int p1), .val (.int p2)] [(.long (w_HEADER_BYTES_0.toInt64))])) rfl (hb hby d1_4) _ ?_
      show Steps p.tables e below (T1.setTop (mkF m 7 #[.val (.int p0), .val (.int p1), .val (.int p2)] [(.long (8 : Int64)), (.long (w_HEADER_BYTES_0.toInt64))])) _
      refine XS.iloadN X1.here hx rfl (hb hby d1_7) rfl ?_
      show Steps p.tables e below (T1.setTop (mkF m 8 #[.val (.int p0), .val (.int p1), .val (.int p2)] [(.int p0), (.long (8 : Int64)), (.long (w_HEADER_BYTES_0.toInt64))])) _
      refine XS.i2l X1.here hx rfl (hb hby d1_8) rfl ?_
      show Steps p.tables e below (T1.setTop (mkF m 9 #[.val (.int p0), .val (.int p1), .val (.int p2)] [(.long (p0.toInt64)), (.long (8 : Int64)), (.long (w_HEADER_BYTES_0.toInt64))])) _
      refine XS.lmul X1.here hx rfl (hb hby d1_9) rfl ?_
      show Steps p.tables e below (T1.setTop (mkF m 10 #[.val (.int p0), .val (.int p1), .val (.int p2)] [(.long ((8 : Int64) * (p0.toInt64))), (.long (w_HEADER_BYTES_0.toInt64))])) _
      refine XS.ladd X1.here hx rfl (hb hby d1_10) rfl ?_
      show Steps p.tables e below (T1.setTop (mkF m 11 #[.val (.int p0), .val (.int p1), .val (.int p2)] [(.long ((w_HEADER_BYTES_0.toInt64) + ((8 : Int64) * (p0.toInt64))))])) _
      refine X1.ldc2Long hx hown (mvT hZ (hw _ (List.mem_of_getElem? (i := 10) rfl))) (g := (mkF m 11 #[.val (.int p0), .val (.int p1), .val (.int p2)] [(.long ((w_HEADER_BYTES_0.toInt64) + ((8 : Int64) * (p0.toInt64))))])) rfl (hb hby d1_11) _ ?_
      show Steps p.tables e below (T1.setTop (mkF m 14 #[.val (.int p0), .val (.int p1), .val (.int p2)] [(.long (5 : Int64)), (.long ((w_HEADER_BYTES_0.toInt64) + ((8 : Int64) * (p0.toInt64))))])) _
      refine XS.iloadN X1.here hx rfl (hb hby d1_14) rfl ?_
      show Steps p.tables e below (T1.setTop (mkF m 15 #[.val (.int p0), .val (.int p1), .val (.int p2)] [(.int p1), (.long (5 : Int64)), (.long ((w_HEADER_BYTES_0.toInt64) + ((8 : Int64) * (p0.toInt64))))])) _
      refine XS.i2l X1.here hx rfl (hb hby d1_15) rfl ?_
      show Steps p.tables e below (T1.setTop (mkF m 16 #[.val (.int p0), .val (.int p1), .val (.int p2)] [(.long (p1.toInt64)), (.long (5 : Int64)), (.long ((w_HEADER_BYTES_0.toInt64) + ((8 : Int64) * (p0.toInt64))))])) _
      refine XS.lmul X1.here hx rfl (hb hby d1_16) rfl ?_
      show Steps p.tables e below (T1.setTop (mkF m 17 #[.val (.int p0), .val (.int p1), .val (.int p2)] [(.long ((5 : Int64) * (p1.toInt64))), (.long ((w_HEADER_BYTES_0.toInt64) + ((8 : Int64) * (p0.toInt64))))])) _
      refine XS.ladd X1.here hx rfl (hb hby d1_17) rfl ?_
      show Steps p.tables e below (T1.setTop (mkF m 18 #[.val (.int p0), .val (.int p1), .val (.int p2)] [(.long (((w_HEADER_BYTES_0.toInt64) + ((8 : Int64) * (p0.toInt64))) + ((5 : Int64) * (p1.toInt64))))])) _
      refine XS.iloadN X1.here hx rfl (hb hby d1_18) rfl ?_
      show Steps p.tables e below (T1.setTop (mkF m 19 #[.val (.int p0), .val (.int p1), .val (.int p2)] [(.int p2), (.long (((w_HEADER_BYTES_0.toInt64) + ((8 : Int64) * (p0.toInt64))) + ((5 : Int64) * (p1.toInt64))))])) _
      refine XS.i2l X1.here hx rfl (hb hby d1_19) rfl ?_
      show Steps p.tables e below (T1.setTop (mkF m 20 #[.val (.int p0), .val (.int p1), .val (.int p2)] [(.long (p2.toInt64)), (.long (((w_HEADER_BYTES_0.toInt64) + ((8 : Int64) * (p0.toInt64))) + ((5 : Int64) * (p1.toInt64))))])) _
      refine XS.ladd X1.here hx rfl (hb hby d1_20) rfl ?_
      exact kt)
  obtain ⟨fs, hr, hrun, hended, hW, hsame⟩ := X1.leave (v := some (.long ((((w_HEADER_BYTES_0.toInt64) + ((8 : Int64) * (p0.toInt64))) + ((5 : Int64) * (p1.toInt64))) + (p2.toInt64)))) (fun h => by rw [Bd.returns] at h; cases h)
  refine ⟨_, _, pre2 _ ?_, hrun, hended, _, _, rfl, ?_, ⟨_, rfl⟩, hW, hsame.mono (by decide) (by decide)⟩
  · show Steps p.tables e below (T1.setTop (mkF m 21 #[.val (.int p0), .val (.int p1), .val (.int p2)] [(.long ((((w_HEADER_BYTES_0.toInt64) + ((8 : Int64) * (p0.toInt64))) + ((5 : Int64) * (p1.toInt64))) + (p2.toInt64)))])) _
    jvm_step X1.here [X1.here.top, hx, (hb hby d1_21), X1.method', Bd.returns, narrow]
    first | (intro acts; rw [hr _ acts rfl rfl rfl]) | rw [hr _ _ rfl rfl rfl]
    exact Steps.refl _
  · show Q1 Z _ _ _ _ h0 n0 _ T1.heap _
    rw [e1]
    exact ⟨rfl, N0, rfl⟩
theorem pd_0 : parseMethodDescriptor "(III)J" = some ⟨[.int, .int, .int], some .long⟩ := by decide +kernel
theorem pn_1 : plainName "com/example/gibbon/gibbon/search/TextIndexFormatFileBytesPinLaw" = true := by first | (simp [plainName, overriddenIn]; done) | decide +kernel
theorem ef_0 (m : MethodId) (x0 : Int32) (x1 : Int32) (x2 : Int32)  : entryFrame m #[(.int x0), (.int x1), (.int x2)] maxLocals = mkF m 0 #[.val (.int x0), .val (.int x1), .val (.int x2), .unset, .unset, .unset, .unset, .unset, .unset, .unset, .unset, .unset, .unset, .unset, .unset, .unset, .unset, .unset, .unset, .unset] [] := by first | (simp [entryFrame, mkF, argsToLocals, Value.category, maxLocals]; done) | rfl
def Q0 (Z : State) (p0 : Int32) (p1 : Int32) (p2 : Int32) (h0 : Heap) (n0 : Nat) (v : Option Value) (h : Heap) (L : List Loc) : Prop := v = some (.int (1 : Int32)) ∧ Fr n0 L ∧ h = h0
set_option maxRecDepth 65536 in
set_option maxHeartbeats 40000000 in
theorem rm0 (l : Launch) (Z : State) (a0 : Array Value) (hw : ∀ d ∈ tables_1, d.before a0 Z = true) (ws : List Jvm.Cond) (p0 : Int32) (p1 : Int32) (p2 : Int32) (h0 : Heap) (n0 : Nat) (Z0 : n0 ≤ h0.size) (S_HEADER_BYTES_0 : Sta Z h0 "com/example/gibbon/gibbon/search/TextIndexFormat" "HEADER_BYTES" "I" (.int (24 : Int32))) :
    MetFree l x (head1 (Jvm.Cond.code x code maxLocals ret :: ws) room_1) (fun a U => a = #[(.int p0), (.int p1), (.int p2)] ∧ Z.Warmed39 U.vm ∧ U.heap = h0) (fun _ _ _ _ _ => True) (fun _ U o U' => ∃ v L, o = .returned v ∧ Q0 Z p0 p1 p2 h0 n0 v U'.heap L ∧ FrameEnd U o U' L room_1.cells room_1.slots) := by
  refine MetFree.of_bodySF (plainFor_of_name pn_1) hisR ?_
  intro p e s m args below meth c s₁ Bd hml0 hP hK
  obtain ⟨rfl, hZ, hh⟩ := hP
  have hx := Bd.exec
  have hby := Bd.bytes
  have hml : c.maxLocals = 20 := hml0
  have hown : s.vm.findClass "com/example/gibbon/gibbon/search/TextIndexFormatFileBytesPinLaw" = some m.cls := findClass_of_methodNamed Bd.named
  have hnm := (name_of_methodNamed Bd.named Bd.method).1
  have X0 : Stand p l e room_1 s m #[(.int p0), (.int p1), (.int p2)] below meth c s₁ [] 0 0 := Stand.of_body Bd
  have e0 : s₁.heap = h0 := by rw [← hh, Bd.state]; rfl
  have N0 := Fr.nil n0
  have pre0 : ∀ t, Steps p.tables e below (s₁.setTop (mkF m 0 #[.val (.int p0), .val (.int p1), .val (.int p2), .unset, .unset, .unset, .unset, .unset, .unset, .unset, .unset, .unset, .unset, .unset, .unset, .unset, .unset, .unset, .unset, .unset] [])) t → Steps p.tables e below (s₁.setTop (entryFrame m #[(.int p0), (.int p1), (.int p2)] maxLocals)) t := fun t k => castTop (ef_0 m p0 p1 p2 ) k
  obtain ⟨_, _, ⟨T1, L1, k1, n1⟩, -, X1, ⟨Lc1, hQ1, l1, y1, z1⟩, st1⟩ := Jvm.LawKit.callS X0 hx (y := (⟨"com/example/gibbon/gibbon/search/TextIndexFormat", "fileBytes", "(III)J"⟩ : MethodName)) hown (mvT hZ (hw _ (List.mem_of_getElem? (i := 3) rfl))) (mvT hZ (hw _ (List.mem_of_getElem? (i := 4) rfl))) (mvT hZ (hw _ (List.mem_of_getElem? (i := 5) rfl))) (mvT hZ (hw _ (List.mem_of_getElem? (i := 6) rfl))) (by decide) (backOf (W := 0) (rm1 l Z a0 hw [] (p0 &&& (2147483647 : Int32)) (p1 &&& (2147483647 : Int32)) (p2 &&& (2147483647 : Int32)) (24 : Int32) h0 n0 Z0 S_HEADER_BYTES_0) hZ (hw _ (List.mem_of_getElem? (i := 6) rfl)) (hw _ (List.mem_of_getElem? (i := 5) rfl)) (by decide) (by decide)) (g := (mkF m 81 #[.val (.int p0), .val (.int p1), .val (.int p2), .val (.int (p0 &&& (2147483647 : Int32))), .val (.int (p1 &&& (2147483647 : Int32))), .val (.int (p2 &&& (2147483647 : Int32))), .val (.long (24 : Int64)), .second, .val (.long ((4 : Int64) * ((p0 &&& (2147483647 : Int32)).toInt64))), .second, .val (.long ((4 : Int64) * ((p0 &&& (2147483647 : Int32)).toInt64))), .second, .val (.long ((4 : Int64) * ((p1 &&& (2147483647 : Int32)).toInt64))), .second, .val (.long ((p1 &&& (2147483647 : Int32)).toInt64)), .second, .val (.long ((p2 &&& (2147483647 : Int32)).toInt64)), .second, .val (.long ((((((24 : Int64) + ((4 : Int64) * ((p0 &&& (2147483647 : Int32)).toInt64))) + ((4 : Int64) * ((p0 &&& (2147483647 : Int32)).toInt64))) + ((4 : Int64) * ((p1 &&& (2147483647 : Int32)).toInt64))) + ((p1 &&& (2147483647 : Int32)).toInt64)) + ((p2 &&& (2147483647 : Int32)).toInt64))), .second] [(.int (p2 &&& (2147483647 : Int32))), (.int (p1 &&& (2147483647 : Int32))), (.int (p0 &&& (2147483647 : Int32)))])) rfl (by rw [hml]; rfl) (argsL := [(.int (p0 &&& (2147483647 : Int32))), (.int (p1 &&& (2147483647 : Int32))), (.int (p2 &&& (2147483647 : Int32)))]) (rest := []) (lenOf pd_0 rfl) rfl (by show 2 * 0 + _ ≤ _; exact Nat.le_of_eq rfl) (hb hby at_81) (fun _ _ => ⟨rfl, e0, (by decide : 0 + 0 ≤ _), (by decide : 0 + 0 ≤ _)⟩)
  dsimp only [Pt.U, Pt.locs, Pt.cells, Pt.slots] at X1 l1 y1 z1 st1 hQ1
  subst l1 y1 z1
  obtain ⟨rfl, Nq1, e1⟩ := hQ1
  have N1 := Fr.app N0 Nq1
  have pre2 : ∀ t, Steps p.tables e below (T1.setTop (mkF m 95 #[.val (.int p0), .val (.int p1), .val (.int p2), .val (.int (p0 &&& (2147483647 : Int32))), .val (.int (p1 &&& (2147483647 : Int32))), .val (.int (p2 &&& (2147483647 : Int32))), .val (.long (24 : Int64)), .second, .val (.long ((4 : Int64) * ((p0 &&& (2147483647 : Int32)).toInt64))), .second, .val (.long ((4 : Int64) * ((p0 &&& (2147483647 : Int32)).toInt64))), .second, .val (.long ((4 : Int64) * ((p1 &&& (2147483647 : Int32)).toInt64))), .second, .val (.long ((p1 &&& (2147483647 : Int32)).toInt64)), .second, .val (.long ((p2 &&& (2147483647 : Int32)).toInt64)), .second, .val (.long ((((((24 : Int64) + ((4 : Int64) * ((p0 &&& (2147483647 : Int32)).toInt64))) + ((4 : Int64) * ((p0 &&& (2147483647 : Int32)).toInt64))) + ((4 : Int64) * ((p1 &&& (2147483647 : Int32)).toInt64))) + ((p1 &&& (2147483647 : Int32)).toInt64)) + ((p2 &&& (2147483647 : Int32)).toInt64))), .second] [(.int (1 : Int32))])) t → Steps p.tables e below (s₁.setTop (entryFrame m #[(.int p0), (.int p1), (.int p2)] maxLocals)) t := fun t kt => pre0 t (by
      show Steps p.tables e below (s₁.setTop (mkF m 0 #[.val (.int p0), .val (.int p1), .val (.int p2), .unset, .unset, .unset, .unset, .unset, .unset, .unset, .unset, .unset, .unset, .unset, .unset, .unset, .unset, .unset, .unset, .unset] [])) _
      refine XS.iloadN X0.here hx rfl (hb hby at_0) rfl ?_
      show Steps p.tables e below (s₁.setTop (mkF m 1 #[.val (.int p0), .val (.int p1), .val (.int p2), .unset, .unset, .unset, .unset, .unset, .unset, .unset, .unset, .unset, .unset, .unset, .unset, .unset, .unset, .unset, .unset, .unset] [(.int p0)])) _
      refine X0.ldcInt hx hown (mvT hZ (hw _ (List.mem_of_getElem? (i := 0) rfl))) (g := (mkF m 1 #[.val (.int p0), .val (.int p1), .val (.int p2), .unset, .unset, .unset, .unset, .unset, .unset, .unset, .unset, .unset, .unset, .unset, .unset, .unset, .unset, .unset, .unset, .unset] [(.int p0)])) rfl (hb hby at_1) _ ?_
      show Steps p.tables e below (s₁.setTop (mkF m 3 #[.val (.int p0), .val (.int p1), .val (.int p2), .unset, .unset, .unset, .unset, .unset, .unset, .unset, .unset, .unset, .unset, .unset, .unset, .unset, .unset, .unset, .unset, .unset] [(.int (2147483647 : Int32)), (.int p0)])) _
      refine XS.iand X0.here hx rfl (hb hby at_3) rfl ?_
      show Steps p.tables e below (s₁.setTop (mkF m 4 #[.val (.int p0), .val (.int p1), .val (.int p2), .unset, .unset, .unset, .unset, .unset, .unset, .unset, .unset, .unset, .unset, .unset, .unset, .unset, .unset, .unset, .unset, .unset] [(.int (p0 &&& (2147483647 : Int32)))])) _
      refine XS.istoreN X0.here hx rfl (hb hby at_4) rfl (l' := #[.val (.int p0), .val (.int p1), .val (.int p2), .val (.int (p0 &&& (2147483647 : Int32))), .unset, .unset, .unset, .unset, .unset, .unset, .unset, .unset, .unset, .unset, .unset, .unset, .unset, .unset, .unset, .unset]) rfl ?_
      show Steps p.tables e below (s₁.setTop (mkF m 5 #[.val (.int p0), .val (.int p1), .val (.int p2), .val (.int (p0 &&& (2147483647 : Int32))), .unset, .unset, .unset, .unset, .unset, .unset, .unset, .unset, .unset, .unset, .unset, .unset, .unset, .unset, .unset, .unset] [])) _
      refine XS.iloadN X0.here hx rfl (hb hby at_5) rfl ?_
      show Steps p.tables e below (s₁.setTop (mkF m 6 #[.val (.int p0), .val (.int p1), .val (.int p2), .val (.int (p0 &&& (2147483647 : Int32))), .unset, .unset, .unset, .unset, .unset, .unset, .unset, .unset, .unset, .unset, .unset, .unset, .unset, .unset, .unset, .unset] [(.int p1)])) _
      refine X0.ldcInt hx hown (mvT hZ (hw _ (List.mem_of_getElem? (i := 0) rfl))) (g := (mkF m 6 #[.val (.int p0), .val (.int p1), .val (.int p2), .val (.int (p0 &&& (2147483647 : Int32))), .unset, .unset, .unset, .unset, .unset, .unset, .unset, .unset, .unset, .unset, .unset, .unset, .unset, .unset, .unset, .unset] [(.int p1)])) rfl (hb hby at_6) _ ?_
      show Steps p.tables e below (s₁.setTop (mkF m 8 #[.val (.int p0), .val (.int p1), .val (.int p2), .val (.int (p0 &&& (2147483647 : Int32))), .unset, .unset, .unset, .unset, .unset, .unset, .unset, .unset, .unset, .unset, .unset, .unset, .unset, .unset, .unset, .unset] [(.int (2147483647 : Int32)), (.int p1)])) _
      refine XS.iand X0.here hx rfl (hb hby at_8) rfl ?_
      show Steps p.tables e below (s₁.setTop (mkF m 9 #[.val (.int p0), .val (.int p1), .val (.int p2), .val (.int (p0 &&& (2147483647 : Int32))), .unset, .unset, .unset, .unset, .unset, .unset, .unset, .unset, .unset, .unset, .unset, .unset, .unset, .unset, .unset, .unset] [(.int (p1 &&& (2147483647 : Int32)))])) _
      refine XS.istore X0.here hx rfl (hb hby at_9) rfl (l' := #[.val (.int p0), .val (.int p1), .val (.int p2), .val (.int (p0 &&& (2147483647 : Int32))), .val (.int (p1 &&& (2147483647 : Int32))), .unset, .unset, .unset, .unset, .unset, .unset, .unset, .unset, .unset, .unset, .unset, .unset, .unset, .unset, .unset]) rfl ?_
      show Steps p.tables e below (s₁.setTop (mkF m 11 #[.val (.int p0), .val (.int p1), .val (.int p2), .val (.int (p0 &&& (2147483647 : Int32))), .val (.int (p1 &&& (2147483647 : Int32))), .unset, .unset, .unset, .unset, .unset, .unset, .unset, .unset, .unset, .unset, .unset, .unset, .unset, .unset, .unset] [])) _
      refine XS.iloadN X0.here hx rfl (hb hby at_11) rfl ?_
      show Steps p.tables e below (s₁.setTop (mkF m 12 #[.val (.int p0), .val (.int p1), .val (.int p2), .val (.int (p0 &&& (2147483647 : Int32))), .val (.int (p1 &&& (2147483647 : Int32))), .unset, .unset, .unset, .unset, .unset, .unset, .unset, .unset, .unset, .unset, .unset, .unset, .unset, .unset, .unset] [(.int p2)])) _
      refine X0.ldcInt hx hown (mvT hZ (hw _ (List.mem_of_getElem? (i := 0) rfl))) (g := (mkF m 12 #[.val (.int p0), .val (.int p1), .val (.int p2), .val (.int (p0 &&& (2147483647 : Int32))), .val (.int (p1 &&& (2147483647 : Int32))), .unset, .unset, .unset, .unset, .unset, .unset, .unset, .unset, .unset, .unset, .unset, .unset, .unset, .unset, .unset] [(.int p2)])) rfl (hb hby at_12) _ ?_
      show Steps p.tables e below (s₁.setTop (mkF m 14 #[.val (.int p0), .val (.int p1), .val (.int p2), .val (.int (p0 &&& (2147483647 : Int32))), .val (.int (p1 &&& (2147483647 : Int32))), .unset, .unset, .unset, .unset, .unset, .unset, .unset, .unset, .unset, .unset, .unset, .unset, .unset, .unset, .unset] [(.int (2147483647 : Int32)), (.int p2)])) _
      refine XS.iand X0.here hx rfl (hb hby at_14) rfl ?_
      show Steps p.tables e below (s₁.setTop (mkF m 15 #[.val (.int p0), .val (.int p1), .val (.int p2), .val (.int (p0 &&& (2147483647 : Int32))), .val (.int (p1 &&& (2147483647 : Int32))), .unset, .unset, .unset, .unset, .unset, .unset, .unset, .unset, .unset, .unset, .unset, .unset, .unset, .unset, .unset] [(.int (p2 &&& (2147483647 : Int32)))])) _
      refine XS.istore X0.here hx rfl (hb hby at_15) rfl (l' := #[.val (.int p0), .val (.int p1), .val (.int p2), .val (.int (p0 &&& (2147483647 : Int32))), .val (.int (p1 &&& (2147483647 : Int32))), .val (.int (p2 &&& (2147483647 : Int32))), .unset, .unset, .unset, .unset, .unset, .unset, .unset, .unset, .unset, .unset, .unset, .unset, .unset, .unset]) rfl ?_
      show Steps p.tables e below (s₁.setTop (mkF m 17 #[.val (.int p0), .val (.int p1), .val (.int p2), .val (.int (p0 &&& (2147483647 : Int32))), .val (.int (p1 &&& (2147483647 : Int32))), .val (.int (p2 &&& (2147483647 : Int32))), .unset, .unset, .unset, .unset, .unset, .unset, .unset, .unset, .unset, .unset, .unset, .unset, .unset, .unset] [])) _
      refine X0.ldc2Long hx hown (mvT hZ (hw _ (List.mem_of_getElem? (i := 1) rfl))) (g := (mkF m 17 #[.val (.int p0), .val (.int p1), .val (.int p2), .val (.int (p0 &&& (2147483647 : Int32))), .val (.int (p1 &&& (2147483647 : Int32))), .val (.int (p2 &&& (2147483647 : Int32))), .unset, .unset, .unset, .unset, .unset, .unset, .unset, .unset, .unset, .unset, .unset, .unset, .unset, .unset] [])) rfl (hb hby at_17) _ ?_
      show Steps p.tables e below (s₁.setTop (mkF m 20 #[.val (.int p0), .val (.int p1), .val (.int p2), .val (.int (p0 &&& (2147483647 : Int32))), .val (.int (p1 &&& (2147483647 : Int32))), .val (.int (p2 &&& (2147483647 : Int32))), .unset, .unset, .unset, .unset, .unset, .unset, .unset, .unset, .unset, .unset, .unset, .unset, .unset, .unset] [(.long (24 : Int64))])) _
      refine XS.lstore X0.here hx rfl (hb hby at_20) rfl (l' := #[.val (.int p0), .val (.int p1), .val (.int p2), .val (.int (p0 &&& (2147483647 : Int32))), .val (.int (p1 &&& (2147483647 : Int32))), .val (.int (p2 &&& (2147483647 : Int32))), .val (.long (24 : Int64)), .second, .unset, .unset, .unset, .unset, .unset, .unset, .unset, .unset, .unset, .unset, .unset, .unset]) rfl ?_
      show Steps p.tables e below (s₁.setTop (mkF m 22 #[.val (.int p0), .val (.int p1), .val (.int p2), .val (.int (p0 &&& (2147483647 : Int32))), .val (.int (p1 &&& (2147483647 : Int32))), .val (.int (p2 &&& (2147483647 : Int32))), .val (.long (24 : Int64)), .second, .unset, .unset, .unset, .unset, .unset, .unset, .unset, .unset, .unset, .unset, .unset, .unset] [])) _
      refine X0.ldc2Long hx hown (mvT hZ (hw _ (List.mem_of_getElem? (i := 2) rfl))) (g := (mkF m 22 #[.val (.int p0), .val (.int p1), .val (.int p2), .val (.int (p0 &&& (2147483647 : Int32))), .val (.int (p1 &&& (2147483647 : Int32))), .val (.int (p2 &&& (2147483647 : Int32))), .val (.long (24 : Int64)), .second, .unset, .unset, .unset, .unset, .unset, .unset, .unset, .unset, .unset, .unset, .unset, .unset] [])) rfl (hb hby at_22) _ ?_
      show Steps p.tables e below (s₁.setTop (mkF m 25 #[.val (.int p0), .val (.int p1), .val (.int p2), .val (.int (p0 &&& (2147483647 : Int32))), .val (.int (p1 &&& (2147483647 : Int32))), .val (.int (p2 &&& (2147483647 : Int32))), .val (.long (24 : Int64)), .second, .unset, .unset, .unset, .unset, .unset, .unset, .unset, .unset, .unset, .unset, .unset, .unset] [(.long (4 : Int64))])) _
      refine XS.iloadN X0.here hx rfl (hb hby at_25) rfl ?_
      show Steps p.tables e below (s₁.setTop (mkF m 26 #[.val (.int p0), .val (.int p1), .val (.int p2), .val (.int (p0 &&& (2147483647 : Int32))), .val (.int (p1 &&& (2147483647 : Int32))), .val (.int (p2 &&& (2147483647 : Int32))), .val (.long (24 : Int64)), .second, .unset, .unset, .unset, .unset, .unset, .unset, .unset, .unset, .unset, .unset, .unset, .unset] [(.int (p0 &&& (2147483647 : Int32))), (.long (4 : Int64))])) _
      refine XS.i2l X0.here hx rfl (hb hby at_26) rfl ?_
      show Steps p.tables e below (s₁.setTop (mkF m 27 #[.val (.int p0), .val (.int p1), .val (.int p2), .val (.int (p0 &&& (2147483647 : Int32))), .val (.int (p1 &&& (2147483647 : Int32))), .val (.int (p2 &&& (2147483647 : Int32))), .val (.long (24 : Int64)), .second, .unset, .unset, .unset, .unset, .unset, .unset, .unset, .unset, .unset, .unset, .unset, .unset] [(.long ((p0 &&& (2147483647 : Int32)).toInt64)), (.long (4 : Int64))])) _
      refine XS.lmul X0.here hx rfl (hb hby at_27) rfl ?_
      show Steps p.tables e below (s₁.setTop (mkF m 28 #[.val (.int p0), .val (.int p1), .val (.int p2), .val (.int (p0 &&& (2147483647 : Int32))), .val (.int (p1 &&& (2147483647 : Int32))), .val (.int (p2 &&& (2147483647 : Int32))), .val (.long (24 : Int64)), .second, .unset, .unset, .unset, .unset, .unset, .unset, .unset, .unset, .unset, .unset, .unset, .unset] [(.long ((4 : Int64) * ((p0 &&& (2147483647 : Int32)).toInt64)))])) _
      refine XS.lstore X0.here hx rfl (hb hby at_28) rfl (l' := #[.val (.int p0), .val (.int p1), .val (.int p2), .val (.int (p0 &&& (2147483647 : Int32))), .val (.int (p1 &&& (2147483647 : Int32))), .val (.int (p2 &&& (2147483647 : Int32))), .val (.long (24 : Int64)), .second, .val (.long ((4 : Int64) * ((p0 &&& (2147483647 : Int32)).toInt64))), .second, .unset, .unset, .unset, .unset, .unset, .unset, .unset, .unset, .unset, .unset]) rfl ?_
      show Steps p.tables e below (s₁.setTop (mkF m 30 #[.val (.int p0), .val (.int p1), .val (.int p2), .val (.int (p0 &&& (2147483647 : Int32))), .val (.int (p1 &&& (2147483647 : Int32))), .val (.int (p2 &&& (2147483647 : Int32))), .val (.long (24 : Int64)), .second, .val (.long ((4 : Int64) * ((p0 &&& (2147483647 : Int32)).toInt64))), .second, .unset, .unset, .unset, .unset, .unset, .unset, .unset, .unset, .unset, .unset] [])) _
      refine X0.ldc2Long hx hown (mvT hZ (hw _ (List.mem_of_getElem? (i := 2) rfl))) (g := (mkF m 30 #[.val (.int p0), .val (.int p1), .val (.int p2), .val (.int (p0 &&& (2147483647 : Int32))), .val (.int (p1 &&& (2147483647 : Int32))), .val (.int (p2 &&& (2147483647 : Int32))), .val (.long (24 : Int64)), .second, .val (.long ((4 : Int64) * ((p0 &&& (2147483647 : Int32)).toInt64))), .second, .unset, .unset, .unset, .unset, .unset, .unset, .unset, .unset, .unset, .unset] [])) rfl (hb hby at_30) _ ?_
      show Steps p.tables e below (s₁.setTop (mkF m 33 #[.val (.int p0), .val (.int p1), .val (.int p2), .val (.int (p0 &&& (2147483647 : Int32))), .val (.int (p1 &&& (2147483647 : Int32))), .val (.int (p2 &&& (2147483647 : Int32))), .val (.long (24 : Int64)), .second, .val (.long ((4 : Int64) * ((p0 &&& (2147483647 : Int32)).toInt64))), .second, .unset, .unset, .unset, .unset, .unset, .unset, .unset, .unset, .unset, .unset] [(.long (4 : Int64))])) _
      refine XS.iloadN X0.here hx rfl (hb hby at_33) rfl ?_
      show Steps p.tables e below (s₁.setTop (mkF m 34 #[.val (.int p0), .val (.int p1), .val (.int p2), .val (.int (p0 &&& (2147483647 : Int32))), .val (.int (p1 &&& (2147483647 : Int32))), .val (.int (p2 &&& (2147483647 : Int32))), .val (.long (24 : Int64)), .second, .val (.long ((4 : Int64) * ((p0 &&& (2147483647 : Int32)).toInt64))), .second, .unset, .unset, .unset, .unset, .unset, .unset, .unset, .unset, .unset, .unset] [(.int (p0 &&& (2147483647 : Int32))), (.long (4 : Int64))])) _
      refine XS.i2l X0.here hx rfl (hb hby at_34) rfl ?_
      show Steps p.tables e below (s₁.setTop (mkF m 35 #[.val (.int p0), .val (.int p1), .val (.int p2), .val (.int (p0 &&& (2147483647 : Int32))), .val (.int (p1 &&& (2147483647 : Int32))), .val (.int (p2 &&& (2147483647 : Int32))), .val (.long (24 : Int64)), .second, .val (.long ((4 : Int64) * ((p0 &&& (2147483647 : Int32)).toInt64))), .second, .unset, .unset, .unset, .unset, .unset, .unset, .unset, .unset, .unset, .unset] [(.long ((p0 &&& (2147483647 : Int32)).toInt64)), (.long (4 : Int64))])) _
      refine XS.lmul X0.here hx rfl (hb hby at_35) rfl ?_
      show Steps p.tables e below (s₁.setTop (mkF m 36 #[.val (.int p0), .val (.int p1), .val (.int p2), .val (.int (p0 &&& (2147483647 : Int32))), .val (.int (p1 &&& (2147483647 : Int32))), .val (.int (p2 &&& (2147483647 : Int32))), .val (.long (24 : Int64)), .second, .val (.long ((4 : Int64) * ((p0 &&& (2147483647 : Int32)).toInt64))), .second, .unset, .unset, .unset, .unset, .unset, .unset, .unset, .unset, .unset, .unset] [(.long ((4 : Int64) * ((p0 &&& (2147483647 : Int32)).toInt64)))])) _
      refine XS.lstore X0.here hx rfl (hb hby at_36) rfl (l' := #[.val (.int p0), .val (.int p1), .val (.int p2), .val (.int (p0 &&& (2147483647 : Int32))), .val (.int (p1 &&& (2147483647 : Int32))), .val (.int (p2 &&& (2147483647 : Int32))), .val (.long (24 : Int64)), .second, .val (.long ((4 : Int64) * ((p0 &&& (2147483647 : Int32)).toInt64))), .second, .val (.long ((4 : Int64) * ((p0 &&& (2147483647 : Int32)).toInt64))), .second, .unset, .unset, .unset, .unset, .unset, .unset, .unset, .unset]) rfl ?_
      show Steps p.tables e below (s₁.setTop (mkF m 38 #[.val (.int p0), .val (.int p1), .val (.int p2), .val (.int (p0 &&& (2147483647 : Int32))), .val (.int (p1 &&& (2147483647 : Int32))), .val (.int (p2 &&& (2147483647 : Int32))), .val (.long (24 : Int64)), .second, .val (.long ((4 : Int64) * ((p0 &&& (2147483647 : Int32)).toInt64))), .second, .val (.long ((4 : Int64) * ((p0 &&& (2147483647 : Int32)).toInt64))), .second, .unset, .unset, .unset, .unset, .unset, .unset, .unset, .unset] [])) _
      refine X0.ldc2Long hx hown (mvT hZ (hw _ (List.mem_of_getElem? (i := 2) rfl))) (g := (mkF m 38 #[.val (.int p0), .val (.int p1), .val (.int p2), .val (.int (p0 &&& (2147483647 : Int32))), .val (.int (p1 &&& (2147483647 : Int32))), .val (.int (p2 &&& (2147483647 : Int32))), .val (.long (24 : Int64)), .second, .val (.long ((4 : Int64) * ((p0 &&& (2147483647 : Int32)).toInt64))), .second, .val (.long ((4 : Int64) * ((p0 &&& (2147483647 : Int32)).toInt64))), .second, .unset, .unset, .unset, .unset, .unset, .unset, .unset, .unset] [])) rfl (hb hby at_38) _ ?_
      show Steps p.tables e below (s₁.setTop (mkF m 41 #[.val (.int p0), .val (.int p1), .val (.int p2), .val (.int (p0 &&& (2147483647 : Int32))), .val (.int (p1 &&& (2147483647 : Int32))), .val (.int (p2 &&& (2147483647 : Int32))), .val (.long (24 : Int64)), .second, .val (.long ((4 : Int64) * ((p0 &&& (2147483647 : Int32)).toInt64))), .second, .val (.long ((4 : Int64) * ((p0 &&& (2147483647 : Int32)).toInt64))), .second, .unset, .unset, .unset, .unset, .unset, .unset, .unset, .unset] [(.long (4 : Int64))])) _
      refine XS.iload X0.here hx rfl (hb hby at_41) rfl ?_
      show Steps p.tables e below (s₁.setTop (mkF m 43 #[.val (.int p0), .val (.int p1), .val (.int p2), .val (.int (p0 &&& (2147483647 : Int32))), .val (.int (p1 &&& (2147483647 : Int32))), .val (.int (p2 &&& (2147483647 : Int32))), .val (.long (24 : Int64)), .second, .val (.long ((4 : Int64) * ((p0 &&& (2147483647 : Int32)).toInt64))), .second, .val (.long ((4 : Int64) * ((p0 &&& (2147483647 : Int32)).toInt64))), .second, .unset, .unset, .unset, .unset, .unset, .unset, .unset, .unset] [(.int (p1 &&& (2147483647 : Int32))), (.long (4 : Int64))])) _
      refine XS.i2l X0.here hx rfl (hb hby at_43) rfl ?_
      show Steps p.tables e below (s₁.setTop (mkF m 44 #[.val (.int p0), .val (.int p1), .val (.int p2), .val (.int (p0 &&& (2147483647 : Int32))), .val (.int (p1 &&& (2147483647 : Int32))), .val (.int (p2 &&& (2147483647 : Int32))), .val (.long (24 : Int64)), .second, .val (.long ((4 : Int64) * ((p0 &&& (2147483647 : Int32)).toInt64))), .second, .val (.long ((4 : Int64) * ((p0 &&& (2147483647 : Int32)).toInt64))), .second, .unset, .unset, .unset, .unset, .unset, .unset, .unset, .unset] [(.long ((p1 &&& (2147483647 : Int32)).toInt64)), (.long (4 : Int64))])) _
      refine XS.lmul X0.here hx rfl (hb hby at_44) rfl ?_
      show Steps p.tables e below (s₁.setTop (mkF m 45 #[.val (.int p0), .val (.int p1), .val (.int p2), .val (.int (p0 &&& (2147483647 : Int32))), .val (.int (p1 &&& (2147483647 : Int32))), .val (.int (p2 &&& (2147483647 : Int32))), .val (.long (24 : Int64)), .second, .val (.long ((4 : Int64) * ((p0 &&& (2147483647 : Int32)).toInt64))), .second, .val (.long ((4 : Int64) * ((p0 &&& (2147483647 : Int32)).toInt64))), .second, .unset, .unset, .unset, .unset, .unset, .unset, .unset, .unset] [(.long ((4 : Int64) * ((p1 &&& (2147483647 : Int32)).toInt64)))])) _
      refine XS.lstore X0.here hx rfl (hb hby at_45) rfl (l' := #[.val (.int p0), .val (.int p1), .val (.int p2), .val (.int (p0 &&& (2147483647 : Int32))), .val (.int (p1 &&& (2147483647 : Int32))), .val (.int (p2 &&& (2147483647 : Int32))), .val (.long (24 : Int64)), .second, .val (.long ((4 : Int64) * ((p0 &&& (2147483647 : Int32)).toInt64))), .second, .val (.long ((4 : Int64) * ((p0 &&& (2147483647 : Int32)).toInt64))), .second, .val (.long ((4 : Int64) * ((p1 &&& (2147483647 : Int32)).toInt64))), .second, .unset, .unset, .unset, .unset, .unset, .unset]) rfl ?_
      show Steps p.tables e below (s₁.setTop (mkF m 47 #[.val (.int p0), .val (.int p1), .val (.int p2), .val (.int (p0 &&& (2147483647 : Int32))), .val (.int (p1 &&& (2147483647 : Int32))), .val (.int (p2 &&& (2147483647 : Int32))), .val (.long (24 : Int64)), .second, .val (.long ((4 : Int64) * ((p0 &&& (2147483647 : Int32)).toInt64))), .second, .val (.long ((4 : Int64) * ((p0 &&& (2147483647 : Int32)).toInt64))), .second, .val (.long ((4 : Int64) * ((p1 &&& (2147483647 : Int32)).toInt64))), .second, .unset, .unset, .unset, .unset, .unset, .unset] [])) _
      refine XS.iload X0.here hx rfl (hb hby at_47) rfl ?_
      show Steps p.tables e below (s₁.setTop (mkF m 49 #[.val (.int p0), .val (.int p1), .val (.int p2), .val (.int (p0 &&& (2147483647 : Int32))), .val (.int (p1 &&& (2147483647 : Int32))), .val (.int (p2 &&& (2147483647 : Int32))), .val (.long (24 : Int64)), .second, .val (.long ((4 : Int64) * ((p0 &&& (2147483647 : Int32)).toInt64))), .second, .val (.long ((4 : Int64) * ((p0 &&& (2147483647 : Int32)).toInt64))), .second, .val (.long ((4 : Int64) * ((p1 &&& (2147483647 : Int32)).toInt64))), .second, .unset, .unset, .unset, .unset, .unset, .unset] [(.int (p1 &&& (2147483647 : Int32)))])) _
      refine XS.i2l X0.here hx rfl (hb hby at_49) rfl ?_
      show Steps p.tables e below (s₁.setTop (mkF m 50 #[.val (.int p0), .val (.int p1), .val (.int p2), .val (.int (p0 &&& (2147483647 : Int32))), .val (.int (p1 &&& (2147483647 : Int32))), .val (.int (p2 &&& (2147483647 : Int32))), .val (.long (24 : Int64)), .second, .val (.long ((4 : Int64) * ((p0 &&& (2147483647 : Int32)).toInt64))), .second, .val (.long ((4 : Int64) * ((p0 &&& (2147483647 : Int32)).toInt64))), .second, .val (.long ((4 : Int64) * ((p1 &&& (2147483647 : Int32)).toInt64))), .second, .unset, .unset, .unset, .unset, .unset, .unset] [(.long ((p1 &&& (2147483647 : Int32)).toInt64))])) _
      refine XS.lstore X0.here hx rfl (hb hby at_50) rfl (l' := #[.val (.int p0), .val (.int p1), .val (.int p2), .val (.int (p0 &&& (2147483647 : Int32))), .val (.int (p1 &&& (2147483647 : Int32))), .val (.int (p2 &&& (2147483647 : Int32))), .val (.long (24 : Int64)), .second, .val (.long ((4 : Int64) * ((p0 &&& (2147483647 : Int32)).toInt64))), .second, .val (.long ((4 : Int64) * ((p0 &&& (2147483647 : Int32)).toInt64))), .second, .val (.long ((4 : Int64) * ((p1 &&& (2147483647 : Int32)).toInt64))), .second, .val (.long ((p1 &&& (2147483647 : Int32)).toInt64)), .second, .unset, .unset, .unset, .unset]) rfl ?_
      show Steps p.tables e below (s₁.setTop (mkF m 52 #[.val (.int p0), .val (.int p1), .val (.int p2), .val (.int (p0 &&& (2147483647 : Int32))), .val (.int (p1 &&& (2147483647 : Int32))), .val (.int (p2 &&& (2147483647 : Int32))), .val (.long (24 : Int64)), .second, .val (.long ((4 : Int64) * ((p0 &&& (2147483647 : Int32)).toInt64))), .second, .val (.long ((4 : Int64) * ((p0 &&& (2147483647 : Int32)).toInt64))), .second, .val (.long ((4 : Int64) * ((p1 &&& (2147483647 : Int32)).toInt64))), .second, .val (.long ((p1 &&& (2147483647 : Int32)).toInt64)), .second, .unset, .unset, .unset, .unset] [])) _
      refine XS.iload X0.here hx rfl (hb hby at_52) rfl ?_
      show Steps p.tables e below (s₁.setTop (mkF m 54 #[.val (.int p0), .val (.int p1), .val (.int p2), .val (.int (p0 &&& (2147483647 : Int32))), .val (.int (p1 &&& (2147483647 : Int32))), .val (.int (p2 &&& (2147483647 : Int32))), .val (.long (24 : Int64)), .second, .val (.long ((4 : Int64) * ((p0 &&& (2147483647 : Int32)).toInt64))), .second, .val (.long ((4 : Int64) * ((p0 &&& (2147483647 : Int32)).toInt64))), .second, .val (.long ((4 : Int64) * ((p1 &&& (2147483647 : Int32)).toInt64))), .second, .val (.long ((p1 &&& (2147483647 : Int32)).toInt64)), .second, .unset, .unset, .unset, .unset] [(.int (p2 &&& (2147483647 : Int32)))])) _
      refine XS.i2l X0.here hx rfl (hb hby at_54) rfl ?_
      show Steps p.tables e below (s₁.setTop (mkF m 55 #[.val (.int p0), .val (.int p1), .val (.int p2), .val (.int (p0 &&& (2147483647 : Int32))), .val (.int (p1 &&& (2147483647 : Int32))), .val (.int (p2 &&& (2147483647 : Int32))), .val (.long (24 : Int64)), .second, .val (.long ((4 : Int64) * ((p0 &&& (2147483647 : Int32)).toInt64))), .second, .val (.long ((4 : Int64) * ((p0 &&& (2147483647 : Int32)).toInt64))), .second, .val (.long ((4 : Int64) * ((p1 &&& (2147483647 : Int32)).toInt64))), .second, .val (.long ((p1 &&& (2147483647 : Int32)).toInt64)), .second, .unset, .unset, .unset, .unset] [(.long ((p2 &&& (2147483647 : Int32)).toInt64))])) _
      refine XS.lstore X0.here hx rfl (hb hby at_55) rfl (l' := #[.val (.int p0), .val (.int p1), .val (.int p2), .val (.int (p0 &&& (2147483647 : Int32))), .val (.int (p1 &&& (2147483647 : Int32))), .val (.int (p2 &&& (2147483647 : Int32))), .val (.long (24 : Int64)), .second, .val (.long ((4 : Int64) * ((p0 &&& (2147483647 : Int32)).toInt64))), .second, .val (.long ((4 : Int64) * ((p0 &&& (2147483647 : Int32)).toInt64))), .second, .val (.long ((4 : Int64) * ((p1 &&& (2147483647 : Int32)).toInt64))), .second, .val (.long ((p1 &&& (2147483647 : Int32)).toInt64)), .second, .val (.long ((p2 &&& (2147483647 : Int32)).toInt64)), .second, .unset, .unset]) rfl ?_
      show Steps p.tables e below (s₁.setTop (mkF m 57 #[.val (.int p0), .val (.int p1), .val (.int p2), .val (.int (p0 &&& (2147483647 : Int32))), .val (.int (p1 &&& (2147483647 : Int32))), .val (.int (p2 &&& (2147483647 : Int32))), .val (.long (24 : Int64)), .second, .val (.long ((4 : Int64) * ((p0 &&& (2147483647 : Int32)).toInt64))), .second, .val (.long ((4 : Int64) * ((p0 &&& (2147483647 : Int32)).toInt64))), .second, .val (.long ((4 : Int64) * ((p1 &&& (2147483647 : Int32)).toInt64))), .second, .val (.long ((p1 &&& (2147483647 : Int32)).toInt64)), .second, .val (.long ((p2 &&& (2147483647 : Int32)).toInt64)), .second, .unset, .unset] [])) _
      refine XS.lload X0.here hx rfl (hb hby at_57) rfl ?_
      show Steps p.tables e below (s₁.setTop (mkF m 59 #[.val (.int p0), .val (.int p1), .val (.int p2), .val (.int (p0 &&& (2147483647 : Int32))), .val (.int (p1 &&& (2147483647 : Int32))), .val (.int (p2 &&& (2147483647 : Int32))), .val (.long (24 : Int64)), .second, .val (.long ((4 : Int64) * ((p0 &&& (2147483647 : Int32)).toInt64))), .second, .val (.long ((4 : Int64) * ((p0 &&& (2147483647 : Int32)).toInt64))), .second, .val (.long ((4 : Int64) * ((p1 &&& (2147483647 : Int32)).toInt64))), .second, .val (.long ((p1 &&& (2147483647 : Int32)).toInt64)), .second, .val (.long ((p2 &&& (2147483647 : Int32)).toInt64)), .second, .unset, .unset] [(.long (24 : Int64))])) _
      refine XS.lload X0.here hx rfl (hb hby at_59) rfl ?_
      show Steps p.tables e below (s₁.setTop (mkF m 61 #[.val (.int p0), .val (.int p1), .val (.int p2), .val (.int (p0 &&& (2147483647 : Int32))), .val (.int (p1 &&& (2147483647 : Int32))), .val (.int (p2 &&& (2147483647 : Int32))), .val (.long (24 : Int64)), .second, .val (.long ((4 : Int64) * ((p0 &&& (2147483647 : Int32)).toInt64))), .second, .val (.long ((4 : Int64) * ((p0 &&& (2147483647 : Int32)).toInt64))), .second, .val (.long ((4 : Int64) * ((p1 &&& (2147483647 : Int32)).toInt64))), .second, .val (.long ((p1 &&& (2147483647 : Int32)).toInt64)), .second, .val (.long ((p2 &&& (2147483647 : Int32)).toInt64)), .second, .unset, .unset] [(.long ((4 : Int64) * ((p0 &&& (2147483647 : Int32)).toInt64))), (.long (24 : Int64))])) _
      refine XS.ladd X0.here hx rfl (hb hby at_61) rfl ?_
      show Steps p.tables e below (s₁.setTop (mkF m 62 #[.val (.int p0), .val (.int p1), .val (.int p2), .val (.int (p0 &&& (2147483647 : Int32))), .val (.int (p1 &&& (2147483647 : Int32))), .val (.int (p2 &&& (2147483647 : Int32))), .val (.long (24 : Int64)), .second, .val (.long ((4 : Int64) * ((p0 &&& (2147483647 : Int32)).toInt64))), .second, .val (.long ((4 : Int64) * ((p0 &&& (2147483647 : Int32)).toInt64))), .second, .val (.long ((4 : Int64) * ((p1 &&& (2147483647 : Int32)).toInt64))), .second, .val (.long ((p1 &&& (2147483647 : Int32)).toInt64)), .second, .val (.long ((p2 &&& (2147483647 : Int32)).toInt64)), .second, .unset, .unset] [(.long ((24 : Int64) + ((4 : Int64) * ((p0 &&& (2147483647 : Int32)).toInt64))))])) _
      refine XS.lload X0.here hx rfl (hb hby at_62) rfl ?_
      show Steps p.tables e below (s₁.setTop (mkF m 64 #[.val (.int p0), .val (.int p1), .val (.int p2), .val (.int (p0 &&& (2147483647 : Int32))), .val (.int (p1 &&& (2147483647 : Int32))), .val (.int (p2 &&& (2147483647 : Int32))), .val (.long (24 : Int64)), .second, .val (.long ((4 : Int64) * ((p0 &&& (2147483647 : Int32)).toInt64))), .second, .val (.long ((4 : Int64) * ((p0 &&& (2147483647 : Int32)).toInt64))), .second, .val (.long ((4 : Int64) * ((p1 &&& (2147483647 : Int32)).toInt64))), .second, .val (.long ((p1 &&& (2147483647 : Int32)).toInt64)), .second, .val (.long ((p2 &&& (2147483647 : Int32)).toInt64)), .second, .unset, .unset] [(.long ((4 : Int64) * ((p0 &&& (2147483647 : Int32)).toInt64))), (.long ((24 : Int64) + ((4 : Int64) * ((p0 &&& (2147483647 : Int32)).toInt64))))])) _
      refine XS.ladd X0.here hx rfl (hb hby at_64) rfl ?_
      show Steps p.tables e below (s₁.setTop (mkF m 65 #[.val (.int p0), .val (.int p1), .val (.int p2), .val (.int (p0 &&& (2147483647 : Int32))), .val (.int (p1 &&& (2147483647 : Int32))), .val (.int (p2 &&& (2147483647 : Int32))), .val (.long (24 : Int64)), .second, .val (.long ((4 : Int64) * ((p0 &&& (2147483647 : Int32)).toInt64))), .second, .val (.long ((4 : Int64) * ((p0 &&& (2147483647 : Int32)).toInt64))), .second, .val (.long ((4 : Int64) * ((p1 &&& (2147483647 : Int32)).toInt64))), .second, .val (.long ((p1 &&& (2147483647 : Int32)).toInt64)), .second, .val (.long ((p2 &&& (2147483647 : Int32)).toInt64)), .second, .unset, .unset] [(.long (((24 : Int64) + ((4 : Int64) * ((p0 &&& (2147483647 : Int32)).toInt64))) + ((4 : Int64) * ((p0 &&& (2147483647 : Int32)).toInt64))))])) _
      refine XS.lload X0.here hx rfl (hb hby at_65) rfl ?_
      show Steps p.tables e below (s₁.setTop (mkF m 67 #[.val (.int p0), .val (.int p1), .val (.int p2), .val (.int (p0 &&& (2147483647 : Int32))), .val (.int (p1 &&& (2147483647 : Int32))), .val (.int (p2 &&& (2147483647 : Int32))), .val (.long (24 : Int64)), .second, .val (.long ((4 : Int64) * ((p0 &&& (2147483647 : Int32)).toInt64))), .second, .val (.long ((4 : Int64) * ((p0 &&& (2147483647 : Int32)).toInt64))), .second, .val (.long ((4 : Int64) * ((p1 &&& (2147483647 : Int32)).toInt64))), .second, .val (.long ((p1 &&& (2147483647 : Int32)).toInt64)), .second, .val (.long ((p2 &&& (2147483647 : Int32)).toInt64)), .second, .unset, .unset] [(.long ((4 : Int64) * ((p1 &&& (2147483647 : Int32)).toInt64))), (.long (((24 : Int64) + ((4 : Int64) * ((p0 &&& (2147483647 : Int32)).toInt64))) + ((4 : Int64) * ((p0 &&& (2147483647 : Int32)).toInt64))))])) _
      refine XS.ladd X0.here hx rfl (hb hby at_67) rfl ?_
      show Steps p.tables e below (s₁.setTop (mkF m 68 #[.val (.int p0), .val (.int p1), .val (.int p2), .val (.int (p0 &&& (2147483647 : Int32))), .val (.int (p1 &&& (2147483647 : Int32))), .val (.int (p2 &&& (2147483647 : Int32))), .val (.long (24 : Int64)), .second, .val (.long ((4 : Int64) * ((p0 &&& (2147483647 : Int32)).toInt64))), .second, .val (.long ((4 : Int64) * ((p0 &&& (2147483647 : Int32)).toInt64))), .second, .val (.long ((4 : Int64) * ((p1 &&& (2147483647 : Int32)).toInt64))), .second, .val (.long ((p1 &&& (2147483647 : Int32)).toInt64)), .second, .val (.long ((p2 &&& (2147483647 : Int32)).toInt64)), .second, .unset, .unset] [(.long ((((24 : Int64) + ((4 : Int64) * ((p0 &&& (2147483647 : Int32)).toInt64))) + ((4 : Int64) * ((p0 &&& (2147483647 : Int32)).toInt64))) + ((4 : Int64) * ((p1 &&& (2147483647 : Int32)).toInt64))))])) _
      refine XS.lload X0.here hx rfl (hb hby at_68) rfl ?_
      show Steps p.tables e below (s₁.setTop (mkF m 70 #[.val (.int p0), .val (.int p1), .val (.int p2), .val (.int (p0 &&& (2147483647 : Int32))), .val (.int (p1 &&& (2147483647 : Int32))), .val (.int (p2 &&& (2147483647 : Int32))), .val (.long (24 : Int64)), .second, .val (.long ((4 : Int64) * ((p0 &&& (2147483647 : Int32)).toInt64))), .second, .val (.long ((4 : Int64) * ((p0 &&& (2147483647 : Int32)).toInt64))), .second, .val (.long ((4 : Int64) * ((p1 &&& (2147483647 : Int32)).toInt64))), .second, .val (.long ((p1 &&& (2147483647 : Int32)).toInt64)), .second, .val (.long ((p2 &&& (2147483647 : Int32)).toInt64)), .second, .unset, .unset] [(.long ((p1 &&& (2147483647 : Int32)).toInt64)), (.long ((((24 : Int64) + ((4 : Int64) * ((p0 &&& (2147483647 : Int32)).toInt64))) + ((4 : Int64) * ((p0 &&& (2147483647 : Int32)).toInt64))) + ((4 : Int64) * ((p1 &&& (2147483647 : Int32)).toInt64))))])) _
      refine XS.ladd X0.here hx rfl (hb hby at_70) rfl ?_
      show Steps p.tables e below (s₁.setTop (mkF m 71 #[.val (.int p0), .val (.int p1), .val (.int p2), .val (.int (p0 &&& (2147483647 : Int32))), .val (.int (p1 &&& (2147483647 : Int32))), .val (.int (p2 &&& (2147483647 : Int32))), .val (.long (24 : Int64)), .second, .val (.long ((4 : Int64) * ((p0 &&& (2147483647 : Int32)).toInt64))), .second, .val (.long ((4 : Int64) * ((p0 &&& (2147483647 : Int32)).toInt64))), .second, .val (.long ((4 : Int64) * ((p1 &&& (2147483647 : Int32)).toInt64))), .second, .val (.long ((p1 &&& (2147483647 : Int32)).toInt64)), .second, .val (.long ((p2 &&& (2147483647 : Int32)).toInt64)), .second, .unset, .unset] [(.long (((((24 : Int64) + ((4 : Int64) * ((p0 &&& (2147483647 : Int32)).toInt64))) + ((4 : Int64) * ((p0 &&& (2147483647 : Int32)).toInt64))) + ((4 : Int64) * ((p1 &&& (2147483647 : Int32)).toInt64))) + ((p1 &&& (2147483647 : Int32)).toInt64)))])) _
      refine XS.lload X0.here hx rfl (hb hby at_71) rfl ?_
      show Steps p.tables e below (s₁.setTop (mkF m 73 #[.val (.int p0), .val (.int p1), .val (.int p2), .val (.int (p0 &&& (2147483647 : Int32))), .val (.int (p1 &&& (2147483647 : Int32))), .val (.int (p2 &&& (2147483647 : Int32))), .val (.long (24 : Int64)), .second, .val (.long ((4 : Int64) * ((p0 &&& (2147483647 : Int32)).toInt64))), .second, .val (.long ((4 : Int64) * ((p0 &&& (2147483647 : Int32)).toInt64))), .second, .val (.long ((4 : Int64) * ((p1 &&& (2147483647 : Int32)).toInt64))), .second, .val (.long ((p1 &&& (2147483647 : Int32)).toInt64)), .second, .val (.long ((p2 &&& (2147483647 : Int32)).toInt64)), .second, .unset, .unset] [(.long ((p2 &&& (2147483647 : Int32)).toInt64)), (.long (((((24 : Int64) + ((4 : Int64) * ((p0 &&& (2147483647 : Int32)).toInt64))) + ((4 : Int64) * ((p0 &&& (2147483647 : Int32)).toInt64))) + ((4 : Int64) * ((p1 &&& (2147483647 : Int32)).toInt64))) + ((p1 &&& (2147483647 : Int32)).toInt64)))])) _
      refine XS.ladd X0.here hx rfl (hb hby at_73) rfl ?_
      show Steps p.tables e below (s₁.setTop (mkF m 74 #[.val (.int p0), .val (.int p1), .val (.int p2), .val (.int (p0 &&& (2147483647 : Int32))), .val (.int (p1 &&& (2147483647 : Int32))), .val (.int (p2 &&& (2147483647 : Int32))), .val (.long (24 : Int64)), .second, .val (.long ((4 : Int64) * ((p0 &&& (2147483647 : Int32)).toInt64))), .second, .val (.long ((4 : Int64) * ((p0 &&& (2147483647 : Int32)).toInt64))), .second, .val (.long ((4 : Int64) * ((p1 &&& (2147483647 : Int32)).toInt64))), .second, .val (.long ((p1 &&& (2147483647 : Int32)).toInt64)), .second, .val (.long ((p2 &&& (2147483647 : Int32)).toInt64)), .second, .unset, .unset] [(.long ((((((24 : Int64) + ((4 : Int64) * ((p0 &&& (2147483647 : Int32)).toInt64))) + ((4 : Int64) * ((p0 &&& (2147483647 : Int32)).toInt64))) + ((4 : Int64) * ((p1 &&& (2147483647 : Int32)).toInt64))) + ((p1 &&& (2147483647 : Int32)).toInt64)) + ((p2 &&& (2147483647 : Int32)).toInt64)))])) _
      refine XS.lstore X0.here hx rfl (hb hby at_74) rfl (l' := #[.val (.int p0), .val (.int p1), .val (.int p2), .val (.int (p0 &&& (2147483647 : Int32))), .val (.int (p1 &&& (2147483647 : Int32))), .val (.int (p2 &&& (2147483647 : Int32))), .val (.long (24 : Int64)), .second, .val (.long ((4 : Int64) * ((p0 &&& (2147483647 : Int32)).toInt64))), .second, .val (.long ((4 : Int64) * ((p0 &&& (2147483647 : Int32)).toInt64))), .second, .val (.long ((4 : Int64) * ((p1 &&& (2147483647 : Int32)).toInt64))), .second, .val (.long ((p1 &&& (2147483647 : Int32)).toInt64)), .second, .val (.long ((p2 &&& (2147483647 : Int32)).toInt64)), .second, .val (.long ((((((24 : Int64) + ((4 : Int64) * ((p0 &&& (2147483647 : Int32)).toInt64))) + ((4 : Int64) * ((p0 &&& (2147483647 : Int32)).toInt64))) + ((4 : Int64) * ((p1 &&& (2147483647 : Int32)).toInt64))) + ((p1 &&& (2147483647 : Int32)).toInt64)) + ((p2 &&& (2147483647 : Int32)).toInt64))), .second]) rfl ?_
      show Steps p.tables e below (s₁.setTop (mkF m 76 #[.val (.int p0), .val (.int p1), .val (.int p2), .val (.int (p0 &&& (2147483647 : Int32))), .val (.int (p1 &&& (2147483647 : Int32))), .val (.int (p2 &&& (2147483647 : Int32))), .val (.long (24 : Int64)), .second, .val (.long ((4 : Int64) * ((p0 &&& (2147483647 : Int32)).toInt64))), .second, .val (.long ((4 : Int64) * ((p0 &&& (2147483647 : Int32)).toInt64))), .second, .val (.long ((4 : Int64) * ((p1 &&& (2147483647 : Int32)).toInt64))), .second, .val (.long ((p1 &&& (2147483647 : Int32)).toInt64)), .second, .val (.long ((p2 &&& (2147483647 : Int32)).toInt64)), .second, .val (.long ((((((24 : Int64) + ((4 : Int64) * ((p0 &&& (2147483647 : Int32)).toInt64))) + ((4 : Int64) * ((p0 &&& (2147483647 : Int32)).toInt64))) + ((4 : Int64) * ((p1 &&& (2147483647 : Int32)).toInt64))) + ((p1 &&& (2147483647 : Int32)).toInt64)) + ((p2 &&& (2147483647 : Int32)).toInt64))), .second] [])) _
      refine XS.iloadN X0.here hx rfl (hb hby at_76) rfl ?_
      show Steps p.tables e below (s₁.setTop (mkF m 77 #[.val (.int p0), .val (.int p1), .val (.int p2), .val (.int (p0 &&& (2147483647 : Int32))), .val (.int (p1 &&& (2147483647 : Int32))), .val (.int (p2 &&& (2147483647 : Int32))), .val (.long (24 : Int64)), .second, .val (.long ((4 : Int64) * ((p0 &&& (2147483647 : Int32)).toInt64))), .second, .val (.long ((4 : Int64) * ((p0 &&& (2147483647 : Int32)).toInt64))), .second, .val (.long ((4 : Int64) * ((p1 &&& (2147483647 : Int32)).toInt64))), .second, .val (.long ((p1 &&& (2147483647 : Int32)).toInt64)), .second, .val (.long ((p2 &&& (2147483647 : Int32)).toInt64)), .second, .val (.long ((((((24 : Int64) + ((4 : Int64) * ((p0 &&& (2147483647 : Int32)).toInt64))) + ((4 : Int64) * ((p0 &&& (2147483647 : Int32)).toInt64))) + ((4 : Int64) * ((p1 &&& (2147483647 : Int32)).toInt64))) + ((p1 &&& (2147483647 : Int32)).toInt64)) + ((p2 &&& (2147483647 : Int32)).toInt64))), .second] [(.int (p0 &&& (2147483647 : Int32)))])) _
      refine XS.iload X0.here hx rfl (hb hby at_77) rfl ?_
      show Steps p.tables e below (s₁.setTop (mkF m 79 #[.val (.int p0), .val (.int p1), .val (.int p2), .val (.int (p0 &&& (2147483647 : Int32))), .val (.int (p1 &&& (2147483647 : Int32))), .val (.int (p2 &&& (2147483647 : Int32))), .val (.long (24 : Int64)), .second, .val (.long ((4 : Int64) * ((p0 &&& (2147483647 : Int32)).toInt64))), .second, .val (.long ((4 : Int64) * ((p0 &&& (2147483647 : Int32)).toInt64))), .second, .val (.long ((4 : Int64) * ((p1 &&& (2147483647 : Int32)).toInt64))), .second, .val (.long ((p1 &&& (2147483647 : Int32)).toInt64)), .second, .val (.long ((p2 &&& (2147483647 : Int32)).toInt64)), .second, .val (.long ((((((24 : Int64) + ((4 : Int64) * ((p0 &&& (2147483647 : Int32)).toInt64))) + ((4 : Int64) * ((p0 &&& (2147483647 : Int32)).toInt64))) + ((4 : Int64) * ((p1 &&& (2147483647 : Int32)).toInt64))) + ((p1 &&& (2147483647 : Int32)).toInt64)) + ((p2 &&& (2147483647 : Int32)).toInt64))), .second] [(.int (p1 &&& (2147483647 : Int32))), (.int (p0 &&& (2147483647 : Int32)))])) _
      refine XS.iload X0.here hx rfl (hb hby at_79) rfl ?_
      show Steps p.tables e below (s₁.setTop (mkF m 81 #[.val (.int p0), .val (.int p1), .val (.int p2), .val (.int (p0 &&& (2147483647 : Int32))), .val (.int (p1 &&& (2147483647 : Int32))), .val (.int (p2 &&& (2147483647 : Int32))), .val (.long (24 : Int64)), .second, .val (.long ((4 : Int64) * ((p0 &&& (2147483647 : Int32)).toInt64))), .second, .val (.long ((4 : Int64) * ((p0 &&& (2147483647 : Int32)).toInt64))), .second, .val (.long ((4 : Int64) * ((p1 &&& (2147483647 : Int32)).toInt64))), .second, .val (.long ((p1 &&& (2147483647 : Int32)).toInt64)), .second, .val (.long ((p2 &&& (2147483647 : Int32)).toInt64)), .second, .val (.long ((((((24 : Int64) + ((4 : Int64) * ((p0 &&& (2147483647 : Int32)).toInt64))) + ((4 : Int64) * ((p0 &&& (2147483647 : Int32)).toInt64))) + ((4 : Int64) * ((p1 &&& (2147483647 : Int32)).toInt64))) + ((p1 &&& (2147483647 : Int32)).toInt64)) + ((p2 &&& (2147483647 : Int32)).toInt64))), .second] [(.int (p2 &&& (2147483647 : Int32))), (.int (p1 &&& (2147483647 : Int32))), (.int (p0 &&& (2147483647 : Int32)))])) _
      refine st1 _ ?_
      show Steps p.tables e below (T1.setTop (mkF m 84 #[.val (.int p0), .val (.int p1), .val (.int p2), .val (.int (p0 &&& (2147483647 : Int32))), .val (.int (p1 &&& (2147483647 : Int32))), .val (.int (p2 &&& (2147483647 : Int32))), .val (.long (24 : Int64)), .second, .val (.long ((4 : Int64) * ((p0 &&& (2147483647 : Int32)).toInt64))), .second, .val (.long ((4 : Int64) * ((p0 &&& (2147483647 : Int32)).toInt64))), .second, .val (.long ((4 : Int64) * ((p1 &&& (2147483647 : Int32)).toInt64))), .second, .val (.long ((p1 &&& (2147483647 : Int32)).toInt64)), .second, .val (.long ((p2 &&& (2147483647 : Int32)).toInt64)), .second, .val (.long ((((((24 : Int64) + ((4 : Int64) * ((p0 &&& (2147483647 : Int32)).toInt64))) + ((4 : Int64) * ((p0 &&& (2147483647 : Int32)).toInt64))) + ((4 : Int64) * ((p1 &&& (2147483647 : Int32)).toInt64))) + ((p1 &&& (2147483647 : Int32)).toInt64)) + ((p2 &&& (2147483647 : Int32)).toInt64))), .second] [(.long (((((24 : Int32).toInt64) + ((8 : Int64) * ((p0 &&& (2147483647 : Int32)).toInt64))) + ((5 : Int64) * ((p1 &&& (2147483647 : Int32)).toInt64))) + ((p2 &&& (2147483647 : Int32)).toInt64)))])) _
      refine XS.lload X1.here hx rfl (hb hby at_84) rfl ?_
      show Steps p.tables e below (T1.setTop (mkF m 86 #[.val (.int p0), .val (.int p1), .val (.int p2), .val (.int (p0 &&& (2147483647 : Int32))), .val (.int (p1 &&& (2147483647 : Int32))), .val (.int (p2 &&& (2147483647 : Int32))), .val (.long (24 : Int64)), .second, .val (.long ((4 : Int64) * ((p0 &&& (2147483647 : Int32)).toInt64))), .second, .val (.long ((4 : Int64) * ((p0 &&& (2147483647 : Int32)).toInt64))), .second, .val (.long ((4 : Int64) * ((p1 &&& (2147483647 : Int32)).toInt64))), .second, .val (.long ((p1 &&& (2147483647 : Int32)).toInt64)), .second, .val (.long ((p2 &&& (2147483647 : Int32)).toInt64)), .second, .val (.long ((((((24 : Int64) + ((4 : Int64) * ((p0 &&& (2147483647 : Int32)).toInt64))) + ((4 : Int64) * ((p0 &&& (2147483647 : Int32)).toInt64))) + ((4 : Int64) * ((p1 &&& (2147483647 : Int32)).toInt64))) + ((p1 &&& (2147483647 : Int32)).toInt64)) + ((p2 &&& (2147483647 : Int32)).toInt64))), .second] [(.long ((((((24 : Int64) + ((4 : Int64) * ((p0 &&& (2147483647 : Int32)).toInt64))) + ((4 : Int64) * ((p0 &&& (2147483647 : Int32)).toInt64))) + ((4 : Int64) * ((p1 &&& (2147483647 : Int32)).toInt64))) + ((p1 &&& (2147483647 : Int32)).toInt64)) + ((p2 &&& (2147483647 : Int32)).toInt64))), (.long (((((24 : Int32).toInt64) + ((8 : Int64) * ((p0 &&& (2147483647 : Int32)).toInt64))) + ((5 : Int64) * ((p1 &&& (2147483647 : Int32)).toInt64))) + ((p2 &&& (2147483647 : Int32)).toInt64)))])) _
      refine XS.lcmp X1.here hx rfl (hb hby at_86) rfl ?_
      show Steps p.tables e below (T1.setTop (mkF m 87 #[.val (.int p0), .val (.int p1), .val (.int p2), .val (.int (p0 &&& (2147483647 : Int32))), .val (.int (p1 &&& (2147483647 : Int32))), .val (.int (p2 &&& (2147483647 : Int32))), .val (.long (24 : Int64)), .second, .val (.long ((4 : Int64) * ((p0 &&& (2147483647 : Int32)).toInt64))), .second, .val (.long ((4 : Int64) * ((p0 &&& (2147483647 : Int32)).toInt64))), .second, .val (.long ((4 : Int64) * ((p1 &&& (2147483647 : Int32)).toInt64))), .second, .val (.long ((p1 &&& (2147483647 : Int32)).toInt64)), .second, .val (.long ((p2 &&& (2147483647 : Int32)).toInt64)), .second, .val (.long ((((((24 : Int64) + ((4 : Int64) * ((p0 &&& (2147483647 : Int32)).toInt64))) + ((4 : Int64) * ((p0 &&& (2147483647 : Int32)).toInt64))) + ((4 : Int64) * ((p1 &&& (2147483647 : Int32)).toInt64))) + ((p1 &&& (2147483647 : Int32)).toInt64)) + ((p2 &&& (2147483647 : Int32)).toInt64))), .second] [(.int (lcmpW (((((24 : Int32).toInt64) + ((8 : Int64) * ((p0 &&& (2147483647 : Int32)).toInt64))) + ((5 : Int64) * ((p1 &&& (2147483647 : Int32)).toInt64))) + ((p2 &&& (2147483647 : Int32)).toInt64)) ((((((24 : Int64) + ((4 : Int64) * ((p0 &&& (2147483647 : Int32)).toInt64))) + ((4 : Int64) * ((p0 &&& (2147483647 : Int32)).toInt64))) + ((4 : Int64) * ((p1 &&& (2147483647 : Int32)).toInt64))) + ((p1 &&& (2147483647 : Int32)).toInt64)) + ((p2 &&& (2147483647 : Int32)).toInt64))))])) _
      refine XS.ifNo X1.here hx rfl (hb hby at_87) rfl ((if0 _ _).trans (teq ((lw_eq _ _).mpr (own_alg _ _ _))).2) ?_
      show Steps p.tables e below (T1.setTop (mkF m 90 #[.val (.int p0), .val (.int p1), .val (.int p2), .val (.int (p0 &&& (2147483647 : Int32))), .val (.int (p1 &&& (2147483647 : Int32))), .val (.int (p2 &&& (2147483647 : Int32))), .val (.long (24 : Int64)), .second, .val (.long ((4 : Int64) * ((p0 &&& (2147483647 : Int32)).toInt64))), .second, .val (.long ((4 : Int64) * ((p0 &&& (2147483647 : Int32)).toInt64))), .second, .val (.long ((4 : Int64) * ((p1 &&& (2147483647 : Int32)).toInt64))), .second, .val (.long ((p1 &&& (2147483647 : Int32)).toInt64)), .second, .val (.long ((p2 &&& (2147483647 : Int32)).toInt64)), .second, .val (.long ((((((24 : Int64) + ((4 : Int64) * ((p0 &&& (2147483647 : Int32)).toInt64))) + ((4 : Int64) * ((p0 &&& (2147483647 : Int32)).toInt64))) + ((4 : Int64) * ((p1 &&& (2147483647 : Int32)).toInt64))) + ((p1 &&& (2147483647 : Int32)).toInt64)) + ((p2 &&& (2147483647 : Int32)).toInt64))), .second] [])) _
      refine XS.iconst X1.here hx rfl (hb hby at_90) ?_
      show Steps p.tables e below (T1.setTop (mkF m 91 #[.val (.int p0), .val (.int p1), .val (.int p2), .val (.int (p0 &&& (2147483647 : Int32))), .val (.int (p1 &&& (2147483647 : Int32))), .val (.int (p2 &&& (2147483647 : Int32))), .val (.long (24 : Int64)), .second, .val (.long ((4 : Int64) * ((p0 &&& (2147483647 : Int32)).toInt64))), .second, .val (.long ((4 : Int64) * ((p0 &&& (2147483647 : Int32)).toInt64))), .second, .val (.long ((4 : Int64) * ((p1 &&& (2147483647 : Int32)).toInt64))), .second, .val (.long ((p1 &&& (2147483647 : Int32)).toInt64)), .second, .val (.long ((p2 &&& (2147483647 : Int32)).toInt64)), .second, .val (.long ((((((24 : Int64) + ((4 : Int64) * ((p0 &&& (2147483647 : Int32)).toInt64))) + ((4 : Int64) * ((p0 &&& (2147483647 : Int32)).toInt64))) + ((4 : Int64) * ((p1 &&& (2147483647 : Int32)).toInt64))) + ((p1 &&& (2147483647 : Int32)).toInt64)) + ((p2 &&& (2147483647 : Int32)).toInt64))), .second] [(.int (1 : Int32))])) _
      refine XS.goto X1.here hx rfl (pc0 := 91) (pc' := 95) rfl (hb hby at_91) (by decide) (by decide) ?_
      exact kt)
  obtain ⟨fs, hr, hrun, hended, hW, hsame⟩ := X1.leave (v := some (.int (1 : Int32))) (fun h => by rw [Bd.returns] at h; cases h)
  refine ⟨_, _, pre2 _ ?_, hrun, hended, _, _, rfl, ?_, ⟨_, rfl⟩, hW, hsame.mono (by decide) (by decide)⟩
  · show Steps p.tables e below (T1.setTop (mkF m 95 #[.val (.int p0), .val (.int p1), .val (.int p2), .val (.int (p0 &&& (2147483647 : Int32))), .val (.int (p1 &&& (2147483647 : Int32))), .val (.int (p2 &&& (2147483647 : Int32))), .val (.long (24 : Int64)), .second, .val (.long ((4 : Int64) * ((p0 &&& (2147483647 : Int32)).toInt64))), .second, .val (.long ((4 : Int64) * ((p0 &&& (2147483647 : Int32)).toInt64))), .second, .val (.long ((4 : Int64) * ((p1 &&& (2147483647 : Int32)).toInt64))), .second, .val (.long ((p1 &&& (2147483647 : Int32)).toInt64)), .second, .val (.long ((p2 &&& (2147483647 : Int32)).toInt64)), .second, .val (.long ((((((24 : Int64) + ((4 : Int64) * ((p0 &&& (2147483647 : Int32)).toInt64))) + ((4 : Int64) * ((p0 &&& (2147483647 : Int32)).toInt64))) + ((4 : Int64) * ((p1 &&& (2147483647 : Int32)).toInt64))) + ((p1 &&& (2147483647 : Int32)).toInt64)) + ((p2 &&& (2147483647 : Int32)).toInt64))), .second] [(.int (1 : Int32))])) _
    exact retN X1 hx (t := .boolean) Bd.returns (by simp) (hb hby at_95) hr
  · show Q0 Z _ _ _ h0 n0 _ T1.heap _
    rw [e1]
    exact ⟨rfl, N1, rfl⟩
set_option maxRecDepth 65536 in
set_option maxHeartbeats 40000000 in
theorem comes_1 {Post : Tables → Env → Array Value → State → Outcome → State → Prop} (hpost : ∀ tb e args s v u, (limb_1_1.after args s (.returned v) u = true ∧ limb_1_2.after args s (.returned v) u = true ∧ True) → FrameEnd s (.returned v) u (Jvm.fieldLocs frame_1_writes args s ++ Jvm.arrayLocs frame_1_arrays args s ++ Jvm.staticLocs frame_1_statics s) 0 0 → Post tb e args s (.returned v) u) :
    ArmFor flags0 classFile x code maxLocals ret World_1 tables_1 room_1 Calls_1 rest_1 Pre_1 Post := by
  intro l hfl _ _ p e ha hc hk s m args below hf hA hF happ hP
  obtain ⟨hcalls, hrest, hpre⟩ := hP
  obtain ⟨-, -, -, hnamed, -, -, -, hat⟩ := (Spec.applies_iff hf).mp happ
  obtain ⟨hg, hn⟩ := and_e (Cond.before_iff.mp (show (Jvm.Cond.and given_1 narrow_1).before args s = true from hpre))
  obtain ⟨hg0, hgr0⟩ := and_e hg
  obtain ⟨hg1, hgr1⟩ := and_e hgr0
  obtain ⟨hg2, hgr2⟩ := and_e hgr1
  obtain ⟨w0, w1, w2, rfl⟩ : ∃ w0 w1 w2 : Value, args = #[w0, w1, w2] := by
    have hs : args.size = 3 := by simpa [Cond.value, given_1] using hg0
    obtain ⟨L⟩ := args
    match L, hs with
    | [w0, w1, w2], _ => exact ⟨w0, w1, w2, rfl⟩
  have hw := fun d (hd : d ∈ tables_1) => atoms_spec (ws := Jvm.Cond.code x code maxLocals ret :: tables_1) hat d (List.mem_cons_of_mem _ hd)
  have hfit : Fit s := fun {y c} hc i hi => by
    obtain ⟨ha, rfl⟩ := Array.getElem?_eq_some_iff.mp hc
    have q := List.all_eq_true.mp ((Array.all_eq_true_iff_forall_mem.mp hF) _ (Array.getElem_mem ha)) i (List.mem_range.mpr hi)
    simpa [Array.getElem?_eq_getElem hi] using q
  obtain ⟨i0, ei0⟩ := is_v hg1
  obtain rfl : w0 = (.int i0) := Option.some.inj ei0
  obtain ⟨i1, ei1⟩ := is_v hg2
  obtain rfl : w1 = (.int i1) := Option.some.inj ei1
  obtain ⟨i2, ei2⟩ := is_v hgr2
  obtain rfl : w2 = (.int i2) := Option.some.inj ei2
  have S_HEADER_BYTES_0 : Sta s s.heap "com/example/gibbon/gibbon/search/TextIndexFormat" "HEADER_BYTES" "I" (.int (24 : Int32)) := Sta.start (own_eqI hn) (Or.inr ⟨(hw _ (List.mem_of_getElem? (i := 5) rfl)), (hw _ (List.mem_of_getElem? (i := 8) rfl))⟩)
  obtain ⟨n, o, h1, h2, h3, _, L, rfl, ⟨rfl, N, -⟩, hq⟩ := rm0 l s _ hw tables_1 i0 i1 i2 s.heap s.heap.size (Nat.le_refl _) S_HEADER_BYTES_0 p e ha hc hk s m _ below hf ((Spec.applies_iff_loose hf).mp happ).1 ⟨rfl, State.Warmed39.refl s, rfl⟩ trivial
  refine ⟨n, _, h1, h2, h3, hpost _ _ _ _ _ _ ⟨Cond.after_iff.mpr rfl, Cond.after_iff.mpr (eq_i res_at (Term.int_eval (1)) rfl), trivial⟩ ⟨hq.1, hq.2.1, (hq.2.2.sift fun y hy => Or.inr (N y hy)).mono (by decide) (by decide)⟩⟩
theorem main_1_1 : Claimed_1_1 := comes_1 fun _ _ _ _ _ _ h hF => ⟨h.1, hF⟩
theorem main_1_2 : Claimed_1_2 := comes_1 fun _ _ _ _ _ _ h hF => ⟨h.2.1, hF⟩
end Jvm.Pilot.@@N@@
namespace Jvm.Pilot.@@N@@
open Jvm Jvm.ClassFile Sem Op Lib Jvm.Free Jvm.Stand Jvm.Pilot.@@N@@.Jvm.D
/-! MADE BY PROGRAM (witnessworld.py) out of the Statement's table words and the real class files: 9 classes; the members and pool entries that the words name. The judged class is class 1, her method 1. -/
namespace start1
open Jvm.ClassFile
def u (s : String) : CpInfo := .utf8 (stringToUtf16 s)
/-- a pool by its gaps: so many unusable entries, then the entry; so many at the end -/
def gap : Nat → List CpInfo → List CpInfo
  | 0, r => r
  | n + 1, r => .unusable :: gap n r
def poolList (es : List (Nat × CpInfo)) (last : Nat) : List CpInfo := es.foldr (fun e r => gap e.1 (e.2 :: r)) (gap last [])
def pool (es : List (Nat × CpInfo)) (last : Nat) : Array CpInfo := ⟨poolList es last⟩
def fileOf (pool : Array CpInfo) (this : Nat) (attrs : Array Attribute := #[]) (ms : Array MethodInfo := #[]) (fl : Nat := 33) (sup : Nat := 0) (ifs : Array Nat := #[]) (fds : Array FieldInfo := #[]) : ClassFile where
  minorVersion := 0
  majorVersion := 65
  constantPool := pool
  accessFlags := fl
  thisClass := this
  superClass := sup
  interfaces := ifs
  fields := fds
  methods := ms
  attributes := attrs
def plain (name : String) (sup : Option ClassId) : Class where
  name := name
  kind := .ordinary
  loader := none
  accessFlags := 33
  super := sup
  interfaces := #[]
  cf := none
  fields := #[]
  methods := #[]
  instanceTypes := #[]
  staticTypes := #[]
  resolved := #[]
  callSites := []
  init := .initialized
  statics := none
  mirror := none

def pool0 : Array CpInfo := pool [(5, u "<init>"), (0, u "()V"), (1, .class_ 10), (1, u "java/lang/Object")] 113

def k0m0 : Method := { name := "<init>", desc := "()V", sig := { parameters := [], returnType := none }, accessFlags := 1, code := none }
/-- java/lang/Object -/
def k0 : Class := { plain "java/lang/Object" none with
  accessFlags := 33
  interfaces := #[]
  cf := some (fileOf pool0 8 #[] #[{ accessFlags := 1, nameIndex := 5, descriptorIndex := 6, attributes := #[] }] 33 0 #[] #[])
  fields := #[]
  methods := #[k0m0]
  instanceTypes := #[]
  staticTypes := #[]
  resolved := Array.replicate 124 none
  statics := none }

def pool1 : Array CpInfo := pool [(2, .class_ 4), (1, u "java/lang/Object"), (0, u "<init>"), (0, u "()V"), (0, .integer 2147483647), (0, .long 24), (1, .long 4), (1, .methodref 13 14), (0, .class_ 15), (0, .nameAndType 16 17), (0, u "com/example/gibbon/gibbon/search/TextIndexFormat"), (0, u "fileBytes"), (0, u "(III)J"), (0, .class_ 19), (0, u "com/example/gibbon/gibbon/search/TextIndexFormatFileBytesPinLaw"), (2, u "law"), (0, u "(III)Z")] 3

def k1m0 : Method := { name := "<init>", desc := "()V", sig := { parameters := [], returnType := none }, accessFlags := 2, code := none }
def k1c1 : Code := { maxStack := 4, maxLocals := 20, code := code, exceptionTable := #[], attributes := #[] }
def k1m1 : Method := { name := "law", desc := "(III)Z", sig := { parameters := [.int, .int, .int], returnType := some .boolean }, accessFlags := 9, code := some k1c1 }
/-- com/example/gibbon/gibbon/search/TextIndexFormatFileBytesPinLaw -/
def k1 : Class := { plain "com/example/gibbon/gibbon/search/TextIndexFormatFileBytesPinLaw" (some 0) with
  accessFlags := 49
  interfaces := #[]
  cf := some (fileOf pool1 18 #[] #[{ accessFlags := 2, nameIndex := 5, descriptorIndex := 6, attributes := #[] }, { accessFlags := 9, nameIndex := 22, descriptorIndex := 23, attributes := #[] }] 49 2 #[] #[])
  fields := #[]
  methods := #[k1m0, k1m1]
  instanceTypes := #[]
  staticTypes := #[]
  resolved := Array.replicate 27 none
  statics := none }

def pool2 : Array CpInfo := pool [(4, .class_ 6), (1, u "java/lang/Object"), (0, u "<init>"), (0, u "()V"), (18, .fieldref 28 29), (0, .class_ 30), (0, .nameAndType 31 32), (0, u "com/example/gibbon/gibbon/search/TextIndexFormat"), (0, u "HEADER_BYTES"), (0, u "I"), (0, .long 8), (1, .long 5), (8, u "MAGIC"), (0, u "[B"), (5, u "Ljava/nio/ByteOrder;"), (2, u "BYTE_ORDER"), (0, u "FILE_NAME"), (0, u "Ljava/lang/String;"), (3, u "VERSION"), (1, u "SEPARATOR"), (0, u "B"), (1, u "MAX_TEXT_BYTES"), (5, u "fileBytes"), (0, u "(III)J")] 5

def k2m0 : Method := { name := "<init>", desc := "()V", sig := { parameters := [], returnType := none }, accessFlags := 2, code := none }
def k2c1 : Code := { maxStack := 6, maxLocals := 3, code := prog_48_method_3_code, exceptionTable := #[], attributes := #[] }
def k2m1 : Method := { name := "fileBytes", desc := "(III)J", sig := { parameters := [.int, .int, .int], returnType := some .long }, accessFlags := 8, code := some k2c1 }
/-- com/example/gibbon/gibbon/search/TextIndexFormat -/
def k2 : Class := { plain "com/example/gibbon/gibbon/search/TextIndexFormat" (some 0) with
  accessFlags := 48
  interfaces := #[]
  cf := some (fileOf pool2 28 #[] #[{ accessFlags := 2, nameIndex := 7, descriptorIndex := 8, attributes := #[] }, { accessFlags := 8, nameIndex := 71, descriptorIndex := 72, attributes := #[] }] 48 4 #[] #[{ accessFlags := 24, nameIndex := 55, descriptorIndex := 56, attributes := #[] }, { accessFlags := 24, nameIndex := 44, descriptorIndex := 45, attributes := #[] }, { accessFlags := 24, nameIndex := 60, descriptorIndex := 32, attributes := #[] }, { accessFlags := 24, nameIndex := 31, descriptorIndex := 32, attributes := #[] }, { accessFlags := 24, nameIndex := 54, descriptorIndex := 51, attributes := #[] }, { accessFlags := 24, nameIndex := 62, descriptorIndex := 63, attributes := #[] }, { accessFlags := 24, nameIndex := 65, descriptorIndex := 32, attributes := #[] }])
  fields := #[{ name := "FILE_NAME", type := (.object "java/lang/String"), accessFlags := 24, slot := 0, constantValue := 0 }, { name := "MAGIC", type := (.array .byte), accessFlags := 24, slot := 1, constantValue := 0 }, { name := "VERSION", type := .int, accessFlags := 24, slot := 2, constantValue := 0 }, { name := "HEADER_BYTES", type := .int, accessFlags := 24, slot := 3, constantValue := 0 }, { name := "BYTE_ORDER", type := (.object "java/nio/ByteOrder"), accessFlags := 24, slot := 4, constantValue := 0 }, { name := "SEPARATOR", type := .byte, accessFlags := 24, slot := 5, constantValue := 0 }, { name := "MAX_TEXT_BYTES", type := .int, accessFlags := 24, slot := 6, constantValue := 0 }]
  methods := #[k2m0, k2m1]
  instanceTypes := #[]
  staticTypes := #[(.object "java/lang/String"), (.array .byte), .int, .int, (.object "java/nio/ByteOrder"), .byte, .int]
  resolved := Array.replicate 78 none
  statics := some 0 }

def pool3 : Array CpInfo := pool [(1, u "java/lang/Cloneable"), (0, .class_ 1), (0, u "java/lang/Object"), (0, .class_ 3)] 3

/-- java/lang/Cloneable -/
def k3 : Class := { plain "java/lang/Cloneable" (some 0) with
  accessFlags := 1537
  interfaces := #[]
  cf := some (fileOf pool3 2 #[] #[] 1537 4 #[] #[])
  fields := #[]
  methods := #[]
  instanceTypes := #[]
  staticTypes := #[]
  resolved := Array.replicate 8 none
  statics := none }

def pool4 : Array CpInfo := pool [(1, u "java/io/Serializable"), (0, .class_ 1), (0, u "java/lang/Object"), (0, .class_ 3)] 3

/-- java/io/Serializable -/
def k4 : Class := { plain "java/io/Serializable" (some 0) with
  accessFlags := 1537
  interfaces := #[]
  cf := some (fileOf pool4 2 #[] #[] 1537 4 #[] #[])
  fields := #[]
  methods := #[]
  instanceTypes := #[]
  staticTypes := #[]
  resolved := Array.replicate 8 none
  statics := none }

/-- the primitive byte -/
def k5 : Class := { plain "byte" none with kind := .primitive 'B', accessFlags := 0x411 }
/-- [B -/
def k6 : Class := { plain "[B" (some 0) with kind := .array 5 .byte, interfaces := #[3, 4], accessFlags := 1041 }

/-- the primitive int -/
def k7 : Class := { plain "int" none with kind := .primitive 'I', accessFlags := 0x411 }
/-- [I -/
def k8 : Class := { plain "[I" (some 0) with kind := .array 7 .int, interfaces := #[3, 4], accessFlags := 1041 }

def heap : Heap := #[{ cls := 2, slots := #[.null, .null, .int 0, .int 24, .null, .int 0, .int 0], vm := .statics 2 }]
def classes : Array Class := #[k0, k1, k2, k3, k4, k5, k6, k7, k8]
def interned : List (Array UInt16 × Addr) := []
def slotsUsed : Nat := 7
def theMethod : MethodId := ⟨1, 1⟩
def args0 : Array Value := #[.int 5, .int 7, .int 9]
def aboutOver (below : List Frame) : State where
  vm := { classes := classes, interned := interned.toArray }
  heap := heap
  slotsUsed := slotsUsed
  threads := #[{ frames := .invoking theMethod args0 :: below }]
def below0 : List Frame := [.native { method := ⟨0, 0⟩, args := #[] }]
def about1 : State := aboutOver below0
def p0 : Program := .bare "" "" ""
def e0 : Env := launch0.env 0 0 0
theorem w_frames : about1.frames = Frame.invoking theMethod args0 :: below0 := rfl
set_option maxRecDepth 65536 in
theorem w_args : argsFit about1.vm theMethod args0 = true := by decide +kernel
set_option maxRecDepth 65536 in
theorem w_heap : heapFits about1 = true := by decide +kernel
set_option maxRecDepth 65536 in
theorem w_runnable : about1.curStatus? = some .runnable := by decide +kernel
set_option maxRecDepth 65536 in
theorem w_alone : about1.alone = true := by decide +kernel
set_option maxRecDepth 65536 in
theorem w_named : about1.methodNamed? x = some theMethod := by decide +kernel
set_option maxRecDepth 65536 in
theorem w_hears : about1.hears theMethod below0 = true := by decide +kernel
set_option maxRecDepth 65536 in
theorem w_ripe : about1.ripe theMethod args0 below0 = true := by decide +kernel
theorem w_running : about1.status = .running := rfl
set_option maxRecDepth 65536 in
theorem w_room : about1.hasRoom e0.platform room_1 = true :=
  launch0.hasRoom_least _ room_1 (by decide +kernel) (by decide +kernel) (by decide +kernel) (by decide +kernel) (by decide +kernel) (by decide +kernel)
theorem allAtoms_all (ts : List Jvm.Cond) (a : Array Jvm.Value) (st : Jvm.State) : (allAtoms ts).before a st = ts.all (fun c => c.before a st) := by
  induction ts with
  | nil => rfl
  | cons c t ih =>
    show (Jvm.Cond.and c (allAtoms t)).before a st = _
    rw [Jvm.Cond.before_and, ih, List.all_cons]
def words1 : List Jvm.Cond := Jvm.Cond.code x code maxLocals ret :: tables_1
/-- a 'code' word, met by the world's own term for the bytes: nothing is compared byte by byte -/
theorem code_word {y : MethodName} {bytes : ByteArray} {mx : Nat} {rt : Option FieldType} {a : Array Value} {s : State} {m : MethodId} {meth : Method} {c : Code} (h1 : s.methodNamed? y = some m) (h2 : s.vm.method? m = some meth) (h3 : meth.code = some c) (h4 : c.code = bytes)
    (h5 : (c.maxLocals == mx && c.exceptionTable.isEmpty && decide (c.maxStack ≤ mostOperands) && decide (meth.sig.returnType = rt) && !meth.locks && decide (parseMethodDescriptor y.desc = some meth.sig)) = true) : (Jvm.Cond.code y bytes mx rt).before a s = true := by
  simp only [Bool.and_eq_true, beq_iff_eq, Bool.not_eq_true', decide_eq_true_eq] at h5
  obtain ⟨⟨⟨⟨⟨g1, g2⟩, g3⟩, g4⟩, g5⟩, g6⟩ := h5
  simp [Cond.before, Cond.holds, Cond.value, h1, h2, h3, h4, g1, g2, g3, g4, g5, g6]
def isCode : Jvm.Cond → Bool
  | .code _ _ _ _ => true
  | _ => false
theorem all_split {L : List Jvm.Cond} {P : Jvm.Cond → Bool} (h1 : L.all (fun c => isCode c || P c) = true) (h2 : ∀ c ∈ L.filter isCode, P c = true) : L.all P = true := by
  refine List.all_eq_true.mpr fun c hc => ?_
  have h := List.all_eq_true.mp h1 c hc
  rcases Bool.eq_false_or_eq_true (isCode c) with hi | hi
  · exact h2 c (List.mem_filter.mpr ⟨hc, hi⟩)
  · simpa [hi] using h
set_option maxRecDepth 65536 in
theorem w_c0 : (Jvm.Cond.code x code maxLocals ret).before args0 about1 = true := code_word (m := ⟨1, 1⟩) (meth := k1m1) (c := k1c1) (by decide +kernel) rfl rfl rfl (by decide +kernel)
set_option maxRecDepth 65536 in
theorem w_c1 : (Jvm.Cond.code ({ cls := "com/example/gibbon/gibbon/search/TextIndexFormat", name := "fileBytes", desc := "(III)J" } : Jvm.MethodName) prog_48_method_3_code (3 : Nat) (Option.some Jvm.ClassFile.FieldType.long)).before args0 about1 = true := code_word (m := ⟨2, 1⟩) (meth := k2m1) (c := k2c1) (by decide +kernel) rfl rfl rfl (by decide +kernel)
def codes1 : List Jvm.Cond := [Jvm.Cond.code x code maxLocals ret, Jvm.Cond.code ({ cls := "com/example/gibbon/gibbon/search/TextIndexFormat", name := "fileBytes", desc := "(III)J" } : Jvm.MethodName) prog_48_method_3_code (3 : Nat) (Option.some Jvm.ClassFile.FieldType.long)]
set_option maxRecDepth 65536 in
theorem codes_eq : words1.filter isCode = codes1 := rfl
theorem w_codes : ∀ c ∈ words1.filter isCode, c.before args0 about1 = true := by
  rw [codes_eq]
  intro c hc
  simp only [codes1, List.mem_cons, List.not_mem_nil, or_false] at hc
  rcases hc with rfl | rfl
  · exact w_c0
  · exact w_c1
set_option maxRecDepth 65536 in
theorem w_t1 : words1.all (fun c => isCode c || c.before args0 about1) = true := by decide +kernel
theorem w_tables : (allAtoms (Jvm.Cond.code x code maxLocals ret :: tables_1)).before args0 about1 = true := by
  rw [allAtoms_all]
  show words1.all (fun c => c.before args0 about1) = true
  refine all_split ?_ w_codes
  rw [w_t1]
set_option maxRecDepth 65536 in
theorem w_case : (Jvm.Cond.and given_1 narrow_1).before args0 about1 = true := by decide +kernel
theorem w_applies : (headSpec (Jvm.Cond.code x code maxLocals ret :: tables_1) room_1).applies x e0.platform about1 = true :=
  (Spec.applies_iff w_frames).mpr ⟨w_running, w_runnable, w_alone, w_named, w_hears, w_ripe, w_room, w_tables⟩
theorem atStart : AtStart classFile x code maxLocals ret World_1 tables_1 room_1 Calls_1 rest_1 Pre_1 launch0 p0 e0 about1 theMethod args0 below0 :=
  ⟨lists_1, trivial, launch0.admits_env _ _ _, launch0.least_env, fairChoices_fair.cas, fairChoices_fair.clock, w_frames, w_args, w_heap, w_applies, trivial, trivial, w_case⟩
end start1
theorem witness_1 : WitnessClaimed_1 := ⟨start1.p0, start1.e0, start1.about1, start1.theMethod, start1.args0, start1.below0, start1.atStart⟩
end Jvm.Pilot.@@N@@
