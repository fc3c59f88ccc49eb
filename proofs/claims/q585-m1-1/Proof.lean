import JvmDerived
import JvmDerived.Pilot.@@N@@Statement
import JvmDerived.Pilot.@@N@@Code
set_option linter.unusedVariables false
set_option linter.unusedSimpArgs false
namespace Jvm.RoadKit
open Sem ClassFile Op Lib Jvm.Stand Jvm.Free Jvm.LawKit
section New
variable {p : Program} {l : Launch} {e : Env} {R : Room} {s : State} {m : MethodId} {args : Array Value} {below : List Frame} {meth : Method} {c : Code} {T : State} {locs : List Loc} {cells slots : Nat}
theorem retI (X : Stand p l e R s m args below meth c T locs cells slots) (hx : p.tables.exec = Jvm.exec) {pc : Nat} {Ls : Array Slot} {z : Int32} {rest : List Value} (hret : meth.sig.returnType = some .int) (hd : decode c.code pc = .ok (.ireturn, 1)) {fs : List Frame}
    (hl : ∀ (f : JFrame) (acts : List Action), f.method = m → f.locked = none → f.entered = [] → (doReturn e (T.setTop f) acts (some (.int z))).1 = T.setFrames fs) : Steps p.tables e below (T.setTop (mkF m pc Ls (.int z :: rest))) (T.setFrames fs) := by
  have hm' : T.vm.method? m = some meth := X.method'
  have hn : narrow .int (.int z) = .int z := rfl
  show Steps p.tables e below (T.setTop { method := m, pc := pc, locals := Ls, stack := _ :: rest, locked := none }) _
  jvm_step X.here [X.here.top, hx, hd, hm', hret, hn]
  first | (intro acts; rw [hl _ acts rfl rfl rfl]) | rw [hl _ _ rfl rfl rfl]
  exact Steps.refl _
end New
end Jvm.RoadKit
namespace Jvm.Pilot.@@N@@
open Jvm Jvm.ClassFile Sem Op Lib Jvm.Free Jvm.Stand Jvm.LawKit Jvm.RoadKit Bundle Jvm.Pilot.@@N@@.Jvm.D
theorem own_eqI {t : Term} {args : Array Value} {first s : State} {o : Option Outcome} {idx : List Nat} {k : Int32} (h : (Jvm.Cond.eq t (.int k)).value args first o s idx = some true) : t.eval args first o idx s = some (.int k) := by
  cases ht : t.eval args first o idx s with
  | none => simp [Cond.value, ht] at h
  | some x => cases x <;> simp [Cond.value, ht, Term.eval] at h ⊢ <;> exact h
theorem own_eqJ {t : Term} {args : Array Value} {first s : State} {o : Option Outcome} {idx : List Nat} {k : Int64} (h : (Jvm.Cond.eq t (.long k)).value args first o s idx = some true) : t.eval args first o idx s = some (.long k) := by
  cases ht : t.eval args first o idx s with
  | none => simp [Cond.value, ht] at h
  | some x => cases x <;> simp [Cond.value, ht, Term.eval] at h ⊢ <;> exact h
theorem own_eqR {t u : Term} {args : Array Value} {first s : State} {o : Option Outcome} {idx : List Nat} {x : Addr} (h : (Jvm.Cond.eq t u).value args first o s idx = some true) (hu : u.eval args first o idx s = some (.ref x)) : t.eval args first o idx s = some (.ref x) := by
  cases ht : t.eval args first o idx s with
  | none => simp [Cond.value, ht] at h
  | some z => cases z <;> simp [Cond.value, ht, hu] at h ⊢ <;> exact h
theorem cat_of {v : Value} (h : v.isRef = true) : v.category = 1 := by rcases ref_cases h with rfl | ⟨a, rfl⟩ <;> rfl
theorem own_fits {n : String} {v : Value} (h : v.isRef = true) : fits (.object n) v = true := by rcases ref_cases h with rfl | ⟨a, rfl⟩ <;> rfl
theorem own_exa_ns {Z : State} {h : Heap} {a : Addr} {C : String} (E : Exa Z h a C) : ∀ c : Cell, h[a]? = some c → c.vm.isStatics = false := fun c hc => by
  obtain ⟨cell, k, h1, -, -, h4, -⟩ := E
  cases h1.symm.trans hc; exact h4
theorem own_sta_keep {Z : State} {h h' : Heap} {ws : List Addr} {C n d : String} {v : Value} (F : Sta Z h C n d v) (K : Keep h h' ws) (q : ∀ x ∈ ws, ∀ c : Cell, h[x]? = some c → c.vm.isStatics = false) : Sta Z h' C n d v := by
  obtain ⟨cf, i, k, f, st, cell, h1, h2, h3, h4, h5, h6, r⟩ := F
  refine ⟨cf, i, k, f, st, cell, h1, h2, h3, h4, K.2.1 st cell h5 (fun hm => ?_), h6, r⟩
  have := q st hm cell h5
  rw [h6] at this; cases this
theorem pn_0 : plainName "com/example/oidwright/oidwright/model/BaseTypeSentAsPinLaw" = true := by first | (simp [plainName, overriddenIn]; done) | decide +kernel
theorem d1_0 : decode method_2_code 0 = .ok (.iload_n 0, 1) := by decide +kernel
theorem d1_1 : decode method_2_code 1 = .ok (.ldc 7, 2) := by decide +kernel
theorem d1_3 : decode method_2_code 3 = .ok (.iand, 1) := by decide +kernel
theorem d1_4 : decode method_2_code 4 = .ok (.bipush 12, 2) := by decide +kernel
theorem d1_6 : decode method_2_code 6 = .ok (.irem, 1) := by decide +kernel
theorem d1_7 : decode method_2_code 7 = .ok (.istore_n 1, 1) := by decide +kernel
theorem d1_8 : decode method_2_code 8 = .ok (.iload_n 1, 1) := by decide +kernel
theorem d1_9 : decode method_2_code 9 = .ok (.ifCond .ne 7, 3) := by decide +kernel
theorem d1_12 : decode method_2_code 12 = .ok (.getstatic 8, 3) := by decide +kernel
theorem d1_15 : decode method_2_code 15 = .ok (.areturn, 1) := by decide +kernel
theorem d1_16 : decode method_2_code 16 = .ok (.iload_n 1, 1) := by decide +kernel
theorem d1_17 : decode method_2_code 17 = .ok (.iconst 1, 1) := by decide +kernel
theorem d1_18 : decode method_2_code 18 = .ok (.if_icmp .ne 7, 3) := by decide +kernel
theorem d1_21 : decode method_2_code 21 = .ok (.getstatic 14, 3) := by decide +kernel
theorem d1_24 : decode method_2_code 24 = .ok (.areturn, 1) := by decide +kernel
theorem d1_25 : decode method_2_code 25 = .ok (.iload_n 1, 1) := by decide +kernel
theorem d1_26 : decode method_2_code 26 = .ok (.iconst 2, 1) := by decide +kernel
theorem d1_27 : decode method_2_code 27 = .ok (.if_icmp .ne 7, 3) := by decide +kernel
theorem d1_30 : decode method_2_code 30 = .ok (.getstatic 17, 3) := by decide +kernel
theorem d1_33 : decode method_2_code 33 = .ok (.areturn, 1) := by decide +kernel
theorem d1_34 : decode method_2_code 34 = .ok (.iload_n 1, 1) := by decide +kernel
theorem d1_35 : decode method_2_code 35 = .ok (.iconst 3, 1) := by decide +kernel
theorem d1_36 : decode method_2_code 36 = .ok (.if_icmp .ne 7, 3) := by decide +kernel
theorem d1_39 : decode method_2_code 39 = .ok (.getstatic 20, 3) := by decide +kernel
theorem d1_42 : decode method_2_code 42 = .ok (.areturn, 1) := by decide +kernel
theorem d1_43 : decode method_2_code 43 = .ok (.iload_n 1, 1) := by decide +kernel
theorem d1_44 : decode method_2_code 44 = .ok (.iconst 4, 1) := by decide +kernel
theorem d1_45 : decode method_2_code 45 = .ok (.if_icmp .ne 7, 3) := by decide +kernel
theorem d1_48 : decode method_2_code 48 = .ok (.getstatic 23, 3) := by decide +kernel
theorem d1_51 : decode method_2_code 51 = .ok (.areturn, 1) := by decide +kernel
theorem d1_52 : decode method_2_code 52 = .ok (.iload_n 1, 1) := by decide +kernel
theorem d1_53 : decode method_2_code 53 = .ok (.iconst 5, 1) := by decide +kernel
theorem d1_54 : decode method_2_code 54 = .ok (.if_icmp .ne 7, 3) := by decide +kernel
theorem d1_57 : decode method_2_code 57 = .ok (.getstatic 26, 3) := by decide +kernel
theorem d1_60 : decode method_2_code 60 = .ok (.areturn, 1) := by decide +kernel
theorem d1_61 : decode method_2_code 61 = .ok (.iload_n 1, 1) := by decide +kernel
theorem d1_62 : decode method_2_code 62 = .ok (.bipush 6, 2) := by decide +kernel
theorem d1_64 : decode method_2_code 64 = .ok (.if_icmp .ne 7, 3) := by decide +kernel
theorem d1_67 : decode method_2_code 67 = .ok (.getstatic 29, 3) := by decide +kernel
theorem d1_70 : decode method_2_code 70 = .ok (.areturn, 1) := by decide +kernel
theorem d1_71 : decode method_2_code 71 = .ok (.iload_n 1, 1) := by decide +kernel
theorem d1_72 : decode method_2_code 72 = .ok (.bipush 7, 2) := by decide +kernel
theorem d1_74 : decode method_2_code 74 = .ok (.if_icmp .ne 7, 3) := by decide +kernel
theorem d1_77 : decode method_2_code 77 = .ok (.getstatic 32, 3) := by decide +kernel
theorem d1_80 : decode method_2_code 80 = .ok (.areturn, 1) := by decide +kernel
theorem d1_81 : decode method_2_code 81 = .ok (.iload_n 1, 1) := by decide +kernel
theorem d1_82 : decode method_2_code 82 = .ok (.bipush 8, 2) := by decide +kernel
theorem d1_84 : decode method_2_code 84 = .ok (.if_icmp .ne 7, 3) := by decide +kernel
theorem d1_87 : decode method_2_code 87 = .ok (.getstatic 35, 3) := by decide +kernel
theorem d1_90 : decode method_2_code 90 = .ok (.areturn, 1) := by decide +kernel
theorem d1_91 : decode method_2_code 91 = .ok (.iload_n 1, 1) := by decide +kernel
theorem d1_92 : decode method_2_code 92 = .ok (.bipush 9, 2) := by decide +kernel
theorem d1_94 : decode method_2_code 94 = .ok (.if_icmp .ne 7, 3) := by decide +kernel
theorem d1_97 : decode method_2_code 97 = .ok (.getstatic 38, 3) := by decide +kernel
theorem d1_100 : decode method_2_code 100 = .ok (.areturn, 1) := by decide +kernel
theorem d1_101 : decode method_2_code 101 = .ok (.iload_n 1, 1) := by decide +kernel
theorem d1_102 : decode method_2_code 102 = .ok (.bipush 10, 2) := by decide +kernel
theorem d1_104 : decode method_2_code 104 = .ok (.if_icmp .ne 7, 3) := by decide +kernel
theorem d1_107 : decode method_2_code 107 = .ok (.getstatic 41, 3) := by decide +kernel
theorem d1_110 : decode method_2_code 110 = .ok (.areturn, 1) := by decide +kernel
theorem d1_111 : decode method_2_code 111 = .ok (.getstatic 44, 3) := by decide +kernel
theorem d1_114 : decode method_2_code 114 = .ok (.areturn, 1) := by decide +kernel
theorem ef_1 (m : MethodId) (x0 : Int32)  : entryFrame m #[(.int x0)] 2 = mkF m 0 #[.val (.int x0), .unset] [] := by first | (simp [entryFrame, mkF, argsToLocals, Value.category]; done) | rfl
def Q1 (Z : State) (p0 : Int32) (w_INTEGER32_0 : Addr) (w_UNSIGNED32_1 : Addr) (w_GAUGE32_2 : Addr) (w_COUNTER32_3 : Addr) (w_COUNTER64_4 : Addr) (w_TIME_TICKS_5 : Addr) (w_IP_ADDRESS_6 : Addr) (w_NETWORK_ADDRESS_7 : Addr) (w_OPAQUE_8 : Addr) (w_OCTET_STRING_9 : Addr) (w_OBJECT_IDENTIFIER_10 : Addr) (w_BITS_11 : Addr) (h0 : Heap) (n0 : Nat) (v : Option Value) (h : Heap) (L : List Loc) : Prop := (∃ r : Addr, v = some (.ref r) ∧ (Exa Z h0 r "com/example/oidwright/oidwright/model/BaseType")) ∧ Fr n0 L ∧ h = h0
set_option maxRecDepth 65536 in
set_option maxHeartbeats 40000000 in
theorem rm1 (l : Launch) (Z : State) (aw : Array Value) (hw : ∀ d ∈ tables_1, d.before aw Z = true) (ws : List Jvm.Cond) (p0 : Int32) (w_INTEGER32_0 : Addr) (w_UNSIGNED32_1 : Addr) (w_GAUGE32_2 : Addr) (w_COUNTER32_3 : Addr) (w_COUNTER64_4 : Addr) (w_TIME_TICKS_5 : Addr) (w_IP_ADDRESS_6 : Addr) (w_NETWORK_ADDRESS_7 : Addr) (w_OPAQUE_8 : Addr) (w_OCTET_STRING_9 : Addr) (w_OBJECT_IDENTIFIER_10 : Addr) (w_BITS_11 : Addr) (h0 : Heap) (n0 : Nat) (Z0 : n0 ≤ h0.size) (Sf_INTEGER32_0 : Sta Z h0 "com/example/oidwright/oidwright/model/BaseType" "INTEGER32" "Lcom/example/oidwright/oidwright/model/BaseType;" (.ref w_INTEGER32_0)) (Exa_1 : Exa Z h0 w_INTEGER32_0 "com/example/oidwright/oidwright/model/BaseType") (Sf_UNSIGNED32_2 : Sta Z h0 "com/example/oidwright/oidwright/model/BaseType" "UNSIGNED32" "Lcom/example/oidwright/oidwright/model/BaseType;" (.ref w_UNSIGNED32_1)) (Exa_3 : Exa Z h0 w_UNSIGNED32_1 "com/example/oidwright/oidwright/model/BaseType") (Sf_GAUGE32_4 : Sta Z h0 "com/example/oidwright/oidwright/model/BaseType" "GAUGE32" "Lcom/example/oidwright/oidwright/model/BaseType;" (.ref w_GAUGE32_2)) (Exa_5 : Exa Z h0 w_GAUGE32_2 "com/example/oidwright/oidwright/model/BaseType") (Sf_COUNTER32_6 : Sta Z h0 "com/example/oidwright/oidwright/model/BaseType" "COUNTER32" "Lcom/example/oidwright/oidwright/model/BaseType;" (.ref w_COUNTER32_3)) (Exa_7 : Exa Z h0 w_COUNTER32_3 "com/example/oidwright/oidwright/model/BaseType") (Sf_COUNTER64_8 : Sta Z h0 "com/example/oidwright/oidwright/model/BaseType" "COUNTER64" "Lcom/example/oidwright/oidwright/model/BaseType;" (.ref w_COUNTER64_4)) (Exa_9 : Exa Z h0 w_COUNTER64_4 "com/example/oidwright/oidwright/model/BaseType") (Sf_TIME_TICKS_10 : Sta Z h0 "com/example/oidwright/oidwright/model/BaseType" "TIME_TICKS" "Lcom/example/oidwright/oidwright/model/BaseType;" (.ref w_TIME_TICKS_5)) (Exa_11 : Exa Z h0 w_TIME_TICKS_5 "com/example/oidwright/oidwright/model/BaseType") (Sf_IP_ADDRESS_12 : Sta Z h0 "com/example/oidwright/oidwright/model/BaseType" "IP_ADDRESS" "Lcom/example/oidwright/oidwright/model/BaseType;" (.ref w_IP_ADDRESS_6)) (Exa_13 : Exa Z h0 w_IP_ADDRESS_6 "com/example/oidwright/oidwright/model/BaseType") (Sf_NETWORK_ADDRESS_14 : Sta Z h0 "com/example/oidwright/oidwright/model/BaseType" "NETWORK_ADDRESS" "Lcom/example/oidwright/oidwright/model/BaseType;" (.ref w_NETWORK_ADDRESS_7)) (Exa_15 : Exa Z h0 w_NETWORK_ADDRESS_7 "com/example/oidwright/oidwright/model/BaseType") (Sf_OPAQUE_16 : Sta Z h0 "com/example/oidwright/oidwright/model/BaseType" "OPAQUE" "Lcom/example/oidwright/oidwright/model/BaseType;" (.ref w_OPAQUE_8)) (Exa_17 : Exa Z h0 w_OPAQUE_8 "com/example/oidwright/oidwright/model/BaseType") (Sf_OCTET_STRING_18 : Sta Z h0 "com/example/oidwright/oidwright/model/BaseType" "OCTET_STRING" "Lcom/example/oidwright/oidwright/model/BaseType;" (.ref w_OCTET_STRING_9)) (Exa_19 : Exa Z h0 w_OCTET_STRING_9 "com/example/oidwright/oidwright/model/BaseType") (Sf_OBJECT_IDENTIFIER_20 : Sta Z h0 "com/example/oidwright/oidwright/model/BaseType" "OBJECT_IDENTIFIER" "Lcom/example/oidwright/oidwright/model/BaseType;" (.ref w_OBJECT_IDENTIFIER_10)) (Exa_21 : Exa Z h0 w_OBJECT_IDENTIFIER_10 "com/example/oidwright/oidwright/model/BaseType") (Sf_BITS_22 : Sta Z h0 "com/example/oidwright/oidwright/model/BaseType" "BITS" "Lcom/example/oidwright/oidwright/model/BaseType;" (.ref w_BITS_11)) (Exa_23 : Exa Z h0 w_BITS_11 "com/example/oidwright/oidwright/model/BaseType") :
    MetFree l (⟨"com/example/oidwright/oidwright/model/BaseTypeSentAsPinLaw", "pick", "(I)Lcom/example/oidwright/oidwright/model/BaseType;"⟩ : MethodName) (head1 (Jvm.Cond.code (⟨"com/example/oidwright/oidwright/model/BaseTypeSentAsPinLaw", "pick", "(I)Lcom/example/oidwright/oidwright/model/BaseType;"⟩ : MethodName) method_2_code 2 (some (.object "com/example/oidwright/oidwright/model/BaseType")) :: ws) ({ frames := 0, cells := 0, slots := 0, locals := 0 } : Room)) (fun a U => a = #[(.int p0)] ∧ Z.Warmed39 U.vm ∧ U.heap = h0) (fun _ _ _ _ _ => True) (fun _ U o U' => ∃ v L, o = .returned v ∧ Q1 Z p0 w_INTEGER32_0 w_UNSIGNED32_1 w_GAUGE32_2 w_COUNTER32_3 w_COUNTER64_4 w_TIME_TICKS_5 w_IP_ADDRESS_6 w_NETWORK_ADDRESS_7 w_OPAQUE_8 w_OCTET_STRING_9 w_OBJECT_IDENTIFIER_10 w_BITS_11 h0 n0 v U'.heap L ∧ FrameEnd U o U' L ({ frames := 0, cells := 0, slots := 0, locals := 0 } : Room).cells ({ frames := 0, cells := 0, slots := 0, locals := 0 } : Room).slots) := by
  refine MetFree.of_bodySF (plainFor_of_name pn_0) hisR ?_
  intro p e s m args below meth c s₁ Bd hml0 hP hK
  obtain ⟨rfl, hZ, hh⟩ := hP
  have hx := Bd.exec
  have hby := Bd.bytes
  have hml : c.maxLocals = 2 := hml0
  have hown : s.vm.findClass "com/example/oidwright/oidwright/model/BaseTypeSentAsPinLaw" = some m.cls := findClass_of_methodNamed Bd.named
  have hnm := (name_of_methodNamed Bd.named Bd.method).1
  have X0 : Stand p l e ({ frames := 0, cells := 0, slots := 0, locals := 0 } : Room) s m #[(.int p0)] below meth c s₁ [] 0 0 := Stand.of_body Bd
  have e0 : s₁.heap = h0 := by rw [← hh, Bd.state]; rfl
  have N0 := Fr.nil n0
  have pre0 : ∀ t, Steps p.tables e below (s₁.setTop (mkF m 0 #[.val (.int p0), .unset] [])) t → Steps p.tables e below (s₁.setTop (entryFrame m #[(.int p0)] 2)) t := fun t k => castTop (ef_1 m p0 ) k
  have pre1 : ∀ t, Steps p.tables e below (s₁.setTop (mkF m 9 #[.val (.int p0), .val (.int ((p0 &&& (2147483647 : Int32)) % (12 : Int32)))] [(.int ((p0 &&& (2147483647 : Int32)) % (12 : Int32)))])) t → Steps p.tables e below (s₁.setTop (entryFrame m #[(.int p0)] 2)) t := fun t kt => pre0 t (by
      show Steps p.tables e below (s₁.setTop (mkF m 0 #[.val (.int p0), .unset] [])) _
      refine XS.iloadN X0.here hx rfl (hb hby d1_0) rfl ?_
      show Steps p.tables e below (s₁.setTop (mkF m 1 #[.val (.int p0), .unset] [(.int p0)])) _
      refine X0.ldcInt hx hown (mvT hZ (hw _ (List.mem_of_getElem? (i := 4) rfl))) (g := (mkF m 1 #[.val (.int p0), .unset] [(.int p0)])) rfl (hb hby d1_1) _ ?_
      show Steps p.tables e below (s₁.setTop (mkF m 3 #[.val (.int p0), .unset] [(.int (2147483647 : Int32)), (.int p0)])) _
      refine XS.iand X0.here hx rfl (hb hby d1_3) rfl ?_
      show Steps p.tables e below (s₁.setTop (mkF m 4 #[.val (.int p0), .unset] [(.int (p0 &&& (2147483647 : Int32)))])) _
      refine XS.bipush X0.here hx rfl (hb hby d1_4) ?_
      show Steps p.tables e below (s₁.setTop (mkF m 6 #[.val (.int p0), .unset] [(.int (12 : Int32)), (.int (p0 &&& (2147483647 : Int32)))])) _
      refine iremM X0 hx rfl (hb hby d1_6) rfl (by decide) ?_
      show Steps p.tables e below (s₁.setTop (mkF m 7 #[.val (.int p0), .unset] [(.int ((p0 &&& (2147483647 : Int32)) % (12 : Int32)))])) _
      refine XS.istoreN X0.here hx rfl (hb hby d1_7) rfl (l' := #[.val (.int p0), .val (.int ((p0 &&& (2147483647 : Int32)) % (12 : Int32)))]) rfl ?_
      show Steps p.tables e below (s₁.setTop (mkF m 8 #[.val (.int p0), .val (.int ((p0 &&& (2147483647 : Int32)) % (12 : Int32)))] [])) _
      refine XS.iloadN X0.here hx rfl (hb hby d1_8) rfl ?_
      exact kt)
  by_cases hc2 : ((p0 &&& (2147483647 : Int32)) % (12 : Int32)) = (0 : Int32)
  · skip
    obtain ⟨T3, X3, e3, st3⟩ := getS2 X0 hx hZ hown (host := "") (Or.inl (hw _ (List.mem_of_getElem? (i := 5) rfl))) Via.refl e0 Sf_INTEGER32_0 (g := (mkF m 12 #[.val (.int p0), .val (.int ((p0 &&& (2147483647 : Int32)) % (12 : Int32)))] [])) rfl (hb hby d1_12)
    have pre4 : ∀ t, Steps p.tables e below (T3.setTop (mkF m 15 #[.val (.int p0), .val (.int ((p0 &&& (2147483647 : Int32)) % (12 : Int32)))] [(.ref w_INTEGER32_0)])) t → Steps p.tables e below (s₁.setTop (entryFrame m #[(.int p0)] 2)) t := fun t kt => pre1 t (by
        show Steps p.tables e below (s₁.setTop (mkF m 9 #[.val (.int p0), .val (.int ((p0 &&& (2147483647 : Int32)) % (12 : Int32)))] [(.int ((p0 &&& (2147483647 : Int32)) % (12 : Int32)))])) _
        refine XS.ifNo X0.here hx rfl (hb hby d1_9) rfl ((if0 _ _).trans (teq hc2).2) ?_
        show Steps p.tables e below (s₁.setTop (mkF m 12 #[.val (.int p0), .val (.int ((p0 &&& (2147483647 : Int32)) % (12 : Int32)))] [])) _
        refine st3 _ ?_
        exact kt)
    obtain ⟨fs, hr, hrun, hended, hW, hsame⟩ := X3.leave (v := some (.ref w_INTEGER32_0)) (fun h => by rw [Bd.returns] at h; cases h)
    refine ⟨_, _, pre4 _ ?_, hrun, hended, _, _, rfl, ?_, ⟨_, rfl⟩, hW, hsame.mono (by decide) (by decide)⟩
    · show Steps p.tables e below (T3.setTop (mkF m 15 #[.val (.int p0), .val (.int ((p0 &&& (2147483647 : Int32)) % (12 : Int32)))] [(.ref w_INTEGER32_0)])) _
      jvm_step X3.here [X3.here.top, hx, (hb hby d1_15), X3.method', Bd.returns, Value.isRef, FieldType.isReference]
      first | (intro acts; rw [hr _ acts rfl rfl rfl]) | rw [hr _ _ rfl rfl rfl]
      exact Steps.refl _
    · show Q1 Z _ _ _ _ _ _ _ _ _ _ _ _ _ h0 n0 _ T3.heap _
      rw [e3]
      exact ⟨⟨_, rfl, Exa_1⟩, N0, rfl⟩
  · skip
    have pre5 : ∀ t, Steps p.tables e below (s₁.setTop (mkF m 18 #[.val (.int p0), .val (.int ((p0 &&& (2147483647 : Int32)) % (12 : Int32)))] [(.int (1 : Int32)), (.int ((p0 &&& (2147483647 : Int32)) % (12 : Int32)))])) t → Steps p.tables e below (s₁.setTop (entryFrame m #[(.int p0)] 2)) t := fun t kt => pre1 t (by
        show Steps p.tables e below (s₁.setTop (mkF m 9 #[.val (.int p0), .val (.int ((p0 &&& (2147483647 : Int32)) % (12 : Int32)))] [(.int ((p0 &&& (2147483647 : Int32)) % (12 : Int32)))])) _
        refine XS.ifYes X0.here hx rfl (pc0 := 9) (pc' := 16) rfl (hb hby d1_9) rfl ((if0 _ _).trans (feq hc2).2) (by decide) (by decide) ?_
        show Steps p.tables e below (s₁.setTop (mkF m 16 #[.val (.int p0), .val (.int ((p0 &&& (2147483647 : Int32)) % (12 : Int32)))] [])) _
        refine XS.iloadN X0.here hx rfl (hb hby d1_16) rfl ?_
        show Steps p.tables e below (s₁.setTop (mkF m 17 #[.val (.int p0), .val (.int ((p0 &&& (2147483647 : Int32)) % (12 : Int32)))] [(.int ((p0 &&& (2147483647 : Int32)) % (12 : Int32)))])) _
        refine XS.iconst X0.here hx rfl (hb hby d1_17) ?_
        exact kt)
    by_cases hc6 : ((p0 &&& (2147483647 : Int32)) % (12 : Int32)) = (1 : Int32)
    · skip
      obtain ⟨T7, X7, e7, st7⟩ := getS2 X0 hx hZ hown (host := "") (Or.inl (hw _ (List.mem_of_getElem? (i := 21) rfl))) Via.refl e0 Sf_UNSIGNED32_2 (g := (mkF m 21 #[.val (.int p0), .val (.int ((p0 &&& (2147483647 : Int32)) % (12 : Int32)))] [])) rfl (hb hby d1_21)
      have pre8 : ∀ t, Steps p.tables e below (T7.setTop (mkF m 24 #[.val (.int p0), .val (.int ((p0 &&& (2147483647 : Int32)) % (12 : Int32)))] [(.ref w_UNSIGNED32_1)])) t → Steps p.tables e below (s₁.setTop (entryFrame m #[(.int p0)] 2)) t := fun t kt => pre5 t (by
          show Steps p.tables e below (s₁.setTop (mkF m 18 #[.val (.int p0), .val (.int ((p0 &&& (2147483647 : Int32)) % (12 : Int32)))] [(.int (1 : Int32)), (.int ((p0 &&& (2147483647 : Int32)) % (12 : Int32)))])) _
          refine XS.icmpNo X0.here hx rfl (hb hby d1_18) rfl (teq hc6).2 ?_
          show Steps p.tables e below (s₁.setTop (mkF m 21 #[.val (.int p0), .val (.int ((p0 &&& (2147483647 : Int32)) % (12 : Int32)))] [])) _
          refine st7 _ ?_
          exact kt)
      obtain ⟨fs, hr, hrun, hended, hW, hsame⟩ := X7.leave (v := some (.ref w_UNSIGNED32_1)) (fun h => by rw [Bd.returns] at h; cases h)
      refine ⟨_, _, pre8 _ ?_, hrun, hended, _, _, rfl, ?_, ⟨_, rfl⟩, hW, hsame.mono (by decide) (by decide)⟩
      · show Steps p.tables e below (T7.setTop (mkF m 24 #[.val (.int p0), .val (.int ((p0 &&& (2147483647 : Int32)) % (12 : Int32)))] [(.ref w_UNSIGNED32_1)])) _
        jvm_step X7.here [X7.here.top, hx, (hb hby d1_24), X7.method', Bd.returns, Value.isRef, FieldType.isReference]
        first | (intro acts; rw [hr _ acts rfl rfl rfl]) | rw [hr _ _ rfl rfl rfl]
        exact Steps.refl _
      · show Q1 Z _ _ _ _ _ _ _ _ _ _ _ _ _ h0 n0 _ T7.heap _
        rw [e7]
        exact ⟨⟨_, rfl, Exa_3⟩, N0, rfl⟩
    · skip
      have pre9 : ∀ t, Steps p.tables e below (s₁.setTop (mkF m 27 #[.val (.int p0), .val (.int ((p0 &&& (2147483647 : Int32)) % (12 : Int32)))] [(.int (2 : Int32)), (.int ((p0 &&& (2147483647 : Int32)) % (12 : Int32)))])) t → Steps p.tables e below (s₁.setTop (entryFrame m #[(.int p0)] 2)) t := fun t kt => pre5 t (by
          show Steps p.tables e below (s₁.setTop (mkF m 18 #[.val (.int p0), .val (.int ((p0 &&& (2147483647 : Int32)) % (12 : Int32)))] [(.int (1 : Int32)), (.int ((p0 &&& (2147483647 : Int32)) % (12 : Int32)))])) _
          refine XS.icmpYes X0.here hx rfl (pc0 := 18) (pc' := 25) rfl (hb hby d1_18) rfl (feq hc6).2 (by decide) (by decide) ?_
          show Steps p.tables e below (s₁.setTop (mkF m 25 #[.val (.int p0), .val (.int ((p0 &&& (2147483647 : Int32)) % (12 : Int32)))] [])) _
          refine XS.iloadN X0.here hx rfl (hb hby d1_25) rfl ?_
          show Steps p.tables e below (s₁.setTop (mkF m 26 #[.val (.int p0), .val (.int ((p0 &&& (2147483647 : Int32)) % (12 : Int32)))] [(.int ((p0 &&& (2147483647 : Int32)) % (12 : Int32)))])) _
          refine XS.iconst X0.here hx rfl (hb hby d1_26) ?_
          exact kt)
      by_cases hc10 : ((p0 &&& (2147483647 : Int32)) % (12 : Int32)) = (2 : Int32)
      · skip
        obtain ⟨T11, X11, e11, st11⟩ := getS2 X0 hx hZ hown (host := "") (Or.inl (hw _ (List.mem_of_getElem? (i := 17) rfl))) Via.refl e0 Sf_GAUGE32_4 (g := (mkF m 30 #[.val (.int p0), .val (.int ((p0 &&& (2147483647 : Int32)) % (12 : Int32)))] [])) rfl (hb hby d1_30)
        have pre12 : ∀ t, Steps p.tables e below (T11.setTop (mkF m 33 #[.val (.int p0), .val (.int ((p0 &&& (2147483647 : Int32)) % (12 : Int32)))] [(.ref w_GAUGE32_2)])) t → Steps p.tables e below (s₁.setTop (entryFrame m #[(.int p0)] 2)) t := fun t kt => pre9 t (by
            show Steps p.tables e below (s₁.setTop (mkF m 27 #[.val (.int p0), .val (.int ((p0 &&& (2147483647 : Int32)) % (12 : Int32)))] [(.int (2 : Int32)), (.int ((p0 &&& (2147483647 : Int32)) % (12 : Int32)))])) _
            refine XS.icmpNo X0.here hx rfl (hb hby d1_27) rfl (teq hc10).2 ?_
            show Steps p.tables e below (s₁.setTop (mkF m 30 #[.val (.int p0), .val (.int ((p0 &&& (2147483647 : Int32)) % (12 : Int32)))] [])) _
            refine st11 _ ?_
            exact kt)
        obtain ⟨fs, hr, hrun, hended, hW, hsame⟩ := X11.leave (v := some (.ref w_GAUGE32_2)) (fun h => by rw [Bd.returns] at h; cases h)
        refine ⟨_, _, pre12 _ ?_, hrun, hended, _, _, rfl, ?_, ⟨_, rfl⟩, hW, hsame.mono (by decide) (by decide)⟩
        · show Steps p.tables e below (T11.setTop (mkF m 33 #[.val (.int p0), .val (.int ((p0 &&& (2147483647 : Int32)) % (12 : Int32)))] [(.ref w_GAUGE32_2)])) _
          jvm_step X11.here [X11.here.top, hx, (hb hby d1_33), X11.method', Bd.returns, Value.isRef, FieldType.isReference]
          first | (intro acts; rw [hr _ acts rfl rfl rfl]) | rw [hr _ _ rfl rfl rfl]
          exact Steps.refl _
        · show Q1 Z _ _ _ _ _ _ _ _ _ _ _ _ _ h0 n0 _ T11.heap _
          rw [e11]
          exact ⟨⟨_, rfl, Exa_5⟩, N0, rfl⟩
      · skip
        have pre13 : ∀ t, Steps p.tables e below (s₁.setTop (mkF m 36 #[.val (.int p0), .val (.int ((p0 &&& (2147483647 : Int32)) % (12 : Int32)))] [(.int (3 : Int32)), (.int ((p0 &&& (2147483647 : Int32)) % (12 : Int32)))])) t → Steps p.tables e below (s₁.setTop (entryFrame m #[(.int p0)] 2)) t := fun t kt => pre9 t (by
            show Steps p.tables e below (s₁.setTop (mkF m 27 #[.val (.int p0), .val (.int ((p0 &&& (2147483647 : Int32)) % (12 : Int32)))] [(.int (2 : Int32)), (.int ((p0 &&& (2147483647 : Int32)) % (12 : Int32)))])) _
            refine XS.icmpYes X0.here hx rfl (pc0 := 27) (pc' := 34) rfl (hb hby d1_27) rfl (feq hc10).2 (by decide) (by decide) ?_
            show Steps p.tables e below (s₁.setTop (mkF m 34 #[.val (.int p0), .val (.int ((p0 &&& (2147483647 : Int32)) % (12 : Int32)))] [])) _
            refine XS.iloadN X0.here hx rfl (hb hby d1_34) rfl ?_
            show Steps p.tables e below (s₁.setTop (mkF m 35 #[.val (.int p0), .val (.int ((p0 &&& (2147483647 : Int32)) % (12 : Int32)))] [(.int ((p0 &&& (2147483647 : Int32)) % (12 : Int32)))])) _
            refine XS.iconst X0.here hx rfl (hb hby d1_35) ?_
            exact kt)
        by_cases hc14 : ((p0 &&& (2147483647 : Int32)) % (12 : Int32)) = (3 : Int32)
        · skip
          obtain ⟨T15, X15, e15, st15⟩ := getS2 X0 hx hZ hown (host := "") (Or.inl (hw _ (List.mem_of_getElem? (i := 8) rfl))) Via.refl e0 Sf_COUNTER32_6 (g := (mkF m 39 #[.val (.int p0), .val (.int ((p0 &&& (2147483647 : Int32)) % (12 : Int32)))] [])) rfl (hb hby d1_39)
          have pre16 : ∀ t, Steps p.tables e below (T15.setTop (mkF m 42 #[.val (.int p0), .val (.int ((p0 &&& (2147483647 : Int32)) % (12 : Int32)))] [(.ref w_COUNTER32_3)])) t → Steps p.tables e below (s₁.setTop (entryFrame m #[(.int p0)] 2)) t := fun t kt => pre13 t (by
              show Steps p.tables e below (s₁.setTop (mkF m 36 #[.val (.int p0), .val (.int ((p0 &&& (2147483647 : Int32)) % (12 : Int32)))] [(.int (3 : Int32)), (.int ((p0 &&& (2147483647 : Int32)) % (12 : Int32)))])) _
              refine XS.icmpNo X0.here hx rfl (hb hby d1_36) rfl (teq hc14).2 ?_
              show Steps p.tables e below (s₁.setTop (mkF m 39 #[.val (.int p0), .val (.int ((p0 &&& (2147483647 : Int32)) % (12 : Int32)))] [])) _
              refine st15 _ ?_
              exact kt)
          obtain ⟨fs, hr, hrun, hended, hW, hsame⟩ := X15.leave (v := some (.ref w_COUNTER32_3)) (fun h => by rw [Bd.returns] at h; cases h)
          refine ⟨_, _, pre16 _ ?_, hrun, hended, _, _, rfl, ?_, ⟨_, rfl⟩, hW, hsame.mono (by decide) (by decide)⟩
          · show Steps p.tables e below (T15.setTop (mkF m 42 #[.val (.int p0), .val (.int ((p0 &&& (2147483647 : Int32)) % (12 : Int32)))] [(.ref w_COUNTER32_3)])) _
            jvm_step X15.here [X15.here.top, hx, (hb hby d1_42), X15.method', Bd.returns, Value.isRef, FieldType.isReference]
            first | (intro acts; rw [hr _ acts rfl rfl rfl]) | rw [hr _ _ rfl rfl rfl]
            exact Steps.refl _
          · show Q1 Z _ _ _ _ _ _ _ _ _ _ _ _ _ h0 n0 _ T15.heap _
            rw [e15]
            exact ⟨⟨_, rfl, Exa_7⟩, N0, rfl⟩
        · skip
          have pre17 : ∀ t, Steps p.tables e below (s₁.setTop (mkF m 45 #[.val (.int p0), .val (.int ((p0 &&& (2147483647 : Int32)) % (12 : Int32)))] [(.int (4 : Int32)), (.int ((p0 &&& (2147483647 : Int32)) % (12 : Int32)))])) t → Steps p.tables e below (s₁.setTop (entryFrame m #[(.int p0)] 2)) t := fun t kt => pre13 t (by
              show Steps p.tables e below (s₁.setTop (mkF m 36 #[.val (.int p0), .val (.int ((p0 &&& (2147483647 : Int32)) % (12 : Int32)))] [(.int (3 : Int32)), (.int ((p0 &&& (2147483647 : Int32)) % (12 : Int32)))])) _
              refine XS.icmpYes X0.here hx rfl (pc0 := 36) (pc' := 43) rfl (hb hby d1_36) rfl (feq hc14).2 (by decide) (by decide) ?_
              show Steps p.tables e below (s₁.setTop (mkF m 43 #[.val (.int p0), .val (.int ((p0 &&& (2147483647 : Int32)) % (12 : Int32)))] [])) _
              refine XS.iloadN X0.here hx rfl (hb hby d1_43) rfl ?_
              show Steps p.tables e below (s₁.setTop (mkF m 44 #[.val (.int p0), .val (.int ((p0 &&& (2147483647 : Int32)) % (12 : Int32)))] [(.int ((p0 &&& (2147483647 : Int32)) % (12 : Int32)))])) _
              refine XS.iconst X0.here hx rfl (hb hby d1_44) ?_
              exact kt)
          by_cases hc18 : ((p0 &&& (2147483647 : Int32)) % (12 : Int32)) = (4 : Int32)
          · skip
            obtain ⟨T19, X19, e19, st19⟩ := getS2 X0 hx hZ hown (host := "") (Or.inl (hw _ (List.mem_of_getElem? (i := 28) rfl))) Via.refl e0 Sf_COUNTER64_8 (g := (mkF m 48 #[.val (.int p0), .val (.int ((p0 &&& (2147483647 : Int32)) % (12 : Int32)))] [])) rfl (hb hby d1_48)
            have pre20 : ∀ t, Steps p.tables e below (T19.setTop (mkF m 51 #[.val (.int p0), .val (.int ((p0 &&& (2147483647 : Int32)) % (12 : Int32)))] [(.ref w_COUNTER64_4)])) t → Steps p.tables e below (s₁.setTop (entryFrame m #[(.int p0)] 2)) t := fun t kt => pre17 t (by
                show Steps p.tables e below (s₁.setTop (mkF m 45 #[.val (.int p0), .val (.int ((p0 &&& (2147483647 : Int32)) % (12 : Int32)))] [(.int (4 : Int32)), (.int ((p0 &&& (2147483647 : Int32)) % (12 : Int32)))])) _
                refine XS.icmpNo X0.here hx rfl (hb hby d1_45) rfl (teq hc18).2 ?_
                show Steps p.tables e below (s₁.setTop (mkF m 48 #[.val (.int p0), .val (.int ((p0 &&& (2147483647 : Int32)) % (12 : Int32)))] [])) _
                refine st19 _ ?_
                exact kt)
            obtain ⟨fs, hr, hrun, hended, hW, hsame⟩ := X19.leave (v := some (.ref w_COUNTER64_4)) (fun h => by rw [Bd.returns] at h; cases h)
            refine ⟨_, _, pre20 _ ?_, hrun, hended, _, _, rfl, ?_, ⟨_, rfl⟩, hW, hsame.mono (by decide) (by decide)⟩
            · show Steps p.tables e below (T19.setTop (mkF m 51 #[.val (.int p0), .val (.int ((p0 &&& (2147483647 : Int32)) % (12 : Int32)))] [(.ref w_COUNTER64_4)])) _
              jvm_step X19.here [X19.here.top, hx, (hb hby d1_51), X19.method', Bd.returns, Value.isRef, FieldType.isReference]
              first | (intro acts; rw [hr _ acts rfl rfl rfl]) | rw [hr _ _ rfl rfl rfl]
              exact Steps.refl _
            · show Q1 Z _ _ _ _ _ _ _ _ _ _ _ _ _ h0 n0 _ T19.heap _
              rw [e19]
              exact ⟨⟨_, rfl, Exa_9⟩, N0, rfl⟩
          · skip
            have pre21 : ∀ t, Steps p.tables e below (s₁.setTop (mkF m 54 #[.val (.int p0), .val (.int ((p0 &&& (2147483647 : Int32)) % (12 : Int32)))] [(.int (5 : Int32)), (.int ((p0 &&& (2147483647 : Int32)) % (12 : Int32)))])) t → Steps p.tables e below (s₁.setTop (entryFrame m #[(.int p0)] 2)) t := fun t kt => pre17 t (by
                show Steps p.tables e below (s₁.setTop (mkF m 45 #[.val (.int p0), .val (.int ((p0 &&& (2147483647 : Int32)) % (12 : Int32)))] [(.int (4 : Int32)), (.int ((p0 &&& (2147483647 : Int32)) % (12 : Int32)))])) _
                refine XS.icmpYes X0.here hx rfl (pc0 := 45) (pc' := 52) rfl (hb hby d1_45) rfl (feq hc18).2 (by decide) (by decide) ?_
                show Steps p.tables e below (s₁.setTop (mkF m 52 #[.val (.int p0), .val (.int ((p0 &&& (2147483647 : Int32)) % (12 : Int32)))] [])) _
                refine XS.iloadN X0.here hx rfl (hb hby d1_52) rfl ?_
                show Steps p.tables e below (s₁.setTop (mkF m 53 #[.val (.int p0), .val (.int ((p0 &&& (2147483647 : Int32)) % (12 : Int32)))] [(.int ((p0 &&& (2147483647 : Int32)) % (12 : Int32)))])) _
                refine XS.iconst X0.here hx rfl (hb hby d1_53) ?_
                exact kt)
            by_cases hc22 : ((p0 &&& (2147483647 : Int32)) % (12 : Int32)) = (5 : Int32)
            · skip
              obtain ⟨T23, X23, e23, st23⟩ := getS2 X0 hx hZ hown (host := "") (Or.inl (hw _ (List.mem_of_getElem? (i := 34) rfl))) Via.refl e0 Sf_TIME_TICKS_10 (g := (mkF m 57 #[.val (.int p0), .val (.int ((p0 &&& (2147483647 : Int32)) % (12 : Int32)))] [])) rfl (hb hby d1_57)
              have pre24 : ∀ t, Steps p.tables e below (T23.setTop (mkF m 60 #[.val (.int p0), .val (.int ((p0 &&& (2147483647 : Int32)) % (12 : Int32)))] [(.ref w_TIME_TICKS_5)])) t → Steps p.tables e below (s₁.setTop (entryFrame m #[(.int p0)] 2)) t := fun t kt => pre21 t (by
                  show Steps p.tables e below (s₁.setTop (mkF m 54 #[.val (.int p0), .val (.int ((p0 &&& (2147483647 : Int32)) % (12 : Int32)))] [(.int (5 : Int32)), (.int ((p0 &&& (2147483647 : Int32)) % (12 : Int32)))])) _
                  refine XS.icmpNo X0.here hx rfl (hb hby d1_54) rfl (teq hc22).2 ?_
                  show Steps p.tables e below (s₁.setTop (mkF m 57 #[.val (.int p0), .val (.int ((p0 &&& (2147483647 : Int32)) % (12 : Int32)))] [])) _
                  refine st23 _ ?_
                  exact kt)
              obtain ⟨fs, hr, hrun, hended, hW, hsame⟩ := X23.leave (v := some (.ref w_TIME_TICKS_5)) (fun h => by rw [Bd.returns] at h; cases h)
              refine ⟨_, _, pre24 _ ?_, hrun, hended, _, _, rfl, ?_, ⟨_, rfl⟩, hW, hsame.mono (by decide) (by decide)⟩
              · show Steps p.tables e below (T23.setTop (mkF m 60 #[.val (.int p0), .val (.int ((p0 &&& (2147483647 : Int32)) % (12 : Int32)))] [(.ref w_TIME_TICKS_5)])) _
                jvm_step X23.here [X23.here.top, hx, (hb hby d1_60), X23.method', Bd.returns, Value.isRef, FieldType.isReference]
                first | (intro acts; rw [hr _ acts rfl rfl rfl]) | rw [hr _ _ rfl rfl rfl]
                exact Steps.refl _
              · show Q1 Z _ _ _ _ _ _ _ _ _ _ _ _ _ h0 n0 _ T23.heap _
                rw [e23]
                exact ⟨⟨_, rfl, Exa_11⟩, N0, rfl⟩
            · skip
              have pre25 : ∀ t, Steps p.tables e below (s₁.setTop (mkF m 64 #[.val (.int p0), .val (.int ((p0 &&& (2147483647 : Int32)) % (12 : Int32)))] [(.int (6 : Int32)), (.int ((p0 &&& (2147483647 : Int32)) % (12 : Int32)))])) t → Steps p.tables e below (s₁.setTop (entryFrame m #[(.int p0)] 2)) t := fun t kt => pre21 t (by
                  show Steps p.tables e below (s₁.setTop (mkF m 54 #[.val (.int p0), .val (.int ((p0 &&& (2147483647 : Int32)) % (12 : Int32)))] [(.int (5 : Int32)), (.int ((p0 &&& (2147483647 : Int32)) % (12 : Int32)))])) _
                  refine XS.icmpYes X0.here hx rfl (pc0 := 54) (pc' := 61) rfl (hb hby d1_54) rfl (feq hc22).2 (by decide) (by decide) ?_
                  show Steps p.tables e below (s₁.setTop (mkF m 61 #[.val (.int p0), .val (.int ((p0 &&& (2147483647 : Int32)) % (12 : Int32)))] [])) _
                  refine XS.iloadN X0.here hx rfl (hb hby d1_61) rfl ?_
                  show Steps p.tables e below (s₁.setTop (mkF m 62 #[.val (.int p0), .val (.int ((p0 &&& (2147483647 : Int32)) % (12 : Int32)))] [(.int ((p0 &&& (2147483647 : Int32)) % (12 : Int32)))])) _
                  refine XS.bipush X0.here hx rfl (hb hby d1_62) ?_
                  exact kt)
              by_cases hc26 : ((p0 &&& (2147483647 : Int32)) % (12 : Int32)) = (6 : Int32)
              · skip
                obtain ⟨T27, X27, e27, st27⟩ := getS2 X0 hx hZ hown (host := "") (Or.inl (hw _ (List.mem_of_getElem? (i := 30) rfl))) Via.refl e0 Sf_IP_ADDRESS_12 (g := (mkF m 67 #[.val (.int p0), .val (.int ((p0 &&& (2147483647 : Int32)) % (12 : Int32)))] [])) rfl (hb hby d1_67)
                have pre28 : ∀ t, Steps p.tables e below (T27.setTop (mkF m 70 #[.val (.int p0), .val (.int ((p0 &&& (2147483647 : Int32)) % (12 : Int32)))] [(.ref w_IP_ADDRESS_6)])) t → Steps p.tables e below (s₁.setTop (entryFrame m #[(.int p0)] 2)) t := fun t kt => pre25 t (by
                    show Steps p.tables e below (s₁.setTop (mkF m 64 #[.val (.int p0), .val (.int ((p0 &&& (2147483647 : Int32)) % (12 : Int32)))] [(.int (6 : Int32)), (.int ((p0 &&& (2147483647 : Int32)) % (12 : Int32)))])) _
                    refine XS.icmpNo X0.here hx rfl (hb hby d1_64) rfl (teq hc26).2 ?_
                    show Steps p.tables e below (s₁.setTop (mkF m 67 #[.val (.int p0), .val (.int ((p0 &&& (2147483647 : Int32)) % (12 : Int32)))] [])) _
                    refine st27 _ ?_
                    exact kt)
                obtain ⟨fs, hr, hrun, hended, hW, hsame⟩ := X27.leave (v := some (.ref w_IP_ADDRESS_6)) (fun h => by rw [Bd.returns] at h; cases h)
                refine ⟨_, _, pre28 _ ?_, hrun, hended, _, _, rfl, ?_, ⟨_, rfl⟩, hW, hsame.mono (by decide) (by decide)⟩
                · show Steps p.tables e below (T27.setTop (mkF m 70 #[.val (.int p0), .val (.int ((p0 &&& (2147483647 : Int32)) % (12 : Int32)))] [(.ref w_IP_ADDRESS_6)])) _
                  jvm_step X27.here [X27.here.top, hx, (hb hby d1_70), X27.method', Bd.returns, Value.isRef, FieldType.isReference]
                  first | (intro acts; rw [hr _ acts rfl rfl rfl]) | rw [hr _ _ rfl rfl rfl]
                  exact Steps.refl _
                · show Q1 Z _ _ _ _ _ _ _ _ _ _ _ _ _ h0 n0 _ T27.heap _
                  rw [e27]
                  exact ⟨⟨_, rfl, Exa_13⟩, N0, rfl⟩
              · skip
                have pre29 : ∀ t, Steps p.tables e below (s₁.setTop (mkF m 74 #[.val (.int p0), .val (.int ((p0 &&& (2147483647 : Int32)) % (12 : Int32)))] [(.int (7 : Int32)), (.int ((p0 &&& (2147483647 : Int32)) % (12 : Int32)))])) t → Steps p.tables e below (s₁.setTop (entryFrame m #[(.int p0)] 2)) t := fun t kt => pre25 t (by
                    show Steps p.tables e below (s₁.setTop (mkF m 64 #[.val (.int p0), .val (.int ((p0 &&& (2147483647 : Int32)) % (12 : Int32)))] [(.int (6 : Int32)), (.int ((p0 &&& (2147483647 : Int32)) % (12 : Int32)))])) _
                    refine XS.icmpYes X0.here hx rfl (pc0 := 64) (pc' := 71) rfl (hb hby d1_64) rfl (feq hc26).2 (by decide) (by decide) ?_
                    show Steps p.tables e below (s₁.setTop (mkF m 71 #[.val (.int p0), .val (.int ((p0 &&& (2147483647 : Int32)) % (12 : Int32)))] [])) _
                    refine XS.iloadN X0.here hx rfl (hb hby d1_71) rfl ?_
                    show Steps p.tables e below (s₁.setTop (mkF m 72 #[.val (.int p0), .val (.int ((p0 &&& (2147483647 : Int32)) % (12 : Int32)))] [(.int ((p0 &&& (2147483647 : Int32)) % (12 : Int32)))])) _
                    refine XS.bipush X0.here hx rfl (hb hby d1_72) ?_
                    exact kt)
                by_cases hc30 : ((p0 &&& (2147483647 : Int32)) % (12 : Int32)) = (7 : Int32)
                · skip
                  obtain ⟨T31, X31, e31, st31⟩ := getS2 X0 hx hZ hown (host := "") (Or.inl (hw _ (List.mem_of_getElem? (i := 32) rfl))) Via.refl e0 Sf_NETWORK_ADDRESS_14 (g := (mkF m 77 #[.val (.int p0), .val (.int ((p0 &&& (2147483647 : Int32)) % (12 : Int32)))] [])) rfl (hb hby d1_77)
                  have pre32 : ∀ t, Steps p.tables e below (T31.setTop (mkF m 80 #[.val (.int p0), .val (.int ((p0 &&& (2147483647 : Int32)) % (12 : Int32)))] [(.ref w_NETWORK_ADDRESS_7)])) t → Steps p.tables e below (s₁.setTop (entryFrame m #[(.int p0)] 2)) t := fun t kt => pre29 t (by
                      show Steps p.tables e below (s₁.setTop (mkF m 74 #[.val (.int p0), .val (.int ((p0 &&& (2147483647 : Int32)) % (12 : Int32)))] [(.int (7 : Int32)), (.int ((p0 &&& (2147483647 : Int32)) % (12 : Int32)))])) _
                      refine XS.icmpNo X0.here hx rfl (hb hby d1_74) rfl (teq hc30).2 ?_
                      show Steps p.tables e below (s₁.setTop (mkF m 77 #[.val (.int p0), .val (.int ((p0 &&& (2147483647 : Int32)) % (12 : Int32)))] [])) _
                      refine st31 _ ?_
                      exact kt)
                  obtain ⟨fs, hr, hrun, hended, hW, hsame⟩ := X31.leave (v := some (.ref w_NETWORK_ADDRESS_7)) (fun h => by rw [Bd.returns] at h; cases h)
                  refine ⟨_, _, pre32 _ ?_, hrun, hended, _, _, rfl, ?_, ⟨_, rfl⟩, hW, hsame.mono (by decide) (by decide)⟩
                  · show Steps p.tables e below (T31.setTop (mkF m 80 #[.val (.int p0), .val (.int ((p0 &&& (2147483647 : Int32)) % (12 : Int32)))] [(.ref w_NETWORK_ADDRESS_7)])) _
                    jvm_step X31.here [X31.here.top, hx, (hb hby d1_80), X31.method', Bd.returns, Value.isRef, FieldType.isReference]
                    first | (intro acts; rw [hr _ acts rfl rfl rfl]) | rw [hr _ _ rfl rfl rfl]
                    exact Steps.refl _
                  · show Q1 Z _ _ _ _ _ _ _ _ _ _ _ _ _ h0 n0 _ T31.heap _
                    rw [e31]
                    exact ⟨⟨_, rfl, Exa_15⟩, N0, rfl⟩
                · skip
                  have pre33 : ∀ t, Steps p.tables e below (s₁.setTop (mkF m 84 #[.val (.int p0), .val (.int ((p0 &&& (2147483647 : Int32)) % (12 : Int32)))] [(.int (8 : Int32)), (.int ((p0 &&& (2147483647 : Int32)) % (12 : Int32)))])) t → Steps p.tables e below (s₁.setTop (entryFrame m #[(.int p0)] 2)) t := fun t kt => pre29 t (by
                      show Steps p.tables e below (s₁.setTop (mkF m 74 #[.val (.int p0), .val (.int ((p0 &&& (2147483647 : Int32)) % (12 : Int32)))] [(.int (7 : Int32)), (.int ((p0 &&& (2147483647 : Int32)) % (12 : Int32)))])) _
                      refine XS.icmpYes X0.here hx rfl (pc0 := 74) (pc' := 81) rfl (hb hby d1_74) rfl (feq hc30).2 (by decide) (by decide) ?_
                      show Steps p.tables e below (s₁.setTop (mkF m 81 #[.val (.int p0), .val (.int ((p0 &&& (2147483647 : Int32)) % (12 : Int32)))] [])) _
                      refine XS.iloadN X0.here hx rfl (hb hby d1_81) rfl ?_
                      show Steps p.tables e below (s₁.setTop (mkF m 82 #[.val (.int p0), .val (.int ((p0 &&& (2147483647 : Int32)) % (12 : Int32)))] [(.int ((p0 &&& (2147483647 : Int32)) % (12 : Int32)))])) _
                      refine XS.bipush X0.here hx rfl (hb hby d1_82) ?_
                      exact kt)
                  by_cases hc34 : ((p0 &&& (2147483647 : Int32)) % (12 : Int32)) = (8 : Int32)
                  · skip
                    obtain ⟨T35, X35, e35, st35⟩ := getS2 X0 hx hZ hown (host := "") (Or.inl (hw _ (List.mem_of_getElem? (i := 26) rfl))) Via.refl e0 Sf_OPAQUE_16 (g := (mkF m 87 #[.val (.int p0), .val (.int ((p0 &&& (2147483647 : Int32)) % (12 : Int32)))] [])) rfl (hb hby d1_87)
                    have pre36 : ∀ t, Steps p.tables e below (T35.setTop (mkF m 90 #[.val (.int p0), .val (.int ((p0 &&& (2147483647 : Int32)) % (12 : Int32)))] [(.ref w_OPAQUE_8)])) t → Steps p.tables e below (s₁.setTop (entryFrame m #[(.int p0)] 2)) t := fun t kt => pre33 t (by
                        show Steps p.tables e below (s₁.setTop (mkF m 84 #[.val (.int p0), .val (.int ((p0 &&& (2147483647 : Int32)) % (12 : Int32)))] [(.int (8 : Int32)), (.int ((p0 &&& (2147483647 : Int32)) % (12 : Int32)))])) _
                        refine XS.icmpNo X0.here hx rfl (hb hby d1_84) rfl (teq hc34).2 ?_
                        show Steps p.tables e below (s₁.setTop (mkF m 87 #[.val (.int p0), .val (.int ((p0 &&& (2147483647 : Int32)) % (12 : Int32)))] [])) _
                        refine st35 _ ?_
                        exact kt)
                    obtain ⟨fs, hr, hrun, hended, hW, hsame⟩ := X35.leave (v := some (.ref w_OPAQUE_8)) (fun h => by rw [Bd.returns] at h; cases h)
                    refine ⟨_, _, pre36 _ ?_, hrun, hended, _, _, rfl, ?_, ⟨_, rfl⟩, hW, hsame.mono (by decide) (by decide)⟩
                    · show Steps p.tables e below (T35.setTop (mkF m 90 #[.val (.int p0), .val (.int ((p0 &&& (2147483647 : Int32)) % (12 : Int32)))] [(.ref w_OPAQUE_8)])) _
                      jvm_step X35.here [X35.here.top, hx, (hb hby d1_90), X35.method', Bd.returns, Value.isRef, FieldType.isReference]
                      first | (intro acts; rw [hr _ acts rfl rfl rfl]) | rw [hr _ _ rfl rfl rfl]
                      exact Steps.refl _
                    · show Q1 Z _ _ _ _ _ _ _ _ _ _ _ _ _ h0 n0 _ T35.heap _
                      rw [e35]
                      exact ⟨⟨_, rfl, Exa_17⟩, N0, rfl⟩
                  · skip
                    have pre37 : ∀ t, Steps p.tables e below (s₁.setTop (mkF m 94 #[.val (.int p0), .val (.int ((p0 &&& (2147483647 : Int32)) % (12 : Int32)))] [(.int (9 : Int32)), (.int ((p0 &&& (2147483647 : Int32)) % (12 : Int32)))])) t → Steps p.tables e below (s₁.setTop (entryFrame m #[(.int p0)] 2)) t := fun t kt => pre33 t (by
                        show Steps p.tables e below (s₁.setTop (mkF m 84 #[.val (.int p0), .val (.int ((p0 &&& (2147483647 : Int32)) % (12 : Int32)))] [(.int (8 : Int32)), (.int ((p0 &&& (2147483647 : Int32)) % (12 : Int32)))])) _
                        refine XS.icmpYes X0.here hx rfl (pc0 := 84) (pc' := 91) rfl (hb hby d1_84) rfl (feq hc34).2 (by decide) (by decide) ?_
                        show Steps p.tables e below (s₁.setTop (mkF m 91 #[.val (.int p0), .val (.int ((p0 &&& (2147483647 : Int32)) % (12 : Int32)))] [])) _
                        refine XS.iloadN X0.here hx rfl (hb hby d1_91) rfl ?_
                        show Steps p.tables e below (s₁.setTop (mkF m 92 #[.val (.int p0), .val (.int ((p0 &&& (2147483647 : Int32)) % (12 : Int32)))] [(.int ((p0 &&& (2147483647 : Int32)) % (12 : Int32)))])) _
                        refine XS.bipush X0.here hx rfl (hb hby d1_92) ?_
                        exact kt)
                    by_cases hc38 : ((p0 &&& (2147483647 : Int32)) % (12 : Int32)) = (9 : Int32)
                    · skip
                      obtain ⟨T39, X39, e39, st39⟩ := getS2 X0 hx hZ hown (host := "") (Or.inl (hw _ (List.mem_of_getElem? (i := 38) rfl))) Via.refl e0 Sf_OCTET_STRING_18 (g := (mkF m 97 #[.val (.int p0), .val (.int ((p0 &&& (2147483647 : Int32)) % (12 : Int32)))] [])) rfl (hb hby d1_97)
                      have pre40 : ∀ t, Steps p.tables e below (T39.setTop (mkF m 100 #[.val (.int p0), .val (.int ((p0 &&& (2147483647 : Int32)) % (12 : Int32)))] [(.ref w_OCTET_STRING_9)])) t → Steps p.tables e below (s₁.setTop (entryFrame m #[(.int p0)] 2)) t := fun t kt => pre37 t (by
                          show Steps p.tables e below (s₁.setTop (mkF m 94 #[.val (.int p0), .val (.int ((p0 &&& (2147483647 : Int32)) % (12 : Int32)))] [(.int (9 : Int32)), (.int ((p0 &&& (2147483647 : Int32)) % (12 : Int32)))])) _
                          refine XS.icmpNo X0.here hx rfl (hb hby d1_94) rfl (teq hc38).2 ?_
                          show Steps p.tables e below (s₁.setTop (mkF m 97 #[.val (.int p0), .val (.int ((p0 &&& (2147483647 : Int32)) % (12 : Int32)))] [])) _
                          refine st39 _ ?_
                          exact kt)
                      obtain ⟨fs, hr, hrun, hended, hW, hsame⟩ := X39.leave (v := some (.ref w_OCTET_STRING_9)) (fun h => by rw [Bd.returns] at h; cases h)
                      refine ⟨_, _, pre40 _ ?_, hrun, hended, _, _, rfl, ?_, ⟨_, rfl⟩, hW, hsame.mono (by decide) (by decide)⟩
                      · show Steps p.tables e below (T39.setTop (mkF m 100 #[.val (.int p0), .val (.int ((p0 &&& (2147483647 : Int32)) % (12 : Int32)))] [(.ref w_OCTET_STRING_9)])) _
                        jvm_step X39.here [X39.here.top, hx, (hb hby d1_100), X39.method', Bd.returns, Value.isRef, FieldType.isReference]
                        first | (intro acts; rw [hr _ acts rfl rfl rfl]) | rw [hr _ _ rfl rfl rfl]
                        exact Steps.refl _
                      · show Q1 Z _ _ _ _ _ _ _ _ _ _ _ _ _ h0 n0 _ T39.heap _
                        rw [e39]
                        exact ⟨⟨_, rfl, Exa_19⟩, N0, rfl⟩
                    · skip
                      have pre41 : ∀ t, Steps p.tables e below (s₁.setTop (mkF m 104 #[.val (.int p0), .val (.int ((p0 &&& (2147483647 : Int32)) % (12 : Int32)))] [(.int (10 : Int32)), (.int ((p0 &&& (2147483647 : Int32)) % (12 : Int32)))])) t → Steps p.tables e below (s₁.setTop (entryFrame m #[(.int p0)] 2)) t := fun t kt => pre37 t (by
                          show Steps p.tables e below (s₁.setTop (mkF m 94 #[.val (.int p0), .val (.int ((p0 &&& (2147483647 : Int32)) % (12 : Int32)))] [(.int (9 : Int32)), (.int ((p0 &&& (2147483647 : Int32)) % (12 : Int32)))])) _
                          refine XS.icmpYes X0.here hx rfl (pc0 := 94) (pc' := 101) rfl (hb hby d1_94) rfl (feq hc38).2 (by decide) (by decide) ?_
                          show Steps p.tables e below (s₁.setTop (mkF m 101 #[.val (.int p0), .val (.int ((p0 &&& (2147483647 : Int32)) % (12 : Int32)))] [])) _
                          refine XS.iloadN X0.here hx rfl (hb hby d1_101) rfl ?_
                          show Steps p.tables e below (s₁.setTop (mkF m 102 #[.val (.int p0), .val (.int ((p0 &&& (2147483647 : Int32)) % (12 : Int32)))] [(.int ((p0 &&& (2147483647 : Int32)) % (12 : Int32)))])) _
                          refine XS.bipush X0.here hx rfl (hb hby d1_102) ?_
                          exact kt)
                      by_cases hc42 : ((p0 &&& (2147483647 : Int32)) % (12 : Int32)) = (10 : Int32)
                      · skip
                        obtain ⟨T43, X43, e43, st43⟩ := getS2 X0 hx hZ hown (host := "") (Or.inl (hw _ (List.mem_of_getElem? (i := 36) rfl))) Via.refl e0 Sf_OBJECT_IDENTIFIER_20 (g := (mkF m 107 #[.val (.int p0), .val (.int ((p0 &&& (2147483647 : Int32)) % (12 : Int32)))] [])) rfl (hb hby d1_107)
                        have pre44 : ∀ t, Steps p.tables e below (T43.setTop (mkF m 110 #[.val (.int p0), .val (.int ((p0 &&& (2147483647 : Int32)) % (12 : Int32)))] [(.ref w_OBJECT_IDENTIFIER_10)])) t → Steps p.tables e below (s₁.setTop (entryFrame m #[(.int p0)] 2)) t := fun t kt => pre41 t (by
                            show Steps p.tables e below (s₁.setTop (mkF m 104 #[.val (.int p0), .val (.int ((p0 &&& (2147483647 : Int32)) % (12 : Int32)))] [(.int (10 : Int32)), (.int ((p0 &&& (2147483647 : Int32)) % (12 : Int32)))])) _
                            refine XS.icmpNo X0.here hx rfl (hb hby d1_104) rfl (teq hc42).2 ?_
                            show Steps p.tables e below (s₁.setTop (mkF m 107 #[.val (.int p0), .val (.int ((p0 &&& (2147483647 : Int32)) % (12 : Int32)))] [])) _
                            refine st43 _ ?_
                            exact kt)
                        obtain ⟨fs, hr, hrun, hended, hW, hsame⟩ := X43.leave (v := some (.ref w_OBJECT_IDENTIFIER_10)) (fun h => by rw [Bd.returns] at h; cases h)
                        refine ⟨_, _, pre44 _ ?_, hrun, hended, _, _, rfl, ?_, ⟨_, rfl⟩, hW, hsame.mono (by decide) (by decide)⟩
                        · show Steps p.tables e below (T43.setTop (mkF m 110 #[.val (.int p0), .val (.int ((p0 &&& (2147483647 : Int32)) % (12 : Int32)))] [(.ref w_OBJECT_IDENTIFIER_10)])) _
                          jvm_step X43.here [X43.here.top, hx, (hb hby d1_110), X43.method', Bd.returns, Value.isRef, FieldType.isReference]
                          first | (intro acts; rw [hr _ acts rfl rfl rfl]) | rw [hr _ _ rfl rfl rfl]
                          exact Steps.refl _
                        · show Q1 Z _ _ _ _ _ _ _ _ _ _ _ _ _ h0 n0 _ T43.heap _
                          rw [e43]
                          exact ⟨⟨_, rfl, Exa_21⟩, N0, rfl⟩
                      · skip
                        obtain ⟨T45, X45, e45, st45⟩ := getS2 X0 hx hZ hown (host := "") (Or.inl (hw _ (List.mem_of_getElem? (i := 24) rfl))) Via.refl e0 Sf_BITS_22 (g := (mkF m 111 #[.val (.int p0), .val (.int ((p0 &&& (2147483647 : Int32)) % (12 : Int32)))] [])) rfl (hb hby d1_111)
                        have pre46 : ∀ t, Steps p.tables e below (T45.setTop (mkF m 114 #[.val (.int p0), .val (.int ((p0 &&& (2147483647 : Int32)) % (12 : Int32)))] [(.ref w_BITS_11)])) t → Steps p.tables e below (s₁.setTop (entryFrame m #[(.int p0)] 2)) t := fun t kt => pre41 t (by
                            show Steps p.tables e below (s₁.setTop (mkF m 104 #[.val (.int p0), .val (.int ((p0 &&& (2147483647 : Int32)) % (12 : Int32)))] [(.int (10 : Int32)), (.int ((p0 &&& (2147483647 : Int32)) % (12 : Int32)))])) _
                            refine XS.icmpYes X0.here hx rfl (pc0 := 104) (pc' := 111) rfl (hb hby d1_104) rfl (feq hc42).2 (by decide) (by decide) ?_
                            show Steps p.tables e below (s₁.setTop (mkF m 111 #[.val (.int p0), .val (.int ((p0 &&& (2147483647 : Int32)) % (12 : Int32)))] [])) _
                            refine st45 _ ?_
                            exact kt)
                        obtain ⟨fs, hr, hrun, hended, hW, hsame⟩ := X45.leave (v := some (.ref w_BITS_11)) (fun h => by rw [Bd.returns] at h; cases h)
                        refine ⟨_, _, pre46 _ ?_, hrun, hended, _, _, rfl, ?_, ⟨_, rfl⟩, hW, hsame.mono (by decide) (by decide)⟩
                        · show Steps p.tables e below (T45.setTop (mkF m 114 #[.val (.int p0), .val (.int ((p0 &&& (2147483647 : Int32)) % (12 : Int32)))] [(.ref w_BITS_11)])) _
                          jvm_step X45.here [X45.here.top, hx, (hb hby d1_114), X45.method', Bd.returns, Value.isRef, FieldType.isReference]
                          first | (intro acts; rw [hr _ acts rfl rfl rfl]) | rw [hr _ _ rfl rfl rfl]
                          exact Steps.refl _
                        · show Q1 Z _ _ _ _ _ _ _ _ _ _ _ _ _ h0 n0 _ T45.heap _
                          rw [e45]
                          exact ⟨⟨_, rfl, Exa_23⟩, N0, rfl⟩
theorem pn_1 : plainName "com/example/oidwright/oidwright/model/BaseType" = true := by first | (simp [plainName, overriddenIn]; done) | decide +kernel
theorem d2_0 : decode prog_21_method_11_code 0 = .ok (.aload_n 0, 1) := by decide +kernel
theorem d2_1 : decode prog_21_method_11_code 1 = .ok (.getstatic 10, 3) := by decide +kernel
theorem d2_4 : decode prog_21_method_11_code 4 = .ok (.if_acmp .ne 9, 3) := by decide +kernel
theorem d2_7 : decode prog_21_method_11_code 7 = .ok (.getstatic 7, 3) := by decide +kernel
theorem d2_10 : decode prog_21_method_11_code 10 = .ok (.goto 4, 3) := by decide +kernel
theorem d2_13 : decode prog_21_method_11_code 13 = .ok (.aload_n 0, 1) := by decide +kernel
theorem d2_14 : decode prog_21_method_11_code 14 = .ok (.areturn, 1) := by decide +kernel
theorem ef_2 (m : MethodId) (x0 : Addr)  : entryFrame m #[(.ref x0)] 1 = mkF m 0 #[.val (.ref x0)] [] := by first | (simp [entryFrame, mkF, argsToLocals, Value.category]; done) | rfl
def Q2 (Z : State) (a0 : Addr) (w_GAUGE32_0 : Addr) (w_UNSIGNED32_1 : Addr) (h0 : Heap) (n0 : Nat) (v : Option Value) (h : Heap) (L : List Loc) : Prop := (∃ r : Addr, v = some (.ref r) ∧ ((a0 = w_GAUGE32_0 → w_UNSIGNED32_1 = r) ∧ (¬ a0 = w_GAUGE32_0 → a0 = r))) ∧ Fr n0 L ∧ h = h0
set_option maxRecDepth 65536 in
set_option maxHeartbeats 40000000 in
theorem rm2 (l : Launch) (Z : State) (aw : Array Value) (hw : ∀ d ∈ tables_1, d.before aw Z = true) (ws : List Jvm.Cond) (a0 : Addr) (w_GAUGE32_0 : Addr) (w_UNSIGNED32_1 : Addr) (h0 : Heap) (n0 : Nat) (Z0 : n0 ≤ h0.size) (Sf_GAUGE32_0 : Sta Z h0 "com/example/oidwright/oidwright/model/BaseType" "GAUGE32" "Lcom/example/oidwright/oidwright/model/BaseType;" (.ref w_GAUGE32_0)) (Sf_UNSIGNED32_1 : Sta Z h0 "com/example/oidwright/oidwright/model/BaseType" "UNSIGNED32" "Lcom/example/oidwright/oidwright/model/BaseType;" (.ref w_UNSIGNED32_1)) :
    MetFree l (⟨"com/example/oidwright/oidwright/model/BaseType", "sentAs", "()Lcom/example/oidwright/oidwright/model/BaseType;"⟩ : MethodName) (head1 (Jvm.Cond.code (⟨"com/example/oidwright/oidwright/model/BaseType", "sentAs", "()Lcom/example/oidwright/oidwright/model/BaseType;"⟩ : MethodName) prog_21_method_11_code 1 (some (.object "com/example/oidwright/oidwright/model/BaseType")) :: ws) ({ frames := 0, cells := 0, slots := 0, locals := 0 } : Room)) (fun a U => a = #[(.ref a0)] ∧ Z.Warmed39 U.vm ∧ U.heap = h0) (fun _ _ _ _ _ => True) (fun _ U o U' => ∃ v L, o = .returned v ∧ Q2 Z a0 w_GAUGE32_0 w_UNSIGNED32_1 h0 n0 v U'.heap L ∧ FrameEnd U o U' L ({ frames := 0, cells := 0, slots := 0, locals := 0 } : Room).cells ({ frames := 0, cells := 0, slots := 0, locals := 0 } : Room).slots) := by
  refine MetFree.of_bodySF (plainFor_of_name pn_1) hisR ?_
  intro p e s m args below meth c s₁ Bd hml0 hP hK
  obtain ⟨rfl, hZ, hh⟩ := hP
  have hx := Bd.exec
  have hby := Bd.bytes
  have hml : c.maxLocals = 1 := hml0
  have hown : s.vm.findClass "com/example/oidwright/oidwright/model/BaseType" = some m.cls := findClass_of_methodNamed Bd.named
  have hnm := (name_of_methodNamed Bd.named Bd.method).1
  have X0 : Stand p l e ({ frames := 0, cells := 0, slots := 0, locals := 0 } : Room) s m #[(.ref a0)] below meth c s₁ [] 0 0 := Stand.of_body Bd
  have e0 : s₁.heap = h0 := by rw [← hh, Bd.state]; rfl
  have N0 := Fr.nil n0
  have pre0 : ∀ t, Steps p.tables e below (s₁.setTop (mkF m 0 #[.val (.ref a0)] [])) t → Steps p.tables e below (s₁.setTop (entryFrame m #[(.ref a0)] 1)) t := fun t k => castTop (ef_2 m a0 ) k
  obtain ⟨T1, X1, e1, st1⟩ := getS2 X0 hx hZ hown (host := "") (Or.inl (hw _ (List.mem_of_getElem? (i := 15) rfl))) Via.refl e0 Sf_GAUGE32_0 (g := (mkF m 1 #[.val (.ref a0)] [(.ref a0)])) rfl (hb hby d2_1)
  have pre2 : ∀ t, Steps p.tables e below (T1.setTop (mkF m 4 #[.val (.ref a0)] [(.ref w_GAUGE32_0), (.ref a0)])) t → Steps p.tables e below (s₁.setTop (entryFrame m #[(.ref a0)] 1)) t := fun t kt => pre0 t (by
      show Steps p.tables e below (s₁.setTop (mkF m 0 #[.val (.ref a0)] [])) _
      refine XS.aloadN X0.here hx rfl (hb hby d2_0) rfl rfl ?_
      show Steps p.tables e below (s₁.setTop (mkF m 1 #[.val (.ref a0)] [(.ref a0)])) _
      refine st1 _ ?_
      exact kt)
  by_cases hc3 : a0 = w_GAUGE32_0
  · skip
    obtain ⟨T4, X4, e4, st4⟩ := getS2 X1 hx hZ hown (host := "") (Or.inl (hw _ (List.mem_of_getElem? (i := 23) rfl))) Via.refl e1 Sf_UNSIGNED32_1 (g := (mkF m 7 #[.val (.ref a0)] [])) rfl (hb hby d2_7)
    have pre5 : ∀ t, Steps p.tables e below (T4.setTop (mkF m 14 #[.val (.ref a0)] [(.ref w_UNSIGNED32_1)])) t → Steps p.tables e below (s₁.setTop (entryFrame m #[(.ref a0)] 1)) t := fun t kt => pre2 t (by
        show Steps p.tables e below (T1.setTop (mkF m 4 #[.val (.ref a0)] [(.ref w_GAUGE32_0), (.ref a0)])) _
        refine Jvm.RoadKit.acmp (g := (mkF m 4 #[.val (.ref a0)] [(.ref w_GAUGE32_0), (.ref a0)])) X1 hx rfl rfl rfl (pc0 := 4) (pc' := 7) (same := true) rfl (hb hby d2_4) rfl (decide_eq_true (congrArg Value.ref hc3)) (by decide) (by decide) ?_
        show Steps p.tables e below (T1.setTop (mkF m 7 #[.val (.ref a0)] [])) _
        refine st4 _ ?_
        show Steps p.tables e below (T4.setTop (mkF m 10 #[.val (.ref a0)] [(.ref w_UNSIGNED32_1)])) _
        refine XS.goto X4.here hx rfl (pc0 := 10) (pc' := 14) rfl (hb hby d2_10) (by decide) (by decide) ?_
        exact kt)
    obtain ⟨fs, hr, hrun, hended, hW, hsame⟩ := X4.leave (v := some (.ref w_UNSIGNED32_1)) (fun h => by rw [Bd.returns] at h; cases h)
    refine ⟨_, _, pre5 _ ?_, hrun, hended, _, _, rfl, ?_, ⟨_, rfl⟩, hW, hsame.mono (by decide) (by decide)⟩
    · show Steps p.tables e below (T4.setTop (mkF m 14 #[.val (.ref a0)] [(.ref w_UNSIGNED32_1)])) _
      jvm_step X4.here [X4.here.top, hx, (hb hby d2_14), X4.method', Bd.returns, Value.isRef, FieldType.isReference]
      first | (intro acts; rw [hr _ acts rfl rfl rfl]) | rw [hr _ _ rfl rfl rfl]
      exact Steps.refl _
    · show Q2 Z _ _ _ h0 n0 _ T4.heap _
      rw [e4]
      exact ⟨⟨_, rfl, by simp [hc3]⟩, N0, rfl⟩
  · skip
    have pre6 : ∀ t, Steps p.tables e below (T1.setTop (mkF m 14 #[.val (.ref a0)] [(.ref a0)])) t → Steps p.tables e below (s₁.setTop (entryFrame m #[(.ref a0)] 1)) t := fun t kt => pre2 t (by
        show Steps p.tables e below (T1.setTop (mkF m 4 #[.val (.ref a0)] [(.ref w_GAUGE32_0), (.ref a0)])) _
        refine Jvm.RoadKit.acmp (g := (mkF m 4 #[.val (.ref a0)] [(.ref w_GAUGE32_0), (.ref a0)])) X1 hx rfl rfl rfl (pc0 := 4) (pc' := 13) (same := false) rfl (hb hby d2_4) rfl (decide_eq_false fun q => hc3 (Value.ref.inj q)) (by decide) (by decide) ?_
        show Steps p.tables e below (T1.setTop (mkF m 13 #[.val (.ref a0)] [])) _
        refine XS.aloadN X1.here hx rfl (hb hby d2_13) rfl rfl ?_
        exact kt)
    obtain ⟨fs, hr, hrun, hended, hW, hsame⟩ := X1.leave (v := some (.ref a0)) (fun h => by rw [Bd.returns] at h; cases h)
    refine ⟨_, _, pre6 _ ?_, hrun, hended, _, _, rfl, ?_, ⟨_, rfl⟩, hW, hsame.mono (by decide) (by decide)⟩
    · show Steps p.tables e below (T1.setTop (mkF m 14 #[.val (.ref a0)] [(.ref a0)])) _
      jvm_step X1.here [X1.here.top, hx, (hb hby d2_14), X1.method', Bd.returns, Value.isRef, FieldType.isReference]
      first | (intro acts; rw [hr _ acts rfl rfl rfl]) | rw [hr _ _ rfl rfl rfl]
      exact Steps.refl _
    · show Q2 Z _ _ _ h0 n0 _ T1.heap _
      rw [e1]
      exact ⟨⟨_, rfl, by simp [hc3]⟩, N0, rfl⟩
theorem d3_0 : decode method_3_code 0 = .ok (.aload_n 0, 1) := by decide +kernel
theorem d3_1 : decode method_3_code 1 = .ok (.getstatic 17, 3) := by decide +kernel
theorem d3_4 : decode method_3_code 4 = .ok (.if_acmp .eq 10, 3) := by decide +kernel
theorem d3_7 : decode method_3_code 7 = .ok (.aload_n 0, 1) := by decide +kernel
theorem d3_8 : decode method_3_code 8 = .ok (.getstatic 14, 3) := by decide +kernel
theorem d3_11 : decode method_3_code 11 = .ok (.if_acmp .ne 7, 3) := by decide +kernel
theorem d3_14 : decode method_3_code 14 = .ok (.iconst 1, 1) := by decide +kernel
theorem d3_15 : decode method_3_code 15 = .ok (.goto 4, 3) := by decide +kernel
theorem d3_18 : decode method_3_code 18 = .ok (.iconst 0, 1) := by decide +kernel
theorem d3_19 : decode method_3_code 19 = .ok (.ireturn, 1) := by decide +kernel
theorem ef_3 (m : MethodId) (x0 : Addr)  : entryFrame m #[(.ref x0)] 1 = mkF m 0 #[.val (.ref x0)] [] := by first | (simp [entryFrame, mkF, argsToLocals, Value.category]; done) | rfl
def Q3 (Z : State) (a0 : Addr) (w_GAUGE32_0 : Addr) (w_UNSIGNED32_1 : Addr) (h0 : Heap) (n0 : Nat) (v : Option Value) (h : Heap) (L : List Loc) : Prop := (∃ r : Int32, v = some (.int r) ∧ (((a0 = w_GAUGE32_0 ∨ a0 = w_UNSIGNED32_1) → (1 : Int32) = r) ∧ (¬ a0 = w_GAUGE32_0 → ¬ a0 = w_UNSIGNED32_1 → (0 : Int32) = r))) ∧ Fr n0 L ∧ h = h0
set_option maxRecDepth 65536 in
set_option maxHeartbeats 40000000 in
theorem rm3 (l : Launch) (Z : State) (aw : Array Value) (hw : ∀ d ∈ tables_1, d.before aw Z = true) (ws : List Jvm.Cond) (a0 : Addr) (w_GAUGE32_0 : Addr) (w_UNSIGNED32_1 : Addr) (h0 : Heap) (n0 : Nat) (Z0 : n0 ≤ h0.size) (Sf_GAUGE32_0 : Sta Z h0 "com/example/oidwright/oidwright/model/BaseType" "GAUGE32" "Lcom/example/oidwright/oidwright/model/BaseType;" (.ref w_GAUGE32_0)) (Sf_UNSIGNED32_1 : Sta Z h0 "com/example/oidwright/oidwright/model/BaseType" "UNSIGNED32" "Lcom/example/oidwright/oidwright/model/BaseType;" (.ref w_UNSIGNED32_1)) :
    MetFree l (⟨"com/example/oidwright/oidwright/model/BaseTypeSentAsPinLaw", "app2", "(Lcom/example/oidwright/oidwright/model/BaseType;)Z"⟩ : MethodName) (head1 (Jvm.Cond.code (⟨"com/example/oidwright/oidwright/model/BaseTypeSentAsPinLaw", "app2", "(Lcom/example/oidwright/oidwright/model/BaseType;)Z"⟩ : MethodName) method_3_code 1 (some .boolean) :: ws) ({ frames := 0, cells := 0, slots := 0, locals := 0 } : Room)) (fun a U => a = #[(.ref a0)] ∧ Z.Warmed39 U.vm ∧ U.heap = h0) (fun _ _ _ _ _ => True) (fun _ U o U' => ∃ v L, o = .returned v ∧ Q3 Z a0 w_GAUGE32_0 w_UNSIGNED32_1 h0 n0 v U'.heap L ∧ FrameEnd U o U' L ({ frames := 0, cells := 0, slots := 0, locals := 0 } : Room).cells ({ frames := 0, cells := 0, slots := 0, locals := 0 } : Room).slots) := by
  refine MetFree.of_bodySF (plainFor_of_name pn_0) hisR ?_
  intro p e s m args below meth c s₁ Bd hml0 hP hK
  obtain ⟨rfl, hZ, hh⟩ := hP
  have hx := Bd.exec
  have hby := Bd.bytes
  have hml : c.maxLocals = 1 := hml0
  have hown : s.vm.findClass "com/example/oidwright/oidwright/model/BaseTypeSentAsPinLaw" = some m.cls := findClass_of_methodNamed Bd.named
  have hnm := (name_of_methodNamed Bd.named Bd.method).1
  have X0 : Stand p l e ({ frames := 0, cells := 0, slots := 0, locals := 0 } : Room) s m #[(.ref a0)] below meth c s₁ [] 0 0 := Stand.of_body Bd
  have e0 : s₁.heap = h0 := by rw [← hh, Bd.state]; rfl
  have N0 := Fr.nil n0
  have pre0 : ∀ t, Steps p.tables e below (s₁.setTop (mkF m 0 #[.val (.ref a0)] [])) t → Steps p.tables e below (s₁.setTop (entryFrame m #[(.ref a0)] 1)) t := fun t k => castTop (ef_3 m a0 ) k
  obtain ⟨T1, X1, e1, st1⟩ := getS2 X0 hx hZ hown (host := "") (Or.inl (hw _ (List.mem_of_getElem? (i := 17) rfl))) Via.refl e0 Sf_GAUGE32_0 (g := (mkF m 1 #[.val (.ref a0)] [(.ref a0)])) rfl (hb hby d3_1)
  have pre2 : ∀ t, Steps p.tables e below (T1.setTop (mkF m 4 #[.val (.ref a0)] [(.ref w_GAUGE32_0), (.ref a0)])) t → Steps p.tables e below (s₁.setTop (entryFrame m #[(.ref a0)] 1)) t := fun t kt => pre0 t (by
      show Steps p.tables e below (s₁.setTop (mkF m 0 #[.val (.ref a0)] [])) _
      refine XS.aloadN X0.here hx rfl (hb hby d3_0) rfl rfl ?_
      show Steps p.tables e below (s₁.setTop (mkF m 1 #[.val (.ref a0)] [(.ref a0)])) _
      refine st1 _ ?_
      exact kt)
  by_cases hc3 : a0 = w_GAUGE32_0
  · skip
    have pre4 : ∀ t, Steps p.tables e below (T1.setTop (mkF m 19 #[.val (.ref a0)] [(.int (1 : Int32))])) t → Steps p.tables e below (s₁.setTop (entryFrame m #[(.ref a0)] 1)) t := fun t kt => pre2 t (by
        show Steps p.tables e below (T1.setTop (mkF m 4 #[.val (.ref a0)] [(.ref w_GAUGE32_0), (.ref a0)])) _
        refine Jvm.RoadKit.acmp (g := (mkF m 4 #[.val (.ref a0)] [(.ref w_GAUGE32_0), (.ref a0)])) X1 hx rfl rfl rfl (pc0 := 4) (pc' := 14) (same := true) rfl (hb hby d3_4) rfl (decide_eq_true (congrArg Value.ref hc3)) (by decide) (by decide) ?_
        show Steps p.tables e below (T1.setTop (mkF m 14 #[.val (.ref a0)] [])) _
        refine XS.iconst X1.here hx rfl (hb hby d3_14) ?_
        show Steps p.tables e below (T1.setTop (mkF m 15 #[.val (.ref a0)] [(.int (1 : Int32))])) _
        refine XS.goto X1.here hx rfl (pc0 := 15) (pc' := 19) rfl (hb hby d3_15) (by decide) (by decide) ?_
        exact kt)
    obtain ⟨fs, hr, hrun, hended, hW, hsame⟩ := X1.leave (v := some (.int (1 : Int32))) (fun h => by rw [Bd.returns] at h; cases h)
    refine ⟨_, _, pre4 _ ?_, hrun, hended, _, _, rfl, ?_, ⟨_, rfl⟩, hW, hsame.mono (by decide) (by decide)⟩
    · show Steps p.tables e below (T1.setTop (mkF m 19 #[.val (.ref a0)] [(.int (1 : Int32))])) _
      exact retN X1 hx (t := .boolean) Bd.returns (by simp) (hb hby d3_19) hr
    · show Q3 Z _ _ _ h0 n0 _ T1.heap _
      rw [e1]
      exact ⟨⟨_, rfl, by simp [hc3]⟩, N0, rfl⟩
  · skip
    obtain ⟨T5, X5, e5, st5⟩ := getS2 X1 hx hZ hown (host := "") (Or.inl (hw _ (List.mem_of_getElem? (i := 21) rfl))) Via.refl e1 Sf_UNSIGNED32_1 (g := (mkF m 8 #[.val (.ref a0)] [(.ref a0)])) rfl (hb hby d3_8)
    have pre6 : ∀ t, Steps p.tables e below (T5.setTop (mkF m 11 #[.val (.ref a0)] [(.ref w_UNSIGNED32_1), (.ref a0)])) t → Steps p.tables e below (s₁.setTop (entryFrame m #[(.ref a0)] 1)) t := fun t kt => pre2 t (by
        show Steps p.tables e below (T1.setTop (mkF m 4 #[.val (.ref a0)] [(.ref w_GAUGE32_0), (.ref a0)])) _
        refine Jvm.RoadKit.acmp (g := (mkF m 4 #[.val (.ref a0)] [(.ref w_GAUGE32_0), (.ref a0)])) X1 hx rfl rfl rfl (pc0 := 4) (pc' := 7) (same := false) rfl (hb hby d3_4) rfl (decide_eq_false fun q => hc3 (Value.ref.inj q)) (by decide) (by decide) ?_
        show Steps p.tables e below (T1.setTop (mkF m 7 #[.val (.ref a0)] [])) _
        refine XS.aloadN X1.here hx rfl (hb hby d3_7) rfl rfl ?_
        show Steps p.tables e below (T1.setTop (mkF m 8 #[.val (.ref a0)] [(.ref a0)])) _
        refine st5 _ ?_
        exact kt)
    by_cases hc7 : a0 = w_UNSIGNED32_1
    · skip
      have pre8 : ∀ t, Steps p.tables e below (T5.setTop (mkF m 19 #[.val (.ref a0)] [(.int (1 : Int32))])) t → Steps p.tables e below (s₁.setTop (entryFrame m #[(.ref a0)] 1)) t := fun t kt => pre6 t (by
          show Steps p.tables e below (T5.setTop (mkF m 11 #[.val (.ref a0)] [(.ref w_UNSIGNED32_1), (.ref a0)])) _
          refine Jvm.RoadKit.acmp (g := (mkF m 11 #[.val (.ref a0)] [(.ref w_UNSIGNED32_1), (.ref a0)])) X5 hx rfl rfl rfl (pc0 := 11) (pc' := 14) (same := true) rfl (hb hby d3_11) rfl (decide_eq_true (congrArg Value.ref hc7)) (by decide) (by decide) ?_
          show Steps p.tables e below (T5.setTop (mkF m 14 #[.val (.ref a0)] [])) _
          refine XS.iconst X5.here hx rfl (hb hby d3_14) ?_
          show Steps p.tables e below (T5.setTop (mkF m 15 #[.val (.ref a0)] [(.int (1 : Int32))])) _
          refine XS.goto X5.here hx rfl (pc0 := 15) (pc' := 19) rfl (hb hby d3_15) (by decide) (by decide) ?_
          exact kt)
      obtain ⟨fs, hr, hrun, hended, hW, hsame⟩ := X5.leave (v := some (.int (1 : Int32))) (fun h => by rw [Bd.returns] at h; cases h)
      refine ⟨_, _, pre8 _ ?_, hrun, hended, _, _, rfl, ?_, ⟨_, rfl⟩, hW, hsame.mono (by decide) (by decide)⟩
      · show Steps p.tables e below (T5.setTop (mkF m 19 #[.val (.ref a0)] [(.int (1 : Int32))])) _
        exact retN X5 hx (t := .boolean) Bd.returns (by simp) (hb hby d3_19) hr
      · show Q3 Z _ _ _ h0 n0 _ T5.heap _
        rw [e5]
        exact ⟨⟨_, rfl, by simp [hc3, hc7]⟩, N0, rfl⟩
    · skip
      have pre9 : ∀ t, Steps p.tables e below (T5.setTop (mkF m 19 #[.val (.ref a0)] [(.int (0 : Int32))])) t → Steps p.tables e below (s₁.setTop (entryFrame m #[(.ref a0)] 1)) t := fun t kt => pre6 t (by
          show Steps p.tables e below (T5.setTop (mkF m 11 #[.val (.ref a0)] [(.ref w_UNSIGNED32_1), (.ref a0)])) _
          refine Jvm.RoadKit.acmp (g := (mkF m 11 #[.val (.ref a0)] [(.ref w_UNSIGNED32_1), (.ref a0)])) X5 hx rfl rfl rfl (pc0 := 11) (pc' := 18) (same := false) rfl (hb hby d3_11) rfl (decide_eq_false fun q => hc7 (Value.ref.inj q)) (by decide) (by decide) ?_
          show Steps p.tables e below (T5.setTop (mkF m 18 #[.val (.ref a0)] [])) _
          refine XS.iconst X5.here hx rfl (hb hby d3_18) ?_
          exact kt)
      obtain ⟨fs, hr, hrun, hended, hW, hsame⟩ := X5.leave (v := some (.int (0 : Int32))) (fun h => by rw [Bd.returns] at h; cases h)
      refine ⟨_, _, pre9 _ ?_, hrun, hended, _, _, rfl, ?_, ⟨_, rfl⟩, hW, hsame.mono (by decide) (by decide)⟩
      · show Steps p.tables e below (T5.setTop (mkF m 19 #[.val (.ref a0)] [(.int (0 : Int32))])) _
        exact retN X5 hx (t := .boolean) Bd.returns (by simp) (hb hby d3_19) hr
      · show Q3 Z _ _ _ h0 n0 _ T5.heap _
        rw [e5]
        exact ⟨⟨_, rfl, by simp [hc3, hc7]⟩, N0, rfl⟩
theorem pd_0 : parseMethodDescriptor "(I)Lcom/example/oidwright/oidwright/model/BaseType;" = some ⟨[.int], some (.object "com/example/oidwright/oidwright/model/BaseType")⟩ := by decide +kernel
theorem pd_1 : parseMethodDescriptor "()Lcom/example/oidwright/oidwright/model/BaseType;" = some ⟨[], some (.object "com/example/oidwright/oidwright/model/BaseType")⟩ := by decide +kernel
theorem pd_2 : parseMethodDescriptor "(Lcom/example/oidwright/oidwright/model/BaseType;)Z" = some ⟨[(.object "com/example/oidwright/oidwright/model/BaseType")], some .boolean⟩ := by decide +kernel
theorem ef_0 (m : MethodId) (x0 : Int32) (x1 : Int32)  : entryFrame m #[(.int x0), (.int x1)] maxLocals = mkF m 0 #[.val (.int x0), .val (.int x1), .unset, .unset, .unset, .unset, .unset, .unset, .unset, .unset, .unset] [] := by first | (simp [entryFrame, mkF, argsToLocals, Value.category, maxLocals]; done) | rfl
def Q0 (Z : State) (p0 : Int32) (p1 : Int32) (w_INTEGER32_1 : Addr) (w_COUNTER32_3 : Addr) (w_GAUGE32_5 : Addr) (w_UNSIGNED32_7 : Addr) (w_BITS_9 : Addr) (w_OPAQUE_11 : Addr) (w_COUNTER64_13 : Addr) (w_IP_ADDRESS_15 : Addr) (w_NETWORK_ADDRESS_17 : Addr) (w_TIME_TICKS_19 : Addr) (w_OBJECT_IDENTIFIER_21 : Addr) (w_OCTET_STRING_23 : Addr) (h0 : Heap) (n0 : Nat) (v : Option Value) (h : Heap) (L : List Loc) : Prop := v = some (.int (1 : Int32)) ∧ Fr n0 L ∧ h = h0
set_option maxRecDepth 65536 in
set_option maxHeartbeats 40000000 in
theorem rm0 (l : Launch) (Z : State) (aw : Array Value) (hw : ∀ d ∈ tables_1, d.before aw Z = true) (ws : List Jvm.Cond) (p0 : Int32) (p1 : Int32) (w_INTEGER32_1 : Addr) (w_COUNTER32_3 : Addr) (w_GAUGE32_5 : Addr) (w_UNSIGNED32_7 : Addr) (w_BITS_9 : Addr) (w_OPAQUE_11 : Addr) (w_COUNTER64_13 : Addr) (w_IP_ADDRESS_15 : Addr) (w_NETWORK_ADDRESS_17 : Addr) (w_TIME_TICKS_19 : Addr) (w_OBJECT_IDENTIFIER_21 : Addr) (w_OCTET_STRING_23 : Addr) (h0 : Heap) (n0 : Nat) (Z0 : n0 ≤ h0.size) (S_INTEGER32_0 : Sta Z h0 "com/example/oidwright/oidwright/model/BaseType" "INTEGER32" "Lcom/example/oidwright/oidwright/model/BaseType;" (.ref w_INTEGER32_1)) (E_1 : Exa Z h0 w_INTEGER32_1 "com/example/oidwright/oidwright/model/BaseType") (S_COUNTER32_2 : Sta Z h0 "com/example/oidwright/oidwright/model/BaseType" "COUNTER32" "Lcom/example/oidwright/oidwright/model/BaseType;" (.ref w_COUNTER32_3)) (E_3 : Exa Z h0 w_COUNTER32_3 "com/example/oidwright/oidwright/model/BaseType") (S_GAUGE32_4 : Sta Z h0 "com/example/oidwright/oidwright/model/BaseType" "GAUGE32" "Lcom/example/oidwright/oidwright/model/BaseType;" (.ref w_GAUGE32_5)) (E_5 : Exa Z h0 w_GAUGE32_5 "com/example/oidwright/oidwright/model/BaseType") (F_ordinal_6 : Fld Z h0 w_INTEGER32_1 "java/lang/Enum" "ordinal" "I" (.int (0 : Int32))) (F_ordinal_7 : Fld Z h0 w_GAUGE32_5 "java/lang/Enum" "ordinal" "I" (.int (2 : Int32))) (F_ordinal_8 : Fld Z h0 w_COUNTER32_3 "java/lang/Enum" "ordinal" "I" (.int (3 : Int32))) (S_UNSIGNED32_9 : Sta Z h0 "com/example/oidwright/oidwright/model/BaseType" "UNSIGNED32" "Lcom/example/oidwright/oidwright/model/BaseType;" (.ref w_UNSIGNED32_7)) (E_10 : Exa Z h0 w_UNSIGNED32_7 "com/example/oidwright/oidwright/model/BaseType") (F_ordinal_11 : Fld Z h0 w_UNSIGNED32_7 "java/lang/Enum" "ordinal" "I" (.int (1 : Int32))) (S_BITS_12 : Sta Z h0 "com/example/oidwright/oidwright/model/BaseType" "BITS" "Lcom/example/oidwright/oidwright/model/BaseType;" (.ref w_BITS_9)) (E_13 : Exa Z h0 w_BITS_9 "com/example/oidwright/oidwright/model/BaseType") (F_ordinal_14 : Fld Z h0 w_BITS_9 "java/lang/Enum" "ordinal" "I" (.int (11 : Int32))) (S_OPAQUE_15 : Sta Z h0 "com/example/oidwright/oidwright/model/BaseType" "OPAQUE" "Lcom/example/oidwright/oidwright/model/BaseType;" (.ref w_OPAQUE_11)) (E_16 : Exa Z h0 w_OPAQUE_11 "com/example/oidwright/oidwright/model/BaseType") (F_ordinal_17 : Fld Z h0 w_OPAQUE_11 "java/lang/Enum" "ordinal" "I" (.int (8 : Int32))) (S_COUNTER64_18 : Sta Z h0 "com/example/oidwright/oidwright/model/BaseType" "COUNTER64" "Lcom/example/oidwright/oidwright/model/BaseType;" (.ref w_COUNTER64_13)) (E_19 : Exa Z h0 w_COUNTER64_13 "com/example/oidwright/oidwright/model/BaseType") (F_ordinal_20 : Fld Z h0 w_COUNTER64_13 "java/lang/Enum" "ordinal" "I" (.int (4 : Int32))) (S_IP_ADDRESS_21 : Sta Z h0 "com/example/oidwright/oidwright/model/BaseType" "IP_ADDRESS" "Lcom/example/oidwright/oidwright/model/BaseType;" (.ref w_IP_ADDRESS_15)) (E_22 : Exa Z h0 w_IP_ADDRESS_15 "com/example/oidwright/oidwright/model/BaseType") (F_ordinal_23 : Fld Z h0 w_IP_ADDRESS_15 "java/lang/Enum" "ordinal" "I" (.int (6 : Int32))) (S_NETWORK_ADDRESS_24 : Sta Z h0 "com/example/oidwright/oidwright/model/BaseType" "NETWORK_ADDRESS" "Lcom/example/oidwright/oidwright/model/BaseType;" (.ref w_NETWORK_ADDRESS_17)) (E_25 : Exa Z h0 w_NETWORK_ADDRESS_17 "com/example/oidwright/oidwright/model/BaseType") (F_ordinal_26 : Fld Z h0 w_NETWORK_ADDRESS_17 "java/lang/Enum" "ordinal" "I" (.int (7 : Int32))) (S_TIME_TICKS_27 : Sta Z h0 "com/example/oidwright/oidwright/model/BaseType" "TIME_TICKS" "Lcom/example/oidwright/oidwright/model/BaseType;" (.ref w_TIME_TICKS_19)) (E_28 : Exa Z h0 w_TIME_TICKS_19 "com/example/oidwright/oidwright/model/BaseType") (F_ordinal_29 : Fld Z h0 w_TIME_TICKS_19 "java/lang/Enum" "ordinal" "I" (.int (5 : Int32))) (S_OBJECT_IDENTIFIER_30 : Sta Z h0 "com/example/oidwright/oidwright/model/BaseType" "OBJECT_IDENTIFIER" "Lcom/example/oidwright/oidwright/model/BaseType;" (.ref w_OBJECT_IDENTIFIER_21)) (E_31 : Exa Z h0 w_OBJECT_IDENTIFIER_21 "com/example/oidwright/oidwright/model/BaseType") (F_ordinal_32 : Fld Z h0 w_OBJECT_IDENTIFIER_21 "java/lang/Enum" "ordinal" "I" (.int (10 : Int32))) (S_OCTET_STRING_33 : Sta Z h0 "com/example/oidwright/oidwright/model/BaseType" "OCTET_STRING" "Lcom/example/oidwright/oidwright/model/BaseType;" (.ref w_OCTET_STRING_23)) (E_34 : Exa Z h0 w_OCTET_STRING_23 "com/example/oidwright/oidwright/model/BaseType") (F_ordinal_35 : Fld Z h0 w_OCTET_STRING_23 "java/lang/Enum" "ordinal" "I" (.int (9 : Int32))) :
    MetFree l x (head1 (Jvm.Cond.code x code maxLocals ret :: ws) room_1) (fun a U => a = #[(.int p0), (.int p1)] ∧ Z.Warmed39 U.vm ∧ U.heap = h0) (fun _ _ _ _ _ => True) (fun _ U o U' => ∃ v L, o = .returned v ∧ Q0 Z p0 p1 w_INTEGER32_1 w_COUNTER32_3 w_GAUGE32_5 w_UNSIGNED32_7 w_BITS_9 w_OPAQUE_11 w_COUNTER64_13 w_IP_ADDRESS_15 w_NETWORK_ADDRESS_17 w_TIME_TICKS_19 w_OBJECT_IDENTIFIER_21 w_OCTET_STRING_23 h0 n0 v U'.heap L ∧ FrameEnd U o U' L room_1.cells room_1.slots) := by
  refine MetFree.of_bodySF (plainFor_of_name pn_0) hisR ?_
  intro p e s m args below meth c s₁ Bd hml0 hP hK
  obtain ⟨rfl, hZ, hh⟩ := hP
  have hx := Bd.exec
  have hby := Bd.bytes
  have hml : c.maxLocals = 11 := hml0
  have hown : s.vm.findClass "com/example/oidwright/oidwright/model/BaseTypeSentAsPinLaw" = some m.cls := findClass_of_methodNamed Bd.named
  have hnm := (name_of_methodNamed Bd.named Bd.method).1
  have X0 : Stand p l e room_1 s m #[(.int p0), (.int p1)] below meth c s₁ [] 0 0 := Stand.of_body Bd
  have e0 : s₁.heap = h0 := by rw [← hh, Bd.state]; rfl
  have N0 := Fr.nil n0
  have pre0 : ∀ t, Steps p.tables e below (s₁.setTop (mkF m 0 #[.val (.int p0), .val (.int p1), .unset, .unset, .unset, .unset, .unset, .unset, .unset, .unset, .unset] [])) t → Steps p.tables e below (s₁.setTop (entryFrame m #[(.int p0), (.int p1)] maxLocals)) t := fun t k => castTop (ef_0 m p0 p1 ) k
  obtain ⟨_, _, ⟨T1, L1, k1, n1⟩, -, X1, ⟨Lc1, hQ1, l1, y1, z1⟩, st1⟩ := Jvm.LawKit.callS X0 hx (y := (⟨"com/example/oidwright/oidwright/model/BaseTypeSentAsPinLaw", "pick", "(I)Lcom/example/oidwright/oidwright/model/BaseType;"⟩ : MethodName)) hown (mvT hZ (hw _ (List.mem_of_getElem? (i := 0) rfl))) (mvT hZ (hw _ (List.mem_of_getElem? (i := 1) rfl))) (mvT hZ (hw _ (List.mem_of_getElem? (i := 2) rfl))) (mvT hZ (hw _ (List.mem_of_getElem? (i := 3) rfl))) (by decide) (backOf (W := 0) (rm1 l Z aw hw [] p0 w_INTEGER32_1 w_UNSIGNED32_7 w_GAUGE32_5 w_COUNTER32_3 w_COUNTER64_13 w_TIME_TICKS_19 w_IP_ADDRESS_15 w_NETWORK_ADDRESS_17 w_OPAQUE_11 w_OCTET_STRING_23 w_OBJECT_IDENTIFIER_21 w_BITS_9 h0 n0 Z0 S_INTEGER32_0 E_1 S_UNSIGNED32_9 E_10 S_GAUGE32_4 E_5 S_COUNTER32_2 E_3 S_COUNTER64_18 E_19 S_TIME_TICKS_27 E_28 S_IP_ADDRESS_21 E_22 S_NETWORK_ADDRESS_24 E_25 S_OPAQUE_15 E_16 S_OCTET_STRING_33 E_34 S_OBJECT_IDENTIFIER_30 E_31 S_BITS_12 E_13) hZ (hw _ (List.mem_of_getElem? (i := 3) rfl)) (hw _ (List.mem_of_getElem? (i := 2) rfl)) (by decide) (by decide)) (g := (mkF m 1 #[.val (.int p0), .val (.int p1), .unset, .unset, .unset, .unset, .unset, .unset, .unset, .unset, .unset] [(.int p0)])) rfl (by rw [hml]; rfl) (argsL := [(.int p0)]) (rest := []) (lenOf pd_0 rfl) rfl (by show 2 * 0 + _ ≤ _; exact Nat.le_of_eq rfl) (hb hby at_1) (fun _ _ => ⟨rfl, e0, (by decide : 0 + 0 ≤ _), (by decide : 0 + 0 ≤ _)⟩)
  dsimp only [Pt.U, Pt.locs, Pt.cells, Pt.slots] at X1 l1 y1 z1 st1 hQ1
  subst l1 y1 z1
  obtain ⟨⟨r2, rfl, Pr2⟩, Nq1, e1⟩ := hQ1
  have N1 := Fr.app N0 Nq1
  obtain ⟨_, _, ⟨T3, L3, k3, n3⟩, -, X3, ⟨Lc3, hQ3, l3, y3, z3⟩, st3⟩ := Jvm.LawKit.callS X1 hx (y := (⟨"com/example/oidwright/oidwright/model/BaseTypeSentAsPinLaw", "pick", "(I)Lcom/example/oidwright/oidwright/model/BaseType;"⟩ : MethodName)) hown (mvT hZ (hw _ (List.mem_of_getElem? (i := 0) rfl))) (mvT hZ (hw _ (List.mem_of_getElem? (i := 1) rfl))) (mvT hZ (hw _ (List.mem_of_getElem? (i := 2) rfl))) (mvT hZ (hw _ (List.mem_of_getElem? (i := 3) rfl))) (by decide) (backOf (W := 0) (rm1 l Z aw hw [] p1 w_INTEGER32_1 w_UNSIGNED32_7 w_GAUGE32_5 w_COUNTER32_3 w_COUNTER64_13 w_TIME_TICKS_19 w_IP_ADDRESS_15 w_NETWORK_ADDRESS_17 w_OPAQUE_11 w_OCTET_STRING_23 w_OBJECT_IDENTIFIER_21 w_BITS_9 h0 n0 Z0 S_INTEGER32_0 E_1 S_UNSIGNED32_9 E_10 S_GAUGE32_4 E_5 S_COUNTER32_2 E_3 S_COUNTER64_18 E_19 S_TIME_TICKS_27 E_28 S_IP_ADDRESS_21 E_22 S_NETWORK_ADDRESS_24 E_25 S_OPAQUE_15 E_16 S_OCTET_STRING_33 E_34 S_OBJECT_IDENTIFIER_30 E_31 S_BITS_12 E_13) hZ (hw _ (List.mem_of_getElem? (i := 3) rfl)) (hw _ (List.mem_of_getElem? (i := 2) rfl)) (by decide) (by decide)) (g := (mkF m 6 #[.val (.int p0), .val (.int p1), .val (.ref r2), .unset, .unset, .unset, .unset, .unset, .unset, .unset, .unset] [(.int p1)])) rfl (by rw [hml]; rfl) (argsL := [(.int p1)]) (rest := []) (lenOf pd_0 rfl) rfl (by show 2 * 0 + _ ≤ _; exact Nat.le_of_eq rfl) (hb hby at_6) (fun _ _ => ⟨rfl, e1, (by decide : 0 + 0 ≤ _), (by decide : 0 + 0 ≤ _)⟩)
  dsimp only [Pt.U, Pt.locs, Pt.cells, Pt.slots] at X3 l3 y3 z3 st3 hQ3
  subst l3 y3 z3
  obtain ⟨⟨r4, rfl, Pr4⟩, Nq3, e3⟩ := hQ3
  have N3 := Fr.app N1 Nq3
  obtain ⟨cq5, kq5, q5a, q5b, q5c⟩ := isOf hZ e3 Pr2
  obtain ⟨_, _, ⟨T5, L5, k5, n5⟩, -, X5, ⟨Lc5, hQ5, l5, y5, z5⟩, st5⟩ := X3.virtualBack hx (y := (⟨"com/example/oidwright/oidwright/model/BaseType", "sentAs", "()Lcom/example/oidwright/oidwright/model/BaseType;"⟩ : MethodName)) (z := (⟨"com/example/oidwright/oidwright/model/BaseType", "sentAs", "()Lcom/example/oidwright/oidwright/model/BaseType;"⟩ : MethodName)) hown (mvT hZ (hw _ (List.mem_of_getElem? (i := 10) rfl))) (mvT hZ (hw _ (List.mem_of_getElem? (i := 11) rfl))) (notFace_of_selects (args := #[]) (mvT hZ (hw _ (List.mem_of_getElem? (i := 13) rfl)))) (mvT hZ (hw _ (List.mem_of_getElem? (i := 13) rfl))) (mvT hZ (hw _ (List.mem_of_getElem? (i := 12) rfl))) (by decide) (backOf (W := 0) (rm2 l Z aw hw [] r2 w_GAUGE32_5 w_UNSIGNED32_7 h0 n0 Z0 S_GAUGE32_4 S_UNSIGNED32_9) hZ (hw _ (List.mem_of_getElem? (i := 14) rfl)) (hw _ (List.mem_of_getElem? (i := 6) rfl)) (by decide) (by decide)) q5a q5c (g := (mkF m 11 #[.val (.int p0), .val (.int p1), .val (.ref r2), .val (.ref r4), .unset, .unset, .unset, .unset, .unset, .unset, .unset] [(.ref r2)])) rfl (by rw [hml]; rfl) (Steps.refl _) (argsL := []) (rest := []) (lenOf pd_1 rfl) rfl (by show 2 * 0 + _ ≤ _; exact Nat.le_of_eq rfl) (hb hby at_11) (fun _ _ => ⟨rfl, e3, (by decide : 0 + 0 ≤ _), (by decide : 0 + 0 ≤ _)⟩)
  dsimp only [Pt.U, Pt.locs, Pt.cells, Pt.slots] at X5 l5 y5 z5 st5 hQ5
  subst l5 y5 z5
  obtain ⟨⟨r6, rfl, Pr6⟩, Nq5, e5⟩ := hQ5
  have N5 := Fr.app N3 Nq5
  have pre7 : ∀ t, Steps p.tables e below (T5.setTop (mkF m 14 #[.val (.int p0), .val (.int p1), .val (.ref r2), .val (.ref r4), .unset, .unset, .unset, .unset, .unset, .unset, .unset] [(.ref r6)])) t → Steps p.tables e below (s₁.setTop (entryFrame m #[(.int p0), (.int p1)] maxLocals)) t := fun t kt => pre0 t (by
      show Steps p.tables e below (s₁.setTop (mkF m 0 #[.val (.int p0), .val (.int p1), .unset, .unset, .unset, .unset, .unset, .unset, .unset, .unset, .unset] [])) _
      refine XS.iloadN X0.here hx rfl (hb hby at_0) rfl ?_
      show Steps p.tables e below (s₁.setTop (mkF m 1 #[.val (.int p0), .val (.int p1), .unset, .unset, .unset, .unset, .unset, .unset, .unset, .unset, .unset] [(.int p0)])) _
      refine st1 _ ?_
      show Steps p.tables e below (T1.setTop (mkF m 4 #[.val (.int p0), .val (.int p1), .unset, .unset, .unset, .unset, .unset, .unset, .unset, .unset, .unset] [(.ref r2)])) _
      refine XS.astoreN X1.here hx rfl (hb hby at_4) rfl rfl (l' := #[.val (.int p0), .val (.int p1), .val (.ref r2), .unset, .unset, .unset, .unset, .unset, .unset, .unset, .unset]) rfl ?_
      show Steps p.tables e below (T1.setTop (mkF m 5 #[.val (.int p0), .val (.int p1), .val (.ref r2), .unset, .unset, .unset, .unset, .unset, .unset, .unset, .unset] [])) _
      refine XS.iloadN X1.here hx rfl (hb hby at_5) rfl ?_
      show Steps p.tables e below (T1.setTop (mkF m 6 #[.val (.int p0), .val (.int p1), .val (.ref r2), .unset, .unset, .unset, .unset, .unset, .unset, .unset, .unset] [(.int p1)])) _
      refine st3 _ ?_
      show Steps p.tables e below (T3.setTop (mkF m 9 #[.val (.int p0), .val (.int p1), .val (.ref r2), .unset, .unset, .unset, .unset, .unset, .unset, .unset, .unset] [(.ref r4)])) _
      refine XS.astoreN X3.here hx rfl (hb hby at_9) rfl rfl (l' := #[.val (.int p0), .val (.int p1), .val (.ref r2), .val (.ref r4), .unset, .unset, .unset, .unset, .unset, .unset, .unset]) rfl ?_
      show Steps p.tables e below (T3.setTop (mkF m 10 #[.val (.int p0), .val (.int p1), .val (.ref r2), .val (.ref r4), .unset, .unset, .unset, .unset, .unset, .unset, .unset] [])) _
      refine XS.aloadN X3.here hx rfl (hb hby at_10) rfl rfl ?_
      show Steps p.tables e below (T3.setTop (mkF m 11 #[.val (.int p0), .val (.int p1), .val (.ref r2), .val (.ref r4), .unset, .unset, .unset, .unset, .unset, .unset, .unset] [(.ref r2)])) _
      refine st5.trans ?_
      exact kt)
  by_cases hs8 : r2 = w_GAUGE32_5
  · skip
    obtain rfl : w_GAUGE32_5 = r2 := hs8.symm
    obtain rfl : w_UNSIGNED32_7 = r6 := Pr6.1 rfl
    obtain ⟨cq9, kq9, q9a, q9b, q9c⟩ := isOf hZ e5 Pr4
    obtain ⟨_, _, ⟨T9, L9, k9, n9⟩, -, X9, ⟨Lc9, hQ9, l9, y9, z9⟩, st9⟩ := X5.virtualBack hx (y := (⟨"com/example/oidwright/oidwright/model/BaseType", "sentAs", "()Lcom/example/oidwright/oidwright/model/BaseType;"⟩ : MethodName)) (z := (⟨"com/example/oidwright/oidwright/model/BaseType", "sentAs", "()Lcom/example/oidwright/oidwright/model/BaseType;"⟩ : MethodName)) hown (mvT hZ (hw _ (List.mem_of_getElem? (i := 10) rfl))) (mvT hZ (hw _ (List.mem_of_getElem? (i := 11) rfl))) (notFace_of_selects (args := #[]) (mvT hZ (hw _ (List.mem_of_getElem? (i := 13) rfl)))) (mvT hZ (hw _ (List.mem_of_getElem? (i := 13) rfl))) (mvT hZ (hw _ (List.mem_of_getElem? (i := 12) rfl))) (by decide) (backOf (W := 0) (rm2 l Z aw hw [] r4 w_GAUGE32_5 w_UNSIGNED32_7 h0 n0 Z0 S_GAUGE32_4 S_UNSIGNED32_9) hZ (hw _ (List.mem_of_getElem? (i := 14) rfl)) (hw _ (List.mem_of_getElem? (i := 6) rfl)) (by decide) (by decide)) q9a q9c (g := (mkF m 17 #[.val (.int p0), .val (.int p1), .val (.ref w_GAUGE32_5), .val (.ref r4), .val (.ref w_UNSIGNED32_7), .unset, .unset, .unset, .unset, .unset, .unset] [(.ref r4)])) rfl (by rw [hml]; rfl) (Steps.refl _) (argsL := []) (rest := []) (lenOf pd_1 rfl) rfl (by show 2 * 0 + _ ≤ _; exact Nat.le_of_eq rfl) (hb hby at_17) (fun _ _ => ⟨rfl, e5, (by decide : 0 + 0 ≤ _), (by decide : 0 + 0 ≤ _)⟩)
    dsimp only [Pt.U, Pt.locs, Pt.cells, Pt.slots] at X9 l9 y9 z9 st9 hQ9
    subst l9 y9 z9
    obtain ⟨⟨r10, rfl, Pr10⟩, Nq9, e9⟩ := hQ9
    have N9 := Fr.app N5 Nq9
    have pre11 : ∀ t, Steps p.tables e below (T9.setTop (mkF m 20 #[.val (.int p0), .val (.int p1), .val (.ref w_GAUGE32_5), .val (.ref r4), .val (.ref w_UNSIGNED32_7), .unset, .unset, .unset, .unset, .unset, .unset] [(.ref r10)])) t → Steps p.tables e below (s₁.setTop (entryFrame m #[(.int p0), (.int p1)] maxLocals)) t := fun t kt => pre7 t (by
        show Steps p.tables e below (T5.setTop (mkF m 14 #[.val (.int p0), .val (.int p1), .val (.ref w_GAUGE32_5), .val (.ref r4), .unset, .unset, .unset, .unset, .unset, .unset, .unset] [(.ref w_UNSIGNED32_7)])) _
        refine XS.astore X5.here hx rfl (hb hby at_14) rfl rfl (l' := #[.val (.int p0), .val (.int p1), .val (.ref w_GAUGE32_5), .val (.ref r4), .val (.ref w_UNSIGNED32_7), .unset, .unset, .unset, .unset, .unset, .unset]) rfl ?_
        show Steps p.tables e below (T5.setTop (mkF m 16 #[.val (.int p0), .val (.int p1), .val (.ref w_GAUGE32_5), .val (.ref r4), .val (.ref w_UNSIGNED32_7), .unset, .unset, .unset, .unset, .unset, .unset] [])) _
        refine XS.aloadN X5.here hx rfl (hb hby at_16) rfl rfl ?_
        show Steps p.tables e below (T5.setTop (mkF m 17 #[.val (.int p0), .val (.int p1), .val (.ref w_GAUGE32_5), .val (.ref r4), .val (.ref w_UNSIGNED32_7), .unset, .unset, .unset, .unset, .unset, .unset] [(.ref r4)])) _
        refine st9.trans ?_
        exact kt)
    by_cases hs12 : r4 = w_GAUGE32_5
    · skip
      obtain rfl : w_GAUGE32_5 = r4 := hs12.symm
      obtain rfl : w_UNSIGNED32_7 = r10 := Pr10.1 rfl
      obtain ⟨T13, X13, e13, st13⟩ := getS2 X9 hx hZ hown (host := "") (Or.inl (hw _ (List.mem_of_getElem? (i := 17) rfl))) Via.refl e9 S_GAUGE32_4 (g := (mkF m 35 #[.val (.int p0), .val (.int p1), .val (.ref w_GAUGE32_5), .val (.ref w_GAUGE32_5), .val (.ref w_UNSIGNED32_7), .val (.ref w_UNSIGNED32_7), .unset, .unset, .unset, .unset, .unset] [(.ref w_GAUGE32_5)])) rfl (hb hby at_35)
      obtain ⟨T14, X14, e14, st14⟩ := getS2 X13 hx hZ hown (host := "") (Or.inl (hw _ (List.mem_of_getElem? (i := 21) rfl))) Via.refl e13 S_UNSIGNED32_9 (g := (mkF m 43 #[.val (.int p0), .val (.int p1), .val (.ref w_GAUGE32_5), .val (.ref w_GAUGE32_5), .val (.ref w_UNSIGNED32_7), .val (.ref w_UNSIGNED32_7), .unset, .unset, .unset, .unset, .unset] [(.ref w_UNSIGNED32_7)])) rfl (hb hby at_43)
      obtain ⟨cq15, kq15, q15a, q15b, q15c⟩ := isOf hZ e14 E_10
      obtain ⟨_, _, ⟨T15, L15, k15, n15⟩, -, X15, ⟨Lc15, hQ15, l15, y15, z15⟩, st15⟩ := X14.virtualBack hx (y := (⟨"com/example/oidwright/oidwright/model/BaseType", "sentAs", "()Lcom/example/oidwright/oidwright/model/BaseType;"⟩ : MethodName)) (z := (⟨"com/example/oidwright/oidwright/model/BaseType", "sentAs", "()Lcom/example/oidwright/oidwright/model/BaseType;"⟩ : MethodName)) hown (mvT hZ (hw _ (List.mem_of_getElem? (i := 10) rfl))) (mvT hZ (hw _ (List.mem_of_getElem? (i := 11) rfl))) (notFace_of_selects (args := #[]) (mvT hZ (hw _ (List.mem_of_getElem? (i := 13) rfl)))) (mvT hZ (hw _ (List.mem_of_getElem? (i := 13) rfl))) (mvT hZ (hw _ (List.mem_of_getElem? (i := 12) rfl))) (by decide) (backOf (W := 0) (rm2 l Z aw hw [] w_UNSIGNED32_7 w_GAUGE32_5 w_UNSIGNED32_7 h0 n0 Z0 S_GAUGE32_4 S_UNSIGNED32_9) hZ (hw _ (List.mem_of_getElem? (i := 14) rfl)) (hw _ (List.mem_of_getElem? (i := 6) rfl)) (by decide) (by decide)) q15a q15c (g := (mkF m 122 #[.val (.int p0), .val (.int p1), .val (.ref w_GAUGE32_5), .val (.ref w_GAUGE32_5), .val (.ref w_UNSIGNED32_7), .val (.ref w_UNSIGNED32_7), .val (.int (1 : Int32)), .val (.int (1 : Int32)), .val (.int (1 : Int32)), .unset, .unset] [(.ref w_UNSIGNED32_7)])) rfl (by rw [hml]; rfl) (Steps.refl _) (argsL := []) (rest := []) (lenOf pd_1 rfl) rfl (by show 2 * 0 + _ ≤ _; exact Nat.le_of_eq rfl) (hb hby at_122) (fun _ _ => ⟨rfl, e14, (by decide : 0 + 0 ≤ _), (by decide : 0 + 0 ≤ _)⟩)
      dsimp only [Pt.U, Pt.locs, Pt.cells, Pt.slots] at X15 l15 y15 z15 st15 hQ15
      subst l15 y15 z15
      obtain ⟨⟨r16, rfl, Pr16⟩, Nq15, e15⟩ := hQ15
      have N15 := Fr.app N9 Nq15
      have pre17 : ∀ t, Steps p.tables e below (T15.setTop (mkF m 125 #[.val (.int p0), .val (.int p1), .val (.ref w_GAUGE32_5), .val (.ref w_GAUGE32_5), .val (.ref w_UNSIGNED32_7), .val (.ref w_UNSIGNED32_7), .val (.int (1 : Int32)), .val (.int (1 : Int32)), .val (.int (1 : Int32)), .unset, .unset] [(.ref r16)])) t → Steps p.tables e below (s₁.setTop (entryFrame m #[(.int p0), (.int p1)] maxLocals)) t := fun t kt => pre11 t (by
          show Steps p.tables e below (T9.setTop (mkF m 20 #[.val (.int p0), .val (.int p1), .val (.ref w_GAUGE32_5), .val (.ref w_GAUGE32_5), .val (.ref w_UNSIGNED32_7), .unset, .unset, .unset, .unset, .unset, .unset] [(.ref w_UNSIGNED32_7)])) _
          refine XS.astore X9.here hx rfl (hb hby at_20) rfl rfl (l' := #[.val (.int p0), .val (.int p1), .val (.ref w_GAUGE32_5), .val (.ref w_GAUGE32_5), .val (.ref w_UNSIGNED32_7), .val (.ref w_UNSIGNED32_7), .unset, .unset, .unset, .unset, .unset]) rfl ?_
          show Steps p.tables e below (T9.setTop (mkF m 22 #[.val (.int p0), .val (.int p1), .val (.ref w_GAUGE32_5), .val (.ref w_GAUGE32_5), .val (.ref w_UNSIGNED32_7), .val (.ref w_UNSIGNED32_7), .unset, .unset, .unset, .unset, .unset] [])) _
          refine XS.aload X9.here hx rfl (hb hby at_22) rfl rfl ?_
          show Steps p.tables e below (T9.setTop (mkF m 24 #[.val (.int p0), .val (.int p1), .val (.ref w_GAUGE32_5), .val (.ref w_GAUGE32_5), .val (.ref w_UNSIGNED32_7), .val (.ref w_UNSIGNED32_7), .unset, .unset, .unset, .unset, .unset] [(.ref w_UNSIGNED32_7)])) _
          refine XS.ifnullNo X9.here hx rfl (hb hby at_24) rfl ?_
          show Steps p.tables e below (T9.setTop (mkF m 27 #[.val (.int p0), .val (.int p1), .val (.ref w_GAUGE32_5), .val (.ref w_GAUGE32_5), .val (.ref w_UNSIGNED32_7), .val (.ref w_UNSIGNED32_7), .unset, .unset, .unset, .unset, .unset] [])) _
          refine XS.aload X9.here hx rfl (hb hby at_27) rfl rfl ?_
          show Steps p.tables e below (T9.setTop (mkF m 29 #[.val (.int p0), .val (.int p1), .val (.ref w_GAUGE32_5), .val (.ref w_GAUGE32_5), .val (.ref w_UNSIGNED32_7), .val (.ref w_UNSIGNED32_7), .unset, .unset, .unset, .unset, .unset] [(.ref w_UNSIGNED32_7)])) _
          refine XS.ifnonnullYes X9.here hx rfl (pc0 := 29) (pc' := 34) rfl (hb hby at_29) rfl (by decide) (by decide) ?_
          show Steps p.tables e below (T9.setTop (mkF m 34 #[.val (.int p0), .val (.int p1), .val (.ref w_GAUGE32_5), .val (.ref w_GAUGE32_5), .val (.ref w_UNSIGNED32_7), .val (.ref w_UNSIGNED32_7), .unset, .unset, .unset, .unset, .unset] [])) _
          refine XS.aloadN X9.here hx rfl (hb hby at_34) rfl rfl ?_
          show Steps p.tables e below (T9.setTop (mkF m 35 #[.val (.int p0), .val (.int p1), .val (.ref w_GAUGE32_5), .val (.ref w_GAUGE32_5), .val (.ref w_UNSIGNED32_7), .val (.ref w_UNSIGNED32_7), .unset, .unset, .unset, .unset, .unset] [(.ref w_GAUGE32_5)])) _
          refine st13 _ ?_
          show Steps p.tables e below (T13.setTop (mkF m 38 #[.val (.int p0), .val (.int p1), .val (.ref w_GAUGE32_5), .val (.ref w_GAUGE32_5), .val (.ref w_UNSIGNED32_7), .val (.ref w_UNSIGNED32_7), .unset, .unset, .unset, .unset, .unset] [(.ref w_GAUGE32_5), (.ref w_GAUGE32_5)])) _
          refine Jvm.RoadKit.acmp (g := (mkF m 38 #[.val (.int p0), .val (.int p1), .val (.ref w_GAUGE32_5), .val (.ref w_GAUGE32_5), .val (.ref w_UNSIGNED32_7), .val (.ref w_UNSIGNED32_7), .unset, .unset, .unset, .unset, .unset] [(.ref w_GAUGE32_5), (.ref w_GAUGE32_5)])) X13 hx rfl rfl rfl (pc0 := 38) (pc' := 41) (same := true) rfl (hb hby at_38) rfl (decide_eq_true rfl) (by decide) (by decide) ?_
          show Steps p.tables e below (T13.setTop (mkF m 41 #[.val (.int p0), .val (.int p1), .val (.ref w_GAUGE32_5), .val (.ref w_GAUGE32_5), .val (.ref w_UNSIGNED32_7), .val (.ref w_UNSIGNED32_7), .unset, .unset, .unset, .unset, .unset] [])) _
          refine XS.aload X13.here hx rfl (hb hby at_41) rfl rfl ?_
          show Steps p.tables e below (T13.setTop (mkF m 43 #[.val (.int p0), .val (.int p1), .val (.ref w_GAUGE32_5), .val (.ref w_GAUGE32_5), .val (.ref w_UNSIGNED32_7), .val (.ref w_UNSIGNED32_7), .unset, .unset, .unset, .unset, .unset] [(.ref w_UNSIGNED32_7)])) _
          refine st14 _ ?_
          show Steps p.tables e below (T14.setTop (mkF m 46 #[.val (.int p0), .val (.int p1), .val (.ref w_GAUGE32_5), .val (.ref w_GAUGE32_5), .val (.ref w_UNSIGNED32_7), .val (.ref w_UNSIGNED32_7), .unset, .unset, .unset, .unset, .unset] [(.ref w_UNSIGNED32_7), (.ref w_UNSIGNED32_7)])) _
          refine Jvm.RoadKit.acmp (g := (mkF m 46 #[.val (.int p0), .val (.int p1), .val (.ref w_GAUGE32_5), .val (.ref w_GAUGE32_5), .val (.ref w_UNSIGNED32_7), .val (.ref w_UNSIGNED32_7), .unset, .unset, .unset, .unset, .unset] [(.ref w_UNSIGNED32_7), (.ref w_UNSIGNED32_7)])) X14 hx rfl rfl rfl (pc0 := 46) (pc' := 49) (same := true) rfl (hb hby at_46) rfl (decide_eq_true rfl) (by decide) (by decide) ?_
          show Steps p.tables e below (T14.setTop (mkF m 49 #[.val (.int p0), .val (.int p1), .val (.ref w_GAUGE32_5), .val (.ref w_GAUGE32_5), .val (.ref w_UNSIGNED32_7), .val (.ref w_UNSIGNED32_7), .unset, .unset, .unset, .unset, .unset] [])) _
          refine XS.iconst X14.here hx rfl (hb hby at_49) ?_
          show Steps p.tables e below (T14.setTop (mkF m 50 #[.val (.int p0), .val (.int p1), .val (.ref w_GAUGE32_5), .val (.ref w_GAUGE32_5), .val (.ref w_UNSIGNED32_7), .val (.ref w_UNSIGNED32_7), .unset, .unset, .unset, .unset, .unset] [(.int (1 : Int32))])) _
          refine XS.goto X14.here hx rfl (pc0 := 50) (pc' := 68) rfl (hb hby at_50) (by decide) (by decide) ?_
          show Steps p.tables e below (T14.setTop (mkF m 68 #[.val (.int p0), .val (.int p1), .val (.ref w_GAUGE32_5), .val (.ref w_GAUGE32_5), .val (.ref w_UNSIGNED32_7), .val (.ref w_UNSIGNED32_7), .unset, .unset, .unset, .unset, .unset] [(.int (1 : Int32))])) _
          refine XS.istore X14.here hx rfl (hb hby at_68) rfl (l' := #[.val (.int p0), .val (.int p1), .val (.ref w_GAUGE32_5), .val (.ref w_GAUGE32_5), .val (.ref w_UNSIGNED32_7), .val (.ref w_UNSIGNED32_7), .val (.int (1 : Int32)), .unset, .unset, .unset, .unset]) rfl ?_
          show Steps p.tables e below (T14.setTop (mkF m 70 #[.val (.int p0), .val (.int p1), .val (.ref w_GAUGE32_5), .val (.ref w_GAUGE32_5), .val (.ref w_UNSIGNED32_7), .val (.ref w_UNSIGNED32_7), .val (.int (1 : Int32)), .unset, .unset, .unset, .unset] [])) _
          refine XS.aloadN X14.here hx rfl (hb hby at_70) rfl rfl ?_
          show Steps p.tables e below (T14.setTop (mkF m 71 #[.val (.int p0), .val (.int p1), .val (.ref w_GAUGE32_5), .val (.ref w_GAUGE32_5), .val (.ref w_UNSIGNED32_7), .val (.ref w_UNSIGNED32_7), .val (.int (1 : Int32)), .unset, .unset, .unset, .unset] [(.ref w_GAUGE32_5)])) _
          refine XS.aloadN X14.here hx rfl (hb hby at_71) rfl rfl ?_
          show Steps p.tables e below (T14.setTop (mkF m 72 #[.val (.int p0), .val (.int p1), .val (.ref w_GAUGE32_5), .val (.ref w_GAUGE32_5), .val (.ref w_UNSIGNED32_7), .val (.ref w_UNSIGNED32_7), .val (.int (1 : Int32)), .unset, .unset, .unset, .unset] [(.ref w_GAUGE32_5), (.ref w_GAUGE32_5)])) _
          refine Jvm.RoadKit.acmp (g := (mkF m 72 #[.val (.int p0), .val (.int p1), .val (.ref w_GAUGE32_5), .val (.ref w_GAUGE32_5), .val (.ref w_UNSIGNED32_7), .val (.ref w_UNSIGNED32_7), .val (.int (1 : Int32)), .unset, .unset, .unset, .unset] [(.ref w_GAUGE32_5), (.ref w_GAUGE32_5)])) X14 hx rfl rfl rfl (pc0 := 72) (pc' := 89) (same := true) rfl (hb hby at_72) rfl (decide_eq_true rfl) (by decide) (by decide) ?_
          show Steps p.tables e below (T14.setTop (mkF m 89 #[.val (.int p0), .val (.int p1), .val (.ref w_GAUGE32_5), .val (.ref w_GAUGE32_5), .val (.ref w_UNSIGNED32_7), .val (.ref w_UNSIGNED32_7), .val (.int (1 : Int32)), .unset, .unset, .unset, .unset] [])) _
          refine XS.iconst X14.here hx rfl (hb hby at_89) ?_
          show Steps p.tables e below (T14.setTop (mkF m 90 #[.val (.int p0), .val (.int p1), .val (.ref w_GAUGE32_5), .val (.ref w_GAUGE32_5), .val (.ref w_UNSIGNED32_7), .val (.ref w_UNSIGNED32_7), .val (.int (1 : Int32)), .unset, .unset, .unset, .unset] [(.int (1 : Int32))])) _
          refine XS.goto X14.here hx rfl (pc0 := 90) (pc' := 94) rfl (hb hby at_90) (by decide) (by decide) ?_
          show Steps p.tables e below (T14.setTop (mkF m 94 #[.val (.int p0), .val (.int p1), .val (.ref w_GAUGE32_5), .val (.ref w_GAUGE32_5), .val (.ref w_UNSIGNED32_7), .val (.ref w_UNSIGNED32_7), .val (.int (1 : Int32)), .unset, .unset, .unset, .unset] [(.int (1 : Int32))])) _
          refine XS.istore X14.here hx rfl (hb hby at_94) rfl (l' := #[.val (.int p0), .val (.int p1), .val (.ref w_GAUGE32_5), .val (.ref w_GAUGE32_5), .val (.ref w_UNSIGNED32_7), .val (.ref w_UNSIGNED32_7), .val (.int (1 : Int32)), .val (.int (1 : Int32)), .unset, .unset, .unset]) rfl ?_
          show Steps p.tables e below (T14.setTop (mkF m 96 #[.val (.int p0), .val (.int p1), .val (.ref w_GAUGE32_5), .val (.ref w_GAUGE32_5), .val (.ref w_UNSIGNED32_7), .val (.ref w_UNSIGNED32_7), .val (.int (1 : Int32)), .val (.int (1 : Int32)), .unset, .unset, .unset] [])) _
          refine XS.aload X14.here hx rfl (hb hby at_96) rfl rfl ?_
          show Steps p.tables e below (T14.setTop (mkF m 98 #[.val (.int p0), .val (.int p1), .val (.ref w_GAUGE32_5), .val (.ref w_GAUGE32_5), .val (.ref w_UNSIGNED32_7), .val (.ref w_UNSIGNED32_7), .val (.int (1 : Int32)), .val (.int (1 : Int32)), .unset, .unset, .unset] [(.ref w_UNSIGNED32_7)])) _
          refine XS.aload X14.here hx rfl (hb hby at_98) rfl rfl ?_
          show Steps p.tables e below (T14.setTop (mkF m 100 #[.val (.int p0), .val (.int p1), .val (.ref w_GAUGE32_5), .val (.ref w_GAUGE32_5), .val (.ref w_UNSIGNED32_7), .val (.ref w_UNSIGNED32_7), .val (.int (1 : Int32)), .val (.int (1 : Int32)), .unset, .unset, .unset] [(.ref w_UNSIGNED32_7), (.ref w_UNSIGNED32_7)])) _
          refine Jvm.RoadKit.acmp (g := (mkF m 100 #[.val (.int p0), .val (.int p1), .val (.ref w_GAUGE32_5), .val (.ref w_GAUGE32_5), .val (.ref w_UNSIGNED32_7), .val (.ref w_UNSIGNED32_7), .val (.int (1 : Int32)), .val (.int (1 : Int32)), .unset, .unset, .unset] [(.ref w_UNSIGNED32_7), (.ref w_UNSIGNED32_7)])) X14 hx rfl rfl rfl (pc0 := 100) (pc' := 103) (same := true) rfl (hb hby at_100) rfl (decide_eq_true rfl) (by decide) (by decide) ?_
          show Steps p.tables e below (T14.setTop (mkF m 103 #[.val (.int p0), .val (.int p1), .val (.ref w_GAUGE32_5), .val (.ref w_GAUGE32_5), .val (.ref w_UNSIGNED32_7), .val (.ref w_UNSIGNED32_7), .val (.int (1 : Int32)), .val (.int (1 : Int32)), .unset, .unset, .unset] [])) _
          refine XS.iconst X14.here hx rfl (hb hby at_103) ?_
          show Steps p.tables e below (T14.setTop (mkF m 104 #[.val (.int p0), .val (.int p1), .val (.ref w_GAUGE32_5), .val (.ref w_GAUGE32_5), .val (.ref w_UNSIGNED32_7), .val (.ref w_UNSIGNED32_7), .val (.int (1 : Int32)), .val (.int (1 : Int32)), .unset, .unset, .unset] [(.int (1 : Int32))])) _
          refine XS.goto X14.here hx rfl (pc0 := 104) (pc' := 108) rfl (hb hby at_104) (by decide) (by decide) ?_
          show Steps p.tables e below (T14.setTop (mkF m 108 #[.val (.int p0), .val (.int p1), .val (.ref w_GAUGE32_5), .val (.ref w_GAUGE32_5), .val (.ref w_UNSIGNED32_7), .val (.ref w_UNSIGNED32_7), .val (.int (1 : Int32)), .val (.int (1 : Int32)), .unset, .unset, .unset] [(.int (1 : Int32))])) _
          refine XS.iload X14.here hx rfl (hb hby at_108) rfl ?_
          show Steps p.tables e below (T14.setTop (mkF m 110 #[.val (.int p0), .val (.int p1), .val (.ref w_GAUGE32_5), .val (.ref w_GAUGE32_5), .val (.ref w_UNSIGNED32_7), .val (.ref w_UNSIGNED32_7), .val (.int (1 : Int32)), .val (.int (1 : Int32)), .unset, .unset, .unset] [(.int (1 : Int32)), (.int (1 : Int32))])) _
          refine XS.icmpNo X14.here hx rfl (hb hby at_110) rfl (teq (rfl : (1 : Int32) = (1 : Int32))).2 ?_
          show Steps p.tables e below (T14.setTop (mkF m 113 #[.val (.int p0), .val (.int p1), .val (.ref w_GAUGE32_5), .val (.ref w_GAUGE32_5), .val (.ref w_UNSIGNED32_7), .val (.ref w_UNSIGNED32_7), .val (.int (1 : Int32)), .val (.int (1 : Int32)), .unset, .unset, .unset] [])) _
          refine XS.iconst X14.here hx rfl (hb hby at_113) ?_
          show Steps p.tables e below (T14.setTop (mkF m 114 #[.val (.int p0), .val (.int p1), .val (.ref w_GAUGE32_5), .val (.ref w_GAUGE32_5), .val (.ref w_UNSIGNED32_7), .val (.ref w_UNSIGNED32_7), .val (.int (1 : Int32)), .val (.int (1 : Int32)), .unset, .unset, .unset] [(.int (1 : Int32))])) _
          refine XS.goto X14.here hx rfl (pc0 := 114) (pc' := 118) rfl (hb hby at_114) (by decide) (by decide) ?_
          show Steps p.tables e below (T14.setTop (mkF m 118 #[.val (.int p0), .val (.int p1), .val (.ref w_GAUGE32_5), .val (.ref w_GAUGE32_5), .val (.ref w_UNSIGNED32_7), .val (.ref w_UNSIGNED32_7), .val (.int (1 : Int32)), .val (.int (1 : Int32)), .unset, .unset, .unset] [(.int (1 : Int32))])) _
          refine XS.istore X14.here hx rfl (hb hby at_118) rfl (l' := #[.val (.int p0), .val (.int p1), .val (.ref w_GAUGE32_5), .val (.ref w_GAUGE32_5), .val (.ref w_UNSIGNED32_7), .val (.ref w_UNSIGNED32_7), .val (.int (1 : Int32)), .val (.int (1 : Int32)), .val (.int (1 : Int32)), .unset, .unset]) rfl ?_
          show Steps p.tables e below (T14.setTop (mkF m 120 #[.val (.int p0), .val (.int p1), .val (.ref w_GAUGE32_5), .val (.ref w_GAUGE32_5), .val (.ref w_UNSIGNED32_7), .val (.ref w_UNSIGNED32_7), .val (.int (1 : Int32)), .val (.int (1 : Int32)), .val (.int (1 : Int32)), .unset, .unset] [])) _
          refine XS.aload X14.here hx rfl (hb hby at_120) rfl rfl ?_
          show Steps p.tables e below (T14.setTop (mkF m 122 #[.val (.int p0), .val (.int p1), .val (.ref w_GAUGE32_5), .val (.ref w_GAUGE32_5), .val (.ref w_UNSIGNED32_7), .val (.ref w_UNSIGNED32_7), .val (.int (1 : Int32)), .val (.int (1 : Int32)), .val (.int (1 : Int32)), .unset, .unset] [(.ref w_UNSIGNED32_7)])) _
          refine st15.trans ?_
          exact kt)
      obtain rfl : w_UNSIGNED32_7 = r16 := Pr16.2 (Fld.ne F_ordinal_11 F_ordinal_7 (by decide))
      obtain ⟨T18, X18, e18, st18⟩ := getS2 X15 hx hZ hown (host := "") (Or.inl (hw _ (List.mem_of_getElem? (i := 17) rfl))) Via.refl e15 S_GAUGE32_4 (g := (mkF m 139 #[.val (.int p0), .val (.int p1), .val (.ref w_GAUGE32_5), .val (.ref w_GAUGE32_5), .val (.ref w_UNSIGNED32_7), .val (.ref w_UNSIGNED32_7), .val (.int (1 : Int32)), .val (.int (1 : Int32)), .val (.int (1 : Int32)), .val (.int (1 : Int32)), .unset] [(.ref w_UNSIGNED32_7)])) rfl (hb hby at_139)
      have pre19 : ∀ t, Steps p.tables e below (T18.setTop (mkF m 177 #[.val (.int p0), .val (.int p1), .val (.ref w_GAUGE32_5), .val (.ref w_GAUGE32_5), .val (.ref w_UNSIGNED32_7), .val (.ref w_UNSIGNED32_7), .val (.int (1 : Int32)), .val (.int (1 : Int32)), .val (.int (1 : Int32)), .val (.int (1 : Int32)), .val (.int (1 : Int32))] [(.int (1 : Int32))])) t → Steps p.tables e below (s₁.setTop (entryFrame m #[(.int p0), (.int p1)] maxLocals)) t := fun t kt => pre17 t (by
          show Steps p.tables e below (T15.setTop (mkF m 125 #[.val (.int p0), .val (.int p1), .val (.ref w_GAUGE32_5), .val (.ref w_GAUGE32_5), .val (.ref w_UNSIGNED32_7), .val (.ref w_UNSIGNED32_7), .val (.int (1 : Int32)), .val (.int (1 : Int32)), .val (.int (1 : Int32)), .unset, .unset] [(.ref w_UNSIGNED32_7)])) _
          refine XS.aload X15.here hx rfl (hb hby at_125) rfl rfl ?_
          show Steps p.tables e below (T15.setTop (mkF m 127 #[.val (.int p0), .val (.int p1), .val (.ref w_GAUGE32_5), .val (.ref w_GAUGE32_5), .val (.ref w_UNSIGNED32_7), .val (.ref w_UNSIGNED32_7), .val (.int (1 : Int32)), .val (.int (1 : Int32)), .val (.int (1 : Int32)), .unset, .unset] [(.ref w_UNSIGNED32_7), (.ref w_UNSIGNED32_7)])) _
          refine Jvm.RoadKit.acmp (g := (mkF m 127 #[.val (.int p0), .val (.int p1), .val (.ref w_GAUGE32_5), .val (.ref w_GAUGE32_5), .val (.ref w_UNSIGNED32_7), .val (.ref w_UNSIGNED32_7), .val (.int (1 : Int32)), .val (.int (1 : Int32)), .val (.int (1 : Int32)), .unset, .unset] [(.ref w_UNSIGNED32_7), (.ref w_UNSIGNED32_7)])) X15 hx rfl rfl rfl (pc0 := 127) (pc' := 130) (same := true) rfl (hb hby at_127) rfl (decide_eq_true rfl) (by decide) (by decide) ?_
          show Steps p.tables e below (T15.setTop (mkF m 130 #[.val (.int p0), .val (.int p1), .val (.ref w_GAUGE32_5), .val (.ref w_GAUGE32_5), .val (.ref w_UNSIGNED32_7), .val (.ref w_UNSIGNED32_7), .val (.int (1 : Int32)), .val (.int (1 : Int32)), .val (.int (1 : Int32)), .unset, .unset] [])) _
          refine XS.iconst X15.here hx rfl (hb hby at_130) ?_
          show Steps p.tables e below (T15.setTop (mkF m 131 #[.val (.int p0), .val (.int p1), .val (.ref w_GAUGE32_5), .val (.ref w_GAUGE32_5), .val (.ref w_UNSIGNED32_7), .val (.ref w_UNSIGNED32_7), .val (.int (1 : Int32)), .val (.int (1 : Int32)), .val (.int (1 : Int32)), .unset, .unset] [(.int (1 : Int32))])) _
          refine XS.goto X15.here hx rfl (pc0 := 131) (pc' := 135) rfl (hb hby at_131) (by decide) (by decide) ?_
          show Steps p.tables e below (T15.setTop (mkF m 135 #[.val (.int p0), .val (.int p1), .val (.ref w_GAUGE32_5), .val (.ref w_GAUGE32_5), .val (.ref w_UNSIGNED32_7), .val (.ref w_UNSIGNED32_7), .val (.int (1 : Int32)), .val (.int (1 : Int32)), .val (.int (1 : Int32)), .unset, .unset] [(.int (1 : Int32))])) _
          refine XS.istore X15.here hx rfl (hb hby at_135) rfl (l' := #[.val (.int p0), .val (.int p1), .val (.ref w_GAUGE32_5), .val (.ref w_GAUGE32_5), .val (.ref w_UNSIGNED32_7), .val (.ref w_UNSIGNED32_7), .val (.int (1 : Int32)), .val (.int (1 : Int32)), .val (.int (1 : Int32)), .val (.int (1 : Int32)), .unset]) rfl ?_
          show Steps p.tables e below (T15.setTop (mkF m 137 #[.val (.int p0), .val (.int p1), .val (.ref w_GAUGE32_5), .val (.ref w_GAUGE32_5), .val (.ref w_UNSIGNED32_7), .val (.ref w_UNSIGNED32_7), .val (.int (1 : Int32)), .val (.int (1 : Int32)), .val (.int (1 : Int32)), .val (.int (1 : Int32)), .unset] [])) _
          refine XS.aload X15.here hx rfl (hb hby at_137) rfl rfl ?_
          show Steps p.tables e below (T15.setTop (mkF m 139 #[.val (.int p0), .val (.int p1), .val (.ref w_GAUGE32_5), .val (.ref w_GAUGE32_5), .val (.ref w_UNSIGNED32_7), .val (.ref w_UNSIGNED32_7), .val (.int (1 : Int32)), .val (.int (1 : Int32)), .val (.int (1 : Int32)), .val (.int (1 : Int32)), .unset] [(.ref w_UNSIGNED32_7)])) _
          refine st18 _ ?_
          show Steps p.tables e below (T18.setTop (mkF m 142 #[.val (.int p0), .val (.int p1), .val (.ref w_GAUGE32_5), .val (.ref w_GAUGE32_5), .val (.ref w_UNSIGNED32_7), .val (.ref w_UNSIGNED32_7), .val (.int (1 : Int32)), .val (.int (1 : Int32)), .val (.int (1 : Int32)), .val (.int (1 : Int32)), .unset] [(.ref w_GAUGE32_5), (.ref w_UNSIGNED32_7)])) _
          refine Jvm.RoadKit.acmp (g := (mkF m 142 #[.val (.int p0), .val (.int p1), .val (.ref w_GAUGE32_5), .val (.ref w_GAUGE32_5), .val (.ref w_UNSIGNED32_7), .val (.ref w_UNSIGNED32_7), .val (.int (1 : Int32)), .val (.int (1 : Int32)), .val (.int (1 : Int32)), .val (.int (1 : Int32)), .unset] [(.ref w_GAUGE32_5), (.ref w_UNSIGNED32_7)])) X18 hx rfl rfl rfl (pc0 := 142) (pc' := 145) (same := false) rfl (hb hby at_142) rfl (decide_eq_false fun q => (Fld.ne F_ordinal_11 F_ordinal_7 (by decide)) (Value.ref.inj q)) (by decide) (by decide) ?_
          show Steps p.tables e below (T18.setTop (mkF m 145 #[.val (.int p0), .val (.int p1), .val (.ref w_GAUGE32_5), .val (.ref w_GAUGE32_5), .val (.ref w_UNSIGNED32_7), .val (.ref w_UNSIGNED32_7), .val (.int (1 : Int32)), .val (.int (1 : Int32)), .val (.int (1 : Int32)), .val (.int (1 : Int32)), .unset] [])) _
          refine XS.iconst X18.here hx rfl (hb hby at_145) ?_
          show Steps p.tables e below (T18.setTop (mkF m 146 #[.val (.int p0), .val (.int p1), .val (.ref w_GAUGE32_5), .val (.ref w_GAUGE32_5), .val (.ref w_UNSIGNED32_7), .val (.ref w_UNSIGNED32_7), .val (.int (1 : Int32)), .val (.int (1 : Int32)), .val (.int (1 : Int32)), .val (.int (1 : Int32)), .unset] [(.int (1 : Int32))])) _
          refine XS.goto X18.here hx rfl (pc0 := 146) (pc' := 150) rfl (hb hby at_146) (by decide) (by decide) ?_
          show Steps p.tables e below (T18.setTop (mkF m 150 #[.val (.int p0), .val (.int p1), .val (.ref w_GAUGE32_5), .val (.ref w_GAUGE32_5), .val (.ref w_UNSIGNED32_7), .val (.ref w_UNSIGNED32_7), .val (.int (1 : Int32)), .val (.int (1 : Int32)), .val (.int (1 : Int32)), .val (.int (1 : Int32)), .unset] [(.int (1 : Int32))])) _
          refine XS.istore X18.here hx rfl (hb hby at_150) rfl (l' := #[.val (.int p0), .val (.int p1), .val (.ref w_GAUGE32_5), .val (.ref w_GAUGE32_5), .val (.ref w_UNSIGNED32_7), .val (.ref w_UNSIGNED32_7), .val (.int (1 : Int32)), .val (.int (1 : Int32)), .val (.int (1 : Int32)), .val (.int (1 : Int32)), .val (.int (1 : Int32))]) rfl ?_
          show Steps p.tables e below (T18.setTop (mkF m 152 #[.val (.int p0), .val (.int p1), .val (.ref w_GAUGE32_5), .val (.ref w_GAUGE32_5), .val (.ref w_UNSIGNED32_7), .val (.ref w_UNSIGNED32_7), .val (.int (1 : Int32)), .val (.int (1 : Int32)), .val (.int (1 : Int32)), .val (.int (1 : Int32)), .val (.int (1 : Int32))] [])) _
          refine XS.iload X18.here hx rfl (hb hby at_152) rfl ?_
          show Steps p.tables e below (T18.setTop (mkF m 154 #[.val (.int p0), .val (.int p1), .val (.ref w_GAUGE32_5), .val (.ref w_GAUGE32_5), .val (.ref w_UNSIGNED32_7), .val (.ref w_UNSIGNED32_7), .val (.int (1 : Int32)), .val (.int (1 : Int32)), .val (.int (1 : Int32)), .val (.int (1 : Int32)), .val (.int (1 : Int32))] [(.int (1 : Int32))])) _
          refine XS.ifNo X18.here hx rfl (hb hby at_154) rfl ((if0 _ _).trans (feq (by decide : ¬ ((1 : Int32) = (0 : Int32)))).1) ?_
          show Steps p.tables e below (T18.setTop (mkF m 157 #[.val (.int p0), .val (.int p1), .val (.ref w_GAUGE32_5), .val (.ref w_GAUGE32_5), .val (.ref w_UNSIGNED32_7), .val (.ref w_UNSIGNED32_7), .val (.int (1 : Int32)), .val (.int (1 : Int32)), .val (.int (1 : Int32)), .val (.int (1 : Int32)), .val (.int (1 : Int32))] [])) _
          refine XS.iload X18.here hx rfl (hb hby at_157) rfl ?_
          show Steps p.tables e below (T18.setTop (mkF m 159 #[.val (.int p0), .val (.int p1), .val (.ref w_GAUGE32_5), .val (.ref w_GAUGE32_5), .val (.ref w_UNSIGNED32_7), .val (.ref w_UNSIGNED32_7), .val (.int (1 : Int32)), .val (.int (1 : Int32)), .val (.int (1 : Int32)), .val (.int (1 : Int32)), .val (.int (1 : Int32))] [(.int (1 : Int32))])) _
          refine XS.ifNo X18.here hx rfl (hb hby at_159) rfl ((if0 _ _).trans (feq (by decide : ¬ ((1 : Int32) = (0 : Int32)))).1) ?_
          show Steps p.tables e below (T18.setTop (mkF m 162 #[.val (.int p0), .val (.int p1), .val (.ref w_GAUGE32_5), .val (.ref w_GAUGE32_5), .val (.ref w_UNSIGNED32_7), .val (.ref w_UNSIGNED32_7), .val (.int (1 : Int32)), .val (.int (1 : Int32)), .val (.int (1 : Int32)), .val (.int (1 : Int32)), .val (.int (1 : Int32))] [])) _
          refine XS.iload X18.here hx rfl (hb hby at_162) rfl ?_
          show Steps p.tables e below (T18.setTop (mkF m 164 #[.val (.int p0), .val (.int p1), .val (.ref w_GAUGE32_5), .val (.ref w_GAUGE32_5), .val (.ref w_UNSIGNED32_7), .val (.ref w_UNSIGNED32_7), .val (.int (1 : Int32)), .val (.int (1 : Int32)), .val (.int (1 : Int32)), .val (.int (1 : Int32)), .val (.int (1 : Int32))] [(.int (1 : Int32))])) _
          refine XS.ifNo X18.here hx rfl (hb hby at_164) rfl ((if0 _ _).trans (feq (by decide : ¬ ((1 : Int32) = (0 : Int32)))).1) ?_
          show Steps p.tables e below (T18.setTop (mkF m 167 #[.val (.int p0), .val (.int p1), .val (.ref w_GAUGE32_5), .val (.ref w_GAUGE32_5), .val (.ref w_UNSIGNED32_7), .val (.ref w_UNSIGNED32_7), .val (.int (1 : Int32)), .val (.int (1 : Int32)), .val (.int (1 : Int32)), .val (.int (1 : Int32)), .val (.int (1 : Int32))] [])) _
          refine XS.iload X18.here hx rfl (hb hby at_167) rfl ?_
          show Steps p.tables e below (T18.setTop (mkF m 169 #[.val (.int p0), .val (.int p1), .val (.ref w_GAUGE32_5), .val (.ref w_GAUGE32_5), .val (.ref w_UNSIGNED32_7), .val (.ref w_UNSIGNED32_7), .val (.int (1 : Int32)), .val (.int (1 : Int32)), .val (.int (1 : Int32)), .val (.int (1 : Int32)), .val (.int (1 : Int32))] [(.int (1 : Int32))])) _
          refine XS.ifNo X18.here hx rfl (hb hby at_169) rfl ((if0 _ _).trans (feq (by decide : ¬ ((1 : Int32) = (0 : Int32)))).1) ?_
          show Steps p.tables e below (T18.setTop (mkF m 172 #[.val (.int p0), .val (.int p1), .val (.ref w_GAUGE32_5), .val (.ref w_GAUGE32_5), .val (.ref w_UNSIGNED32_7), .val (.ref w_UNSIGNED32_7), .val (.int (1 : Int32)), .val (.int (1 : Int32)), .val (.int (1 : Int32)), .val (.int (1 : Int32)), .val (.int (1 : Int32))] [])) _
          refine XS.iconst X18.here hx rfl (hb hby at_172) ?_
          show Steps p.tables e below (T18.setTop (mkF m 173 #[.val (.int p0), .val (.int p1), .val (.ref w_GAUGE32_5), .val (.ref w_GAUGE32_5), .val (.ref w_UNSIGNED32_7), .val (.ref w_UNSIGNED32_7), .val (.int (1 : Int32)), .val (.int (1 : Int32)), .val (.int (1 : Int32)), .val (.int (1 : Int32)), .val (.int (1 : Int32))] [(.int (1 : Int32))])) _
          refine XS.goto X18.here hx rfl (pc0 := 173) (pc' := 177) rfl (hb hby at_173) (by decide) (by decide) ?_
          exact kt)
      obtain ⟨fs, hr, hrun, hended, hW, hsame⟩ := X18.leave (v := some (.int (1 : Int32))) (fun h => by rw [Bd.returns] at h; cases h)
      refine ⟨_, _, pre19 _ ?_, hrun, hended, _, _, rfl, ?_, ⟨_, rfl⟩, hW, hsame.mono (by decide) (by decide)⟩
      · show Steps p.tables e below (T18.setTop (mkF m 177 #[.val (.int p0), .val (.int p1), .val (.ref w_GAUGE32_5), .val (.ref w_GAUGE32_5), .val (.ref w_UNSIGNED32_7), .val (.ref w_UNSIGNED32_7), .val (.int (1 : Int32)), .val (.int (1 : Int32)), .val (.int (1 : Int32)), .val (.int (1 : Int32)), .val (.int (1 : Int32))] [(.int (1 : Int32))])) _
        exact retN X18 hx (t := .boolean) Bd.returns (by simp) (hb hby at_177) hr
      · show Q0 Z _ _ _ _ _ _ _ _ _ _ _ _ _ _ h0 n0 _ T18.heap _
        rw [e18]
        exact ⟨rfl, N15, rfl⟩
    · skip
      obtain rfl : r4 = r10 := Pr10.2 hs12
      obtain ⟨T20, X20, e20, st20⟩ := getS2 X9 hx hZ hown (host := "") (Or.inl (hw _ (List.mem_of_getElem? (i := 17) rfl))) Via.refl e9 S_GAUGE32_4 (g := (mkF m 35 #[.val (.int p0), .val (.int p1), .val (.ref w_GAUGE32_5), .val (.ref r4), .val (.ref w_UNSIGNED32_7), .val (.ref r4), .unset, .unset, .unset, .unset, .unset] [(.ref w_GAUGE32_5)])) rfl (hb hby at_35)
      obtain ⟨T21, X21, e21, st21⟩ := getS2 X20 hx hZ hown (host := "") (Or.inl (hw _ (List.mem_of_getElem? (i := 21) rfl))) Via.refl e20 S_UNSIGNED32_9 (g := (mkF m 43 #[.val (.int p0), .val (.int p1), .val (.ref w_GAUGE32_5), .val (.ref r4), .val (.ref w_UNSIGNED32_7), .val (.ref r4), .unset, .unset, .unset, .unset, .unset] [(.ref w_UNSIGNED32_7)])) rfl (hb hby at_43)
      obtain ⟨_, _, ⟨T22, L22, k22, n22⟩, -, X22, ⟨Lc22, hQ22, l22, y22, z22⟩, st22⟩ := Jvm.LawKit.callS X21 hx (y := (⟨"com/example/oidwright/oidwright/model/BaseTypeSentAsPinLaw", "app2", "(Lcom/example/oidwright/oidwright/model/BaseType;)Z"⟩ : MethodName)) hown (mvT hZ (hw _ (List.mem_of_getElem? (i := 18) rfl))) (mvT hZ (hw _ (List.mem_of_getElem? (i := 19) rfl))) (mvT hZ (hw _ (List.mem_of_getElem? (i := 2) rfl))) (mvT hZ (hw _ (List.mem_of_getElem? (i := 20) rfl))) (by decide) (backOf (W := 0) (rm3 l Z aw hw [] w_GAUGE32_5 w_GAUGE32_5 w_UNSIGNED32_7 h0 n0 Z0 S_GAUGE32_4 S_UNSIGNED32_9) hZ (hw _ (List.mem_of_getElem? (i := 20) rfl)) (hw _ (List.mem_of_getElem? (i := 2) rfl)) (by decide) (by decide)) (g := (mkF m 76 #[.val (.int p0), .val (.int p1), .val (.ref w_GAUGE32_5), .val (.ref r4), .val (.ref w_UNSIGNED32_7), .val (.ref r4), .val (.int (1 : Int32)), .unset, .unset, .unset, .unset] [(.ref w_GAUGE32_5)])) rfl (by rw [hml]; rfl) (argsL := [(.ref w_GAUGE32_5)]) (rest := []) (lenOf pd_2 rfl) rfl (by show 2 * 0 + _ ≤ _; exact Nat.le_of_eq rfl) (hb hby at_76) (fun _ _ => ⟨rfl, e21, (by decide : 0 + 0 ≤ _), (by decide : 0 + 0 ≤ _)⟩)
      dsimp only [Pt.U, Pt.locs, Pt.cells, Pt.slots] at X22 l22 y22 z22 st22 hQ22
      subst l22 y22 z22
      obtain ⟨⟨r23, rfl, Pr23⟩, Nq22, e22⟩ := hQ22
      have N22 := Fr.app N9 Nq22
      have pre24 : ∀ t, Steps p.tables e below (T22.setTop (mkF m 79 #[.val (.int p0), .val (.int p1), .val (.ref w_GAUGE32_5), .val (.ref r4), .val (.ref w_UNSIGNED32_7), .val (.ref r4), .val (.int (1 : Int32)), .unset, .unset, .unset, .unset] [(.int r23)])) t → Steps p.tables e below (s₁.setTop (entryFrame m #[(.int p0), (.int p1)] maxLocals)) t := fun t kt => pre11 t (by
          show Steps p.tables e below (T9.setTop (mkF m 20 #[.val (.int p0), .val (.int p1), .val (.ref w_GAUGE32_5), .val (.ref r4), .val (.ref w_UNSIGNED32_7), .unset, .unset, .unset, .unset, .unset, .unset] [(.ref r4)])) _
          refine XS.astore X9.here hx rfl (hb hby at_20) rfl rfl (l' := #[.val (.int p0), .val (.int p1), .val (.ref w_GAUGE32_5), .val (.ref r4), .val (.ref w_UNSIGNED32_7), .val (.ref r4), .unset, .unset, .unset, .unset, .unset]) rfl ?_
          show Steps p.tables e below (T9.setTop (mkF m 22 #[.val (.int p0), .val (.int p1), .val (.ref w_GAUGE32_5), .val (.ref r4), .val (.ref w_UNSIGNED32_7), .val (.ref r4), .unset, .unset, .unset, .unset, .unset] [])) _
          refine XS.aload X9.here hx rfl (hb hby at_22) rfl rfl ?_
          show Steps p.tables e below (T9.setTop (mkF m 24 #[.val (.int p0), .val (.int p1), .val (.ref w_GAUGE32_5), .val (.ref r4), .val (.ref w_UNSIGNED32_7), .val (.ref r4), .unset, .unset, .unset, .unset, .unset] [(.ref w_UNSIGNED32_7)])) _
          refine XS.ifnullNo X9.here hx rfl (hb hby at_24) rfl ?_
          show Steps p.tables e below (T9.setTop (mkF m 27 #[.val (.int p0), .val (.int p1), .val (.ref w_GAUGE32_5), .val (.ref r4), .val (.ref w_UNSIGNED32_7), .val (.ref r4), .unset, .unset, .unset, .unset, .unset] [])) _
          refine XS.aload X9.here hx rfl (hb hby at_27) rfl rfl ?_
          show Steps p.tables e below (T9.setTop (mkF m 29 #[.val (.int p0), .val (.int p1), .val (.ref w_GAUGE32_5), .val (.ref r4), .val (.ref w_UNSIGNED32_7), .val (.ref r4), .unset, .unset, .unset, .unset, .unset] [(.ref r4)])) _
          refine XS.ifnonnullYes X9.here hx rfl (pc0 := 29) (pc' := 34) rfl (hb hby at_29) rfl (by decide) (by decide) ?_
          show Steps p.tables e below (T9.setTop (mkF m 34 #[.val (.int p0), .val (.int p1), .val (.ref w_GAUGE32_5), .val (.ref r4), .val (.ref w_UNSIGNED32_7), .val (.ref r4), .unset, .unset, .unset, .unset, .unset] [])) _
          refine XS.aloadN X9.here hx rfl (hb hby at_34) rfl rfl ?_
          show Steps p.tables e below (T9.setTop (mkF m 35 #[.val (.int p0), .val (.int p1), .val (.ref w_GAUGE32_5), .val (.ref r4), .val (.ref w_UNSIGNED32_7), .val (.ref r4), .unset, .unset, .unset, .unset, .unset] [(.ref w_GAUGE32_5)])) _
          refine st20 _ ?_
          show Steps p.tables e below (T20.setTop (mkF m 38 #[.val (.int p0), .val (.int p1), .val (.ref w_GAUGE32_5), .val (.ref r4), .val (.ref w_UNSIGNED32_7), .val (.ref r4), .unset, .unset, .unset, .unset, .unset] [(.ref w_GAUGE32_5), (.ref w_GAUGE32_5)])) _
          refine Jvm.RoadKit.acmp (g := (mkF m 38 #[.val (.int p0), .val (.int p1), .val (.ref w_GAUGE32_5), .val (.ref r4), .val (.ref w_UNSIGNED32_7), .val (.ref r4), .unset, .unset, .unset, .unset, .unset] [(.ref w_GAUGE32_5), (.ref w_GAUGE32_5)])) X20 hx rfl rfl rfl (pc0 := 38) (pc' := 41) (same := true) rfl (hb hby at_38) rfl (decide_eq_true rfl) (by decide) (by decide) ?_
          show Steps p.tables e below (T20.setTop (mkF m 41 #[.val (.int p0), .val (.int p1), .val (.ref w_GAUGE32_5), .val (.ref r4), .val (.ref w_UNSIGNED32_7), .val (.ref r4), .unset, .unset, .unset, .unset, .unset] [])) _
          refine XS.aload X20.here hx rfl (hb hby at_41) rfl rfl ?_
          show Steps p.tables e below (T20.setTop (mkF m 43 #[.val (.int p0), .val (.int p1), .val (.ref w_GAUGE32_5), .val (.ref r4), .val (.ref w_UNSIGNED32_7), .val (.ref r4), .unset, .unset, .unset, .unset, .unset] [(.ref w_UNSIGNED32_7)])) _
          refine st21 _ ?_
          show Steps p.tables e below (T21.setTop (mkF m 46 #[.val (.int p0), .val (.int p1), .val (.ref w_GAUGE32_5), .val (.ref r4), .val (.ref w_UNSIGNED32_7), .val (.ref r4), .unset, .unset, .unset, .unset, .unset] [(.ref w_UNSIGNED32_7), (.ref w_UNSIGNED32_7)])) _
          refine Jvm.RoadKit.acmp (g := (mkF m 46 #[.val (.int p0), .val (.int p1), .val (.ref w_GAUGE32_5), .val (.ref r4), .val (.ref w_UNSIGNED32_7), .val (.ref r4), .unset, .unset, .unset, .unset, .unset] [(.ref w_UNSIGNED32_7), (.ref w_UNSIGNED32_7)])) X21 hx rfl rfl rfl (pc0 := 46) (pc' := 49) (same := true) rfl (hb hby at_46) rfl (decide_eq_true rfl) (by decide) (by decide) ?_
          show Steps p.tables e below (T21.setTop (mkF m 49 #[.val (.int p0), .val (.int p1), .val (.ref w_GAUGE32_5), .val (.ref r4), .val (.ref w_UNSIGNED32_7), .val (.ref r4), .unset, .unset, .unset, .unset, .unset] [])) _
          refine XS.iconst X21.here hx rfl (hb hby at_49) ?_
          show Steps p.tables e below (T21.setTop (mkF m 50 #[.val (.int p0), .val (.int p1), .val (.ref w_GAUGE32_5), .val (.ref r4), .val (.ref w_UNSIGNED32_7), .val (.ref r4), .unset, .unset, .unset, .unset, .unset] [(.int (1 : Int32))])) _
          refine XS.goto X21.here hx rfl (pc0 := 50) (pc' := 68) rfl (hb hby at_50) (by decide) (by decide) ?_
          show Steps p.tables e below (T21.setTop (mkF m 68 #[.val (.int p0), .val (.int p1), .val (.ref w_GAUGE32_5), .val (.ref r4), .val (.ref w_UNSIGNED32_7), .val (.ref r4), .unset, .unset, .unset, .unset, .unset] [(.int (1 : Int32))])) _
          refine XS.istore X21.here hx rfl (hb hby at_68) rfl (l' := #[.val (.int p0), .val (.int p1), .val (.ref w_GAUGE32_5), .val (.ref r4), .val (.ref w_UNSIGNED32_7), .val (.ref r4), .val (.int (1 : Int32)), .unset, .unset, .unset, .unset]) rfl ?_
          show Steps p.tables e below (T21.setTop (mkF m 70 #[.val (.int p0), .val (.int p1), .val (.ref w_GAUGE32_5), .val (.ref r4), .val (.ref w_UNSIGNED32_7), .val (.ref r4), .val (.int (1 : Int32)), .unset, .unset, .unset, .unset] [])) _
          refine XS.aloadN X21.here hx rfl (hb hby at_70) rfl rfl ?_
          show Steps p.tables e below (T21.setTop (mkF m 71 #[.val (.int p0), .val (.int p1), .val (.ref w_GAUGE32_5), .val (.ref r4), .val (.ref w_UNSIGNED32_7), .val (.ref r4), .val (.int (1 : Int32)), .unset, .unset, .unset, .unset] [(.ref w_GAUGE32_5)])) _
          refine XS.aloadN X21.here hx rfl (hb hby at_71) rfl rfl ?_
          show Steps p.tables e below (T21.setTop (mkF m 72 #[.val (.int p0), .val (.int p1), .val (.ref w_GAUGE32_5), .val (.ref r4), .val (.ref w_UNSIGNED32_7), .val (.ref r4), .val (.int (1 : Int32)), .unset, .unset, .unset, .unset] [(.ref r4), (.ref w_GAUGE32_5)])) _
          refine Jvm.RoadKit.acmp (g := (mkF m 72 #[.val (.int p0), .val (.int p1), .val (.ref w_GAUGE32_5), .val (.ref r4), .val (.ref w_UNSIGNED32_7), .val (.ref r4), .val (.int (1 : Int32)), .unset, .unset, .unset, .unset] [(.ref r4), (.ref w_GAUGE32_5)])) X21 hx rfl rfl rfl (pc0 := 72) (pc' := 75) (same := false) rfl (hb hby at_72) rfl (decide_eq_false fun q => (Ne.symm hs12) (Value.ref.inj q)) (by decide) (by decide) ?_
          show Steps p.tables e below (T21.setTop (mkF m 75 #[.val (.int p0), .val (.int p1), .val (.ref w_GAUGE32_5), .val (.ref r4), .val (.ref w_UNSIGNED32_7), .val (.ref r4), .val (.int (1 : Int32)), .unset, .unset, .unset, .unset] [])) _
          refine XS.aloadN X21.here hx rfl (hb hby at_75) rfl rfl ?_
          show Steps p.tables e below (T21.setTop (mkF m 76 #[.val (.int p0), .val (.int p1), .val (.ref w_GAUGE32_5), .val (.ref r4), .val (.ref w_UNSIGNED32_7), .val (.ref r4), .val (.int (1 : Int32)), .unset, .unset, .unset, .unset] [(.ref w_GAUGE32_5)])) _
          refine st22 _ ?_
          exact kt)
      obtain rfl : (1 : Int32) = r23 := Pr23.1 (Or.inl rfl)
      obtain ⟨_, _, ⟨T25, L25, k25, n25⟩, -, X25, ⟨Lc25, hQ25, l25, y25, z25⟩, st25⟩ := Jvm.LawKit.callS X22 hx (y := (⟨"com/example/oidwright/oidwright/model/BaseTypeSentAsPinLaw", "app2", "(Lcom/example/oidwright/oidwright/model/BaseType;)Z"⟩ : MethodName)) hown (mvT hZ (hw _ (List.mem_of_getElem? (i := 18) rfl))) (mvT hZ (hw _ (List.mem_of_getElem? (i := 19) rfl))) (mvT hZ (hw _ (List.mem_of_getElem? (i := 2) rfl))) (mvT hZ (hw _ (List.mem_of_getElem? (i := 20) rfl))) (by decide) (backOf (W := 0) (rm3 l Z aw hw [] r4 w_GAUGE32_5 w_UNSIGNED32_7 h0 n0 Z0 S_GAUGE32_4 S_UNSIGNED32_9) hZ (hw _ (List.mem_of_getElem? (i := 20) rfl)) (hw _ (List.mem_of_getElem? (i := 2) rfl)) (by decide) (by decide)) (g := (mkF m 83 #[.val (.int p0), .val (.int p1), .val (.ref w_GAUGE32_5), .val (.ref r4), .val (.ref w_UNSIGNED32_7), .val (.ref r4), .val (.int (1 : Int32)), .unset, .unset, .unset, .unset] [(.ref r4)])) rfl (by rw [hml]; rfl) (argsL := [(.ref r4)]) (rest := []) (lenOf pd_2 rfl) rfl (by show 2 * 0 + _ ≤ _; exact Nat.le_of_eq rfl) (hb hby at_83) (fun _ _ => ⟨rfl, e22, (by decide : 0 + 0 ≤ _), (by decide : 0 + 0 ≤ _)⟩)
      dsimp only [Pt.U, Pt.locs, Pt.cells, Pt.slots] at X25 l25 y25 z25 st25 hQ25
      subst l25 y25 z25
      obtain ⟨⟨r26, rfl, Pr26⟩, Nq25, e25⟩ := hQ25
      have N25 := Fr.app N22 Nq25
      have pre27 : ∀ t, Steps p.tables e below (T25.setTop (mkF m 86 #[.val (.int p0), .val (.int p1), .val (.ref w_GAUGE32_5), .val (.ref r4), .val (.ref w_UNSIGNED32_7), .val (.ref r4), .val (.int (1 : Int32)), .unset, .unset, .unset, .unset] [(.int r26)])) t → Steps p.tables e below (s₁.setTop (entryFrame m #[(.int p0), (.int p1)] maxLocals)) t := fun t kt => pre24 t (by
          show Steps p.tables e below (T22.setTop (mkF m 79 #[.val (.int p0), .val (.int p1), .val (.ref w_GAUGE32_5), .val (.ref r4), .val (.ref w_UNSIGNED32_7), .val (.ref r4), .val (.int (1 : Int32)), .unset, .unset, .unset, .unset] [(.int (1 : Int32))])) _
          refine XS.ifNo X22.here hx rfl (hb hby at_79) rfl ((if0 _ _).trans (feq (by decide : ¬ ((1 : Int32) = (0 : Int32)))).1) ?_
          show Steps p.tables e below (T22.setTop (mkF m 82 #[.val (.int p0), .val (.int p1), .val (.ref w_GAUGE32_5), .val (.ref r4), .val (.ref w_UNSIGNED32_7), .val (.ref r4), .val (.int (1 : Int32)), .unset, .unset, .unset, .unset] [])) _
          refine XS.aloadN X22.here hx rfl (hb hby at_82) rfl rfl ?_
          show Steps p.tables e below (T22.setTop (mkF m 83 #[.val (.int p0), .val (.int p1), .val (.ref w_GAUGE32_5), .val (.ref r4), .val (.ref w_UNSIGNED32_7), .val (.ref r4), .val (.int (1 : Int32)), .unset, .unset, .unset, .unset] [(.ref r4)])) _
          refine st25 _ ?_
          exact kt)
      by_cases hs28 : r4 = w_UNSIGNED32_7
      · skip
        obtain rfl : w_UNSIGNED32_7 = r4 := hs28.symm
        obtain rfl : (1 : Int32) = r26 := Pr26.1 (Or.inr rfl)
        obtain ⟨cq29, kq29, q29a, q29b, q29c⟩ := isOf hZ e25 Pr4
        obtain ⟨_, _, ⟨T29, L29, k29, n29⟩, -, X29, ⟨Lc29, hQ29, l29, y29, z29⟩, st29⟩ := X25.virtualBack hx (y := (⟨"com/example/oidwright/oidwright/model/BaseType", "sentAs", "()Lcom/example/oidwright/oidwright/model/BaseType;"⟩ : MethodName)) (z := (⟨"com/example/oidwright/oidwright/model/BaseType", "sentAs", "()Lcom/example/oidwright/oidwright/model/BaseType;"⟩ : MethodName)) hown (mvT hZ (hw _ (List.mem_of_getElem? (i := 10) rfl))) (mvT hZ (hw _ (List.mem_of_getElem? (i := 11) rfl))) (notFace_of_selects (args := #[]) (mvT hZ (hw _ (List.mem_of_getElem? (i := 13) rfl)))) (mvT hZ (hw _ (List.mem_of_getElem? (i := 13) rfl))) (mvT hZ (hw _ (List.mem_of_getElem? (i := 12) rfl))) (by decide) (backOf (W := 0) (rm2 l Z aw hw [] w_UNSIGNED32_7 w_GAUGE32_5 w_UNSIGNED32_7 h0 n0 Z0 S_GAUGE32_4 S_UNSIGNED32_9) hZ (hw _ (List.mem_of_getElem? (i := 14) rfl)) (hw _ (List.mem_of_getElem? (i := 6) rfl)) (by decide) (by decide)) q29a q29c (g := (mkF m 122 #[.val (.int p0), .val (.int p1), .val (.ref w_GAUGE32_5), .val (.ref w_UNSIGNED32_7), .val (.ref w_UNSIGNED32_7), .val (.ref w_UNSIGNED32_7), .val (.int (1 : Int32)), .val (.int (1 : Int32)), .val (.int (1 : Int32)), .unset, .unset] [(.ref w_UNSIGNED32_7)])) rfl (by rw [hml]; rfl) (Steps.refl _) (argsL := []) (rest := []) (lenOf pd_1 rfl) rfl (by show 2 * 0 + _ ≤ _; exact Nat.le_of_eq rfl) (hb hby at_122) (fun _ _ => ⟨rfl, e25, (by decide : 0 + 0 ≤ _), (by decide : 0 + 0 ≤ _)⟩)
        dsimp only [Pt.U, Pt.locs, Pt.cells, Pt.slots] at X29 l29 y29 z29 st29 hQ29
        subst l29 y29 z29
        obtain ⟨⟨r30, rfl, Pr30⟩, Nq29, e29⟩ := hQ29
        have N29 := Fr.app N25 Nq29
        have pre31 : ∀ t, Steps p.tables e below (T29.setTop (mkF m 125 #[.val (.int p0), .val (.int p1), .val (.ref w_GAUGE32_5), .val (.ref w_UNSIGNED32_7), .val (.ref w_UNSIGNED32_7), .val (.ref w_UNSIGNED32_7), .val (.int (1 : Int32)), .val (.int (1 : Int32)), .val (.int (1 : Int32)), .unset, .unset] [(.ref r30)])) t → Steps p.tables e below (s₁.setTop (entryFrame m #[(.int p0), (.int p1)] maxLocals)) t := fun t kt => pre27 t (by
            show Steps p.tables e below (T25.setTop (mkF m 86 #[.val (.int p0), .val (.int p1), .val (.ref w_GAUGE32_5), .val (.ref w_UNSIGNED32_7), .val (.ref w_UNSIGNED32_7), .val (.ref w_UNSIGNED32_7), .val (.int (1 : Int32)), .unset, .unset, .unset, .unset] [(.int (1 : Int32))])) _
            refine XS.ifNo X25.here hx rfl (hb hby at_86) rfl ((if0 _ _).trans (feq (by decide : ¬ ((1 : Int32) = (0 : Int32)))).1) ?_
            show Steps p.tables e below (T25.setTop (mkF m 89 #[.val (.int p0), .val (.int p1), .val (.ref w_GAUGE32_5), .val (.ref w_UNSIGNED32_7), .val (.ref w_UNSIGNED32_7), .val (.ref w_UNSIGNED32_7), .val (.int (1 : Int32)), .unset, .unset, .unset, .unset] [])) _
            refine XS.iconst X25.here hx rfl (hb hby at_89) ?_
            show Steps p.tables e below (T25.setTop (mkF m 90 #[.val (.int p0), .val (.int p1), .val (.ref w_GAUGE32_5), .val (.ref w_UNSIGNED32_7), .val (.ref w_UNSIGNED32_7), .val (.ref w_UNSIGNED32_7), .val (.int (1 : Int32)), .unset, .unset, .unset, .unset] [(.int (1 : Int32))])) _
            refine XS.goto X25.here hx rfl (pc0 := 90) (pc' := 94) rfl (hb hby at_90) (by decide) (by decide) ?_
            show Steps p.tables e below (T25.setTop (mkF m 94 #[.val (.int p0), .val (.int p1), .val (.ref w_GAUGE32_5), .val (.ref w_UNSIGNED32_7), .val (.ref w_UNSIGNED32_7), .val (.ref w_UNSIGNED32_7), .val (.int (1 : Int32)), .unset, .unset, .unset, .unset] [(.int (1 : Int32))])) _
            refine XS.istore X25.here hx rfl (hb hby at_94) rfl (l' := #[.val (.int p0), .val (.int p1), .val (.ref w_GAUGE32_5), .val (.ref w_UNSIGNED32_7), .val (.ref w_UNSIGNED32_7), .val (.ref w_UNSIGNED32_7), .val (.int (1 : Int32)), .val (.int (1 : Int32)), .unset, .unset, .unset]) rfl ?_
            show Steps p.tables e below (T25.setTop (mkF m 96 #[.val (.int p0), .val (.int p1), .val (.ref w_GAUGE32_5), .val (.ref w_UNSIGNED32_7), .val (.ref w_UNSIGNED32_7), .val (.ref w_UNSIGNED32_7), .val (.int (1 : Int32)), .val (.int (1 : Int32)), .unset, .unset, .unset] [])) _
            refine XS.aload X25.here hx rfl (hb hby at_96) rfl rfl ?_
            show Steps p.tables e below (T25.setTop (mkF m 98 #[.val (.int p0), .val (.int p1), .val (.ref w_GAUGE32_5), .val (.ref w_UNSIGNED32_7), .val (.ref w_UNSIGNED32_7), .val (.ref w_UNSIGNED32_7), .val (.int (1 : Int32)), .val (.int (1 : Int32)), .unset, .unset, .unset] [(.ref w_UNSIGNED32_7)])) _
            refine XS.aload X25.here hx rfl (hb hby at_98) rfl rfl ?_
            show Steps p.tables e below (T25.setTop (mkF m 100 #[.val (.int p0), .val (.int p1), .val (.ref w_GAUGE32_5), .val (.ref w_UNSIGNED32_7), .val (.ref w_UNSIGNED32_7), .val (.ref w_UNSIGNED32_7), .val (.int (1 : Int32)), .val (.int (1 : Int32)), .unset, .unset, .unset] [(.ref w_UNSIGNED32_7), (.ref w_UNSIGNED32_7)])) _
            refine Jvm.RoadKit.acmp (g := (mkF m 100 #[.val (.int p0), .val (.int p1), .val (.ref w_GAUGE32_5), .val (.ref w_UNSIGNED32_7), .val (.ref w_UNSIGNED32_7), .val (.ref w_UNSIGNED32_7), .val (.int (1 : Int32)), .val (.int (1 : Int32)), .unset, .unset, .unset] [(.ref w_UNSIGNED32_7), (.ref w_UNSIGNED32_7)])) X25 hx rfl rfl rfl (pc0 := 100) (pc' := 103) (same := true) rfl (hb hby at_100) rfl (decide_eq_true rfl) (by decide) (by decide) ?_
            show Steps p.tables e below (T25.setTop (mkF m 103 #[.val (.int p0), .val (.int p1), .val (.ref w_GAUGE32_5), .val (.ref w_UNSIGNED32_7), .val (.ref w_UNSIGNED32_7), .val (.ref w_UNSIGNED32_7), .val (.int (1 : Int32)), .val (.int (1 : Int32)), .unset, .unset, .unset] [])) _
            refine XS.iconst X25.here hx rfl (hb hby at_103) ?_
            show Steps p.tables e below (T25.setTop (mkF m 104 #[.val (.int p0), .val (.int p1), .val (.ref w_GAUGE32_5), .val (.ref w_UNSIGNED32_7), .val (.ref w_UNSIGNED32_7), .val (.ref w_UNSIGNED32_7), .val (.int (1 : Int32)), .val (.int (1 : Int32)), .unset, .unset, .unset] [(.int (1 : Int32))])) _
            refine XS.goto X25.here hx rfl (pc0 := 104) (pc' := 108) rfl (hb hby at_104) (by decide) (by decide) ?_
            show Steps p.tables e below (T25.setTop (mkF m 108 #[.val (.int p0), .val (.int p1), .val (.ref w_GAUGE32_5), .val (.ref w_UNSIGNED32_7), .val (.ref w_UNSIGNED32_7), .val (.ref w_UNSIGNED32_7), .val (.int (1 : Int32)), .val (.int (1 : Int32)), .unset, .unset, .unset] [(.int (1 : Int32))])) _
            refine XS.iload X25.here hx rfl (hb hby at_108) rfl ?_
            show Steps p.tables e below (T25.setTop (mkF m 110 #[.val (.int p0), .val (.int p1), .val (.ref w_GAUGE32_5), .val (.ref w_UNSIGNED32_7), .val (.ref w_UNSIGNED32_7), .val (.ref w_UNSIGNED32_7), .val (.int (1 : Int32)), .val (.int (1 : Int32)), .unset, .unset, .unset] [(.int (1 : Int32)), (.int (1 : Int32))])) _
            refine XS.icmpNo X25.here hx rfl (hb hby at_110) rfl (teq (rfl : (1 : Int32) = (1 : Int32))).2 ?_
            show Steps p.tables e below (T25.setTop (mkF m 113 #[.val (.int p0), .val (.int p1), .val (.ref w_GAUGE32_5), .val (.ref w_UNSIGNED32_7), .val (.ref w_UNSIGNED32_7), .val (.ref w_UNSIGNED32_7), .val (.int (1 : Int32)), .val (.int (1 : Int32)), .unset, .unset, .unset] [])) _
            refine XS.iconst X25.here hx rfl (hb hby at_113) ?_
            show Steps p.tables e below (T25.setTop (mkF m 114 #[.val (.int p0), .val (.int p1), .val (.ref w_GAUGE32_5), .val (.ref w_UNSIGNED32_7), .val (.ref w_UNSIGNED32_7), .val (.ref w_UNSIGNED32_7), .val (.int (1 : Int32)), .val (.int (1 : Int32)), .unset, .unset, .unset] [(.int (1 : Int32))])) _
            refine XS.goto X25.here hx rfl (pc0 := 114) (pc' := 118) rfl (hb hby at_114) (by decide) (by decide) ?_
            show Steps p.tables e below (T25.setTop (mkF m 118 #[.val (.int p0), .val (.int p1), .val (.ref w_GAUGE32_5), .val (.ref w_UNSIGNED32_7), .val (.ref w_UNSIGNED32_7), .val (.ref w_UNSIGNED32_7), .val (.int (1 : Int32)), .val (.int (1 : Int32)), .unset, .unset, .unset] [(.int (1 : Int32))])) _
            refine XS.istore X25.here hx rfl (hb hby at_118) rfl (l' := #[.val (.int p0), .val (.int p1), .val (.ref w_GAUGE32_5), .val (.ref w_UNSIGNED32_7), .val (.ref w_UNSIGNED32_7), .val (.ref w_UNSIGNED32_7), .val (.int (1 : Int32)), .val (.int (1 : Int32)), .val (.int (1 : Int32)), .unset, .unset]) rfl ?_
            show Steps p.tables e below (T25.setTop (mkF m 120 #[.val (.int p0), .val (.int p1), .val (.ref w_GAUGE32_5), .val (.ref w_UNSIGNED32_7), .val (.ref w_UNSIGNED32_7), .val (.ref w_UNSIGNED32_7), .val (.int (1 : Int32)), .val (.int (1 : Int32)), .val (.int (1 : Int32)), .unset, .unset] [])) _
            refine XS.aload X25.here hx rfl (hb hby at_120) rfl rfl ?_
            show Steps p.tables e below (T25.setTop (mkF m 122 #[.val (.int p0), .val (.int p1), .val (.ref w_GAUGE32_5), .val (.ref w_UNSIGNED32_7), .val (.ref w_UNSIGNED32_7), .val (.ref w_UNSIGNED32_7), .val (.int (1 : Int32)), .val (.int (1 : Int32)), .val (.int (1 : Int32)), .unset, .unset] [(.ref w_UNSIGNED32_7)])) _
            refine st29.trans ?_
            exact kt)
        obtain rfl : w_UNSIGNED32_7 = r30 := Pr30.2 hs12
        obtain ⟨T32, X32, e32, st32⟩ := getS2 X29 hx hZ hown (host := "") (Or.inl (hw _ (List.mem_of_getElem? (i := 17) rfl))) Via.refl e29 S_GAUGE32_4 (g := (mkF m 139 #[.val (.int p0), .val (.int p1), .val (.ref w_GAUGE32_5), .val (.ref w_UNSIGNED32_7), .val (.ref w_UNSIGNED32_7), .val (.ref w_UNSIGNED32_7), .val (.int (1 : Int32)), .val (.int (1 : Int32)), .val (.int (1 : Int32)), .val (.int (1 : Int32)), .unset] [(.ref w_UNSIGNED32_7)])) rfl (hb hby at_139)
        have pre33 : ∀ t, Steps p.tables e below (T32.setTop (mkF m 177 #[.val (.int p0), .val (.int p1), .val (.ref w_GAUGE32_5), .val (.ref w_UNSIGNED32_7), .val (.ref w_UNSIGNED32_7), .val (.ref w_UNSIGNED32_7), .val (.int (1 : Int32)), .val (.int (1 : Int32)), .val (.int (1 : Int32)), .val (.int (1 : Int32)), .val (.int (1 : Int32))] [(.int (1 : Int32))])) t → Steps p.tables e below (s₁.setTop (entryFrame m #[(.int p0), (.int p1)] maxLocals)) t := fun t kt => pre31 t (by
            show Steps p.tables e below (T29.setTop (mkF m 125 #[.val (.int p0), .val (.int p1), .val (.ref w_GAUGE32_5), .val (.ref w_UNSIGNED32_7), .val (.ref w_UNSIGNED32_7), .val (.ref w_UNSIGNED32_7), .val (.int (1 : Int32)), .val (.int (1 : Int32)), .val (.int (1 : Int32)), .unset, .unset] [(.ref w_UNSIGNED32_7)])) _
            refine XS.aload X29.here hx rfl (hb hby at_125) rfl rfl ?_
            show Steps p.tables e below (T29.setTop (mkF m 127 #[.val (.int p0), .val (.int p1), .val (.ref w_GAUGE32_5), .val (.ref w_UNSIGNED32_7), .val (.ref w_UNSIGNED32_7), .val (.ref w_UNSIGNED32_7), .val (.int (1 : Int32)), .val (.int (1 : Int32)), .val (.int (1 : Int32)), .unset, .unset] [(.ref w_UNSIGNED32_7), (.ref w_UNSIGNED32_7)])) _
            refine Jvm.RoadKit.acmp (g := (mkF m 127 #[.val (.int p0), .val (.int p1), .val (.ref w_GAUGE32_5), .val (.ref w_UNSIGNED32_7), .val (.ref w_UNSIGNED32_7), .val (.ref w_UNSIGNED32_7), .val (.int (1 : Int32)), .val (.int (1 : Int32)), .val (.int (1 : Int32)), .unset, .unset] [(.ref w_UNSIGNED32_7), (.ref w_UNSIGNED32_7)])) X29 hx rfl rfl rfl (pc0 := 127) (pc' := 130) (same := true) rfl (hb hby at_127) rfl (decide_eq_true rfl) (by decide) (by decide) ?_
            show Steps p.tables e below (T29.setTop (mkF m 130 #[.val (.int p0), .val (.int p1), .val (.ref w_GAUGE32_5), .val (.ref w_UNSIGNED32_7), .val (.ref w_UNSIGNED32_7), .val (.ref w_UNSIGNED32_7), .val (.int (1 : Int32)), .val (.int (1 : Int32)), .val (.int (1 : Int32)), .unset, .unset] [])) _
            refine XS.iconst X29.here hx rfl (hb hby at_130) ?_
            show Steps p.tables e below (T29.setTop (mkF m 131 #[.val (.int p0), .val (.int p1), .val (.ref w_GAUGE32_5), .val (.ref w_UNSIGNED32_7), .val (.ref w_UNSIGNED32_7), .val (.ref w_UNSIGNED32_7), .val (.int (1 : Int32)), .val (.int (1 : Int32)), .val (.int (1 : Int32)), .unset, .unset] [(.int (1 : Int32))])) _
            refine XS.goto X29.here hx rfl (pc0 := 131) (pc' := 135) rfl (hb hby at_131) (by decide) (by decide) ?_
            show Steps p.tables e below (T29.setTop (mkF m 135 #[.val (.int p0), .val (.int p1), .val (.ref w_GAUGE32_5), .val (.ref w_UNSIGNED32_7), .val (.ref w_UNSIGNED32_7), .val (.ref w_UNSIGNED32_7), .val (.int (1 : Int32)), .val (.int (1 : Int32)), .val (.int (1 : Int32)), .unset, .unset] [(.int (1 : Int32))])) _
            refine XS.istore X29.here hx rfl (hb hby at_135) rfl (l' := #[.val (.int p0), .val (.int p1), .val (.ref w_GAUGE32_5), .val (.ref w_UNSIGNED32_7), .val (.ref w_UNSIGNED32_7), .val (.ref w_UNSIGNED32_7), .val (.int (1 : Int32)), .val (.int (1 : Int32)), .val (.int (1 : Int32)), .val (.int (1 : Int32)), .unset]) rfl ?_
            show Steps p.tables e below (T29.setTop (mkF m 137 #[.val (.int p0), .val (.int p1), .val (.ref w_GAUGE32_5), .val (.ref w_UNSIGNED32_7), .val (.ref w_UNSIGNED32_7), .val (.ref w_UNSIGNED32_7), .val (.int (1 : Int32)), .val (.int (1 : Int32)), .val (.int (1 : Int32)), .val (.int (1 : Int32)), .unset] [])) _
            refine XS.aload X29.here hx rfl (hb hby at_137) rfl rfl ?_
            show Steps p.tables e below (T29.setTop (mkF m 139 #[.val (.int p0), .val (.int p1), .val (.ref w_GAUGE32_5), .val (.ref w_UNSIGNED32_7), .val (.ref w_UNSIGNED32_7), .val (.ref w_UNSIGNED32_7), .val (.int (1 : Int32)), .val (.int (1 : Int32)), .val (.int (1 : Int32)), .val (.int (1 : Int32)), .unset] [(.ref w_UNSIGNED32_7)])) _
            refine st32 _ ?_
            show Steps p.tables e below (T32.setTop (mkF m 142 #[.val (.int p0), .val (.int p1), .val (.ref w_GAUGE32_5), .val (.ref w_UNSIGNED32_7), .val (.ref w_UNSIGNED32_7), .val (.ref w_UNSIGNED32_7), .val (.int (1 : Int32)), .val (.int (1 : Int32)), .val (.int (1 : Int32)), .val (.int (1 : Int32)), .unset] [(.ref w_GAUGE32_5), (.ref w_UNSIGNED32_7)])) _
            refine Jvm.RoadKit.acmp (g := (mkF m 142 #[.val (.int p0), .val (.int p1), .val (.ref w_GAUGE32_5), .val (.ref w_UNSIGNED32_7), .val (.ref w_UNSIGNED32_7), .val (.ref w_UNSIGNED32_7), .val (.int (1 : Int32)), .val (.int (1 : Int32)), .val (.int (1 : Int32)), .val (.int (1 : Int32)), .unset] [(.ref w_GAUGE32_5), (.ref w_UNSIGNED32_7)])) X32 hx rfl rfl rfl (pc0 := 142) (pc' := 145) (same := false) rfl (hb hby at_142) rfl (decide_eq_false fun q => hs12 (Value.ref.inj q)) (by decide) (by decide) ?_
            show Steps p.tables e below (T32.setTop (mkF m 145 #[.val (.int p0), .val (.int p1), .val (.ref w_GAUGE32_5), .val (.ref w_UNSIGNED32_7), .val (.ref w_UNSIGNED32_7), .val (.ref w_UNSIGNED32_7), .val (.int (1 : Int32)), .val (.int (1 : Int32)), .val (.int (1 : Int32)), .val (.int (1 : Int32)), .unset] [])) _
            refine XS.iconst X32.here hx rfl (hb hby at_145) ?_
            show Steps p.tables e below (T32.setTop (mkF m 146 #[.val (.int p0), .val (.int p1), .val (.ref w_GAUGE32_5), .val (.ref w_UNSIGNED32_7), .val (.ref w_UNSIGNED32_7), .val (.ref w_UNSIGNED32_7), .val (.int (1 : Int32)), .val (.int (1 : Int32)), .val (.int (1 : Int32)), .val (.int (1 : Int32)), .unset] [(.int (1 : Int32))])) _
            refine XS.goto X32.here hx rfl (pc0 := 146) (pc' := 150) rfl (hb hby at_146) (by decide) (by decide) ?_
            show Steps p.tables e below (T32.setTop (mkF m 150 #[.val (.int p0), .val (.int p1), .val (.ref w_GAUGE32_5), .val (.ref w_UNSIGNED32_7), .val (.ref w_UNSIGNED32_7), .val (.ref w_UNSIGNED32_7), .val (.int (1 : Int32)), .val (.int (1 : Int32)), .val (.int (1 : Int32)), .val (.int (1 : Int32)), .unset] [(.int (1 : Int32))])) _
            refine XS.istore X32.here hx rfl (hb hby at_150) rfl (l' := #[.val (.int p0), .val (.int p1), .val (.ref w_GAUGE32_5), .val (.ref w_UNSIGNED32_7), .val (.ref w_UNSIGNED32_7), .val (.ref w_UNSIGNED32_7), .val (.int (1 : Int32)), .val (.int (1 : Int32)), .val (.int (1 : Int32)), .val (.int (1 : Int32)), .val (.int (1 : Int32))]) rfl ?_
            show Steps p.tables e below (T32.setTop (mkF m 152 #[.val (.int p0), .val (.int p1), .val (.ref w_GAUGE32_5), .val (.ref w_UNSIGNED32_7), .val (.ref w_UNSIGNED32_7), .val (.ref w_UNSIGNED32_7), .val (.int (1 : Int32)), .val (.int (1 : Int32)), .val (.int (1 : Int32)), .val (.int (1 : Int32)), .val (.int (1 : Int32))] [])) _
            refine XS.iload X32.here hx rfl (hb hby at_152) rfl ?_
            show Steps p.tables e below (T32.setTop (mkF m 154 #[.val (.int p0), .val (.int p1), .val (.ref w_GAUGE32_5), .val (.ref w_UNSIGNED32_7), .val (.ref w_UNSIGNED32_7), .val (.ref w_UNSIGNED32_7), .val (.int (1 : Int32)), .val (.int (1 : Int32)), .val (.int (1 : Int32)), .val (.int (1 : Int32)), .val (.int (1 : Int32))] [(.int (1 : Int32))])) _
            refine XS.ifNo X32.here hx rfl (hb hby at_154) rfl ((if0 _ _).trans (feq (by decide : ¬ ((1 : Int32) = (0 : Int32)))).1) ?_
            show Steps p.tables e below (T32.setTop (mkF m 157 #[.val (.int p0), .val (.int p1), .val (.ref w_GAUGE32_5), .val (.ref w_UNSIGNED32_7), .val (.ref w_UNSIGNED32_7), .val (.ref w_UNSIGNED32_7), .val (.int (1 : Int32)), .val (.int (1 : Int32)), .val (.int (1 : Int32)), .val (.int (1 : Int32)), .val (.int (1 : Int32))] [])) _
            refine XS.iload X32.here hx rfl (hb hby at_157) rfl ?_
            show Steps p.tables e below (T32.setTop (mkF m 159 #[.val (.int p0), .val (.int p1), .val (.ref w_GAUGE32_5), .val (.ref w_UNSIGNED32_7), .val (.ref w_UNSIGNED32_7), .val (.ref w_UNSIGNED32_7), .val (.int (1 : Int32)), .val (.int (1 : Int32)), .val (.int (1 : Int32)), .val (.int (1 : Int32)), .val (.int (1 : Int32))] [(.int (1 : Int32))])) _
            refine XS.ifNo X32.here hx rfl (hb hby at_159) rfl ((if0 _ _).trans (feq (by decide : ¬ ((1 : Int32) = (0 : Int32)))).1) ?_
            show Steps p.tables e below (T32.setTop (mkF m 162 #[.val (.int p0), .val (.int p1), .val (.ref w_GAUGE32_5), .val (.ref w_UNSIGNED32_7), .val (.ref w_UNSIGNED32_7), .val (.ref w_UNSIGNED32_7), .val (.int (1 : Int32)), .val (.int (1 : Int32)), .val (.int (1 : Int32)), .val (.int (1 : Int32)), .val (.int (1 : Int32))] [])) _
            refine XS.iload X32.here hx rfl (hb hby at_162) rfl ?_
            show Steps p.tables e below (T32.setTop (mkF m 164 #[.val (.int p0), .val (.int p1), .val (.ref w_GAUGE32_5), .val (.ref w_UNSIGNED32_7), .val (.ref w_UNSIGNED32_7), .val (.ref w_UNSIGNED32_7), .val (.int (1 : Int32)), .val (.int (1 : Int32)), .val (.int (1 : Int32)), .val (.int (1 : Int32)), .val (.int (1 : Int32))] [(.int (1 : Int32))])) _
            refine XS.ifNo X32.here hx rfl (hb hby at_164) rfl ((if0 _ _).trans (feq (by decide : ¬ ((1 : Int32) = (0 : Int32)))).1) ?_
            show Steps p.tables e below (T32.setTop (mkF m 167 #[.val (.int p0), .val (.int p1), .val (.ref w_GAUGE32_5), .val (.ref w_UNSIGNED32_7), .val (.ref w_UNSIGNED32_7), .val (.ref w_UNSIGNED32_7), .val (.int (1 : Int32)), .val (.int (1 : Int32)), .val (.int (1 : Int32)), .val (.int (1 : Int32)), .val (.int (1 : Int32))] [])) _
            refine XS.iload X32.here hx rfl (hb hby at_167) rfl ?_
            show Steps p.tables e below (T32.setTop (mkF m 169 #[.val (.int p0), .val (.int p1), .val (.ref w_GAUGE32_5), .val (.ref w_UNSIGNED32_7), .val (.ref w_UNSIGNED32_7), .val (.ref w_UNSIGNED32_7), .val (.int (1 : Int32)), .val (.int (1 : Int32)), .val (.int (1 : Int32)), .val (.int (1 : Int32)), .val (.int (1 : Int32))] [(.int (1 : Int32))])) _
            refine XS.ifNo X32.here hx rfl (hb hby at_169) rfl ((if0 _ _).trans (feq (by decide : ¬ ((1 : Int32) = (0 : Int32)))).1) ?_
            show Steps p.tables e below (T32.setTop (mkF m 172 #[.val (.int p0), .val (.int p1), .val (.ref w_GAUGE32_5), .val (.ref w_UNSIGNED32_7), .val (.ref w_UNSIGNED32_7), .val (.ref w_UNSIGNED32_7), .val (.int (1 : Int32)), .val (.int (1 : Int32)), .val (.int (1 : Int32)), .val (.int (1 : Int32)), .val (.int (1 : Int32))] [])) _
            refine XS.iconst X32.here hx rfl (hb hby at_172) ?_
            show Steps p.tables e below (T32.setTop (mkF m 173 #[.val (.int p0), .val (.int p1), .val (.ref w_GAUGE32_5), .val (.ref w_UNSIGNED32_7), .val (.ref w_UNSIGNED32_7), .val (.ref w_UNSIGNED32_7), .val (.int (1 : Int32)), .val (.int (1 : Int32)), .val (.int (1 : Int32)), .val (.int (1 : Int32)), .val (.int (1 : Int32))] [(.int (1 : Int32))])) _
            refine XS.goto X32.here hx rfl (pc0 := 173) (pc' := 177) rfl (hb hby at_173) (by decide) (by decide) ?_
            exact kt)
        obtain ⟨fs, hr, hrun, hended, hW, hsame⟩ := X32.leave (v := some (.int (1 : Int32))) (fun h => by rw [Bd.returns] at h; cases h)
        refine ⟨_, _, pre33 _ ?_, hrun, hended, _, _, rfl, ?_, ⟨_, rfl⟩, hW, hsame.mono (by decide) (by decide)⟩
        · show Steps p.tables e below (T32.setTop (mkF m 177 #[.val (.int p0), .val (.int p1), .val (.ref w_GAUGE32_5), .val (.ref w_UNSIGNED32_7), .val (.ref w_UNSIGNED32_7), .val (.ref w_UNSIGNED32_7), .val (.int (1 : Int32)), .val (.int (1 : Int32)), .val (.int (1 : Int32)), .val (.int (1 : Int32)), .val (.int (1 : Int32))] [(.int (1 : Int32))])) _
          exact retN X32 hx (t := .boolean) Bd.returns (by simp) (hb hby at_177) hr
        · show Q0 Z _ _ _ _ _ _ _ _ _ _ _ _ _ _ h0 n0 _ T32.heap _
          rw [e32]
          exact ⟨rfl, N29, rfl⟩
      · skip
        obtain rfl : (0 : Int32) = r26 := Pr26.2 hs12 hs28
        obtain ⟨cq34, kq34, q34a, q34b, q34c⟩ := isOf hZ e25 E_10
        obtain ⟨_, _, ⟨T34, L34, k34, n34⟩, -, X34, ⟨Lc34, hQ34, l34, y34, z34⟩, st34⟩ := X25.virtualBack hx (y := (⟨"com/example/oidwright/oidwright/model/BaseType", "sentAs", "()Lcom/example/oidwright/oidwright/model/BaseType;"⟩ : MethodName)) (z := (⟨"com/example/oidwright/oidwright/model/BaseType", "sentAs", "()Lcom/example/oidwright/oidwright/model/BaseType;"⟩ : MethodName)) hown (mvT hZ (hw _ (List.mem_of_getElem? (i := 10) rfl))) (mvT hZ (hw _ (List.mem_of_getElem? (i := 11) rfl))) (notFace_of_selects (args := #[]) (mvT hZ (hw _ (List.mem_of_getElem? (i := 13) rfl)))) (mvT hZ (hw _ (List.mem_of_getElem? (i := 13) rfl))) (mvT hZ (hw _ (List.mem_of_getElem? (i := 12) rfl))) (by decide) (backOf (W := 0) (rm2 l Z aw hw [] w_UNSIGNED32_7 w_GAUGE32_5 w_UNSIGNED32_7 h0 n0 Z0 S_GAUGE32_4 S_UNSIGNED32_9) hZ (hw _ (List.mem_of_getElem? (i := 14) rfl)) (hw _ (List.mem_of_getElem? (i := 6) rfl)) (by decide) (by decide)) q34a q34c (g := (mkF m 122 #[.val (.int p0), .val (.int p1), .val (.ref w_GAUGE32_5), .val (.ref r4), .val (.ref w_UNSIGNED32_7), .val (.ref r4), .val (.int (1 : Int32)), .val (.int (0 : Int32)), .val (.int (1 : Int32)), .unset, .unset] [(.ref w_UNSIGNED32_7)])) rfl (by rw [hml]; rfl) (Steps.refl _) (argsL := []) (rest := []) (lenOf pd_1 rfl) rfl (by show 2 * 0 + _ ≤ _; exact Nat.le_of_eq rfl) (hb hby at_122) (fun _ _ => ⟨rfl, e25, (by decide : 0 + 0 ≤ _), (by decide : 0 + 0 ≤ _)⟩)
        dsimp only [Pt.U, Pt.locs, Pt.cells, Pt.slots] at X34 l34 y34 z34 st34 hQ34
        subst l34 y34 z34
        obtain ⟨⟨r35, rfl, Pr35⟩, Nq34, e34⟩ := hQ34
        have N34 := Fr.app N25 Nq34
        have pre36 : ∀ t, Steps p.tables e below (T34.setTop (mkF m 125 #[.val (.int p0), .val (.int p1), .val (.ref w_GAUGE32_5), .val (.ref r4), .val (.ref w_UNSIGNED32_7), .val (.ref r4), .val (.int (1 : Int32)), .val (.int (0 : Int32)), .val (.int (1 : Int32)), .unset, .unset] [(.ref r35)])) t → Steps p.tables e below (s₁.setTop (entryFrame m #[(.int p0), (.int p1)] maxLocals)) t := fun t kt => pre27 t (by
            show Steps p.tables e below (T25.setTop (mkF m 86 #[.val (.int p0), .val (.int p1), .val (.ref w_GAUGE32_5), .val (.ref r4), .val (.ref w_UNSIGNED32_7), .val (.ref r4), .val (.int (1 : Int32)), .unset, .unset, .unset, .unset] [(.int (0 : Int32))])) _
            refine XS.ifYes X25.here hx rfl (pc0 := 86) (pc' := 93) rfl (hb hby at_86) rfl ((if0 _ _).trans (teq (rfl : (0 : Int32) = (0 : Int32))).1) (by decide) (by decide) ?_
            show Steps p.tables e below (T25.setTop (mkF m 93 #[.val (.int p0), .val (.int p1), .val (.ref w_GAUGE32_5), .val (.ref r4), .val (.ref w_UNSIGNED32_7), .val (.ref r4), .val (.int (1 : Int32)), .unset, .unset, .unset, .unset] [])) _
            refine XS.iconst X25.here hx rfl (hb hby at_93) ?_
            show Steps p.tables e below (T25.setTop (mkF m 94 #[.val (.int p0), .val (.int p1), .val (.ref w_GAUGE32_5), .val (.ref r4), .val (.ref w_UNSIGNED32_7), .val (.ref r4), .val (.int (1 : Int32)), .unset, .unset, .unset, .unset] [(.int (0 : Int32))])) _
            refine XS.istore X25.here hx rfl (hb hby at_94) rfl (l' := #[.val (.int p0), .val (.int p1), .val (.ref w_GAUGE32_5), .val (.ref r4), .val (.ref w_UNSIGNED32_7), .val (.ref r4), .val (.int (1 : Int32)), .val (.int (0 : Int32)), .unset, .unset, .unset]) rfl ?_
            show Steps p.tables e below (T25.setTop (mkF m 96 #[.val (.int p0), .val (.int p1), .val (.ref w_GAUGE32_5), .val (.ref r4), .val (.ref w_UNSIGNED32_7), .val (.ref r4), .val (.int (1 : Int32)), .val (.int (0 : Int32)), .unset, .unset, .unset] [])) _
            refine XS.aload X25.here hx rfl (hb hby at_96) rfl rfl ?_
            show Steps p.tables e below (T25.setTop (mkF m 98 #[.val (.int p0), .val (.int p1), .val (.ref w_GAUGE32_5), .val (.ref r4), .val (.ref w_UNSIGNED32_7), .val (.ref r4), .val (.int (1 : Int32)), .val (.int (0 : Int32)), .unset, .unset, .unset] [(.ref w_UNSIGNED32_7)])) _
            refine XS.aload X25.here hx rfl (hb hby at_98) rfl rfl ?_
            show Steps p.tables e below (T25.setTop (mkF m 100 #[.val (.int p0), .val (.int p1), .val (.ref w_GAUGE32_5), .val (.ref r4), .val (.ref w_UNSIGNED32_7), .val (.ref r4), .val (.int (1 : Int32)), .val (.int (0 : Int32)), .unset, .unset, .unset] [(.ref r4), (.ref w_UNSIGNED32_7)])) _
            refine Jvm.RoadKit.acmp (g := (mkF m 100 #[.val (.int p0), .val (.int p1), .val (.ref w_GAUGE32_5), .val (.ref r4), .val (.ref w_UNSIGNED32_7), .val (.ref r4), .val (.int (1 : Int32)), .val (.int (0 : Int32)), .unset, .unset, .unset] [(.ref r4), (.ref w_UNSIGNED32_7)])) X25 hx rfl rfl rfl (pc0 := 100) (pc' := 107) (same := false) rfl (hb hby at_100) rfl (decide_eq_false fun q => (Ne.symm hs28) (Value.ref.inj q)) (by decide) (by decide) ?_
            show Steps p.tables e below (T25.setTop (mkF m 107 #[.val (.int p0), .val (.int p1), .val (.ref w_GAUGE32_5), .val (.ref r4), .val (.ref w_UNSIGNED32_7), .val (.ref r4), .val (.int (1 : Int32)), .val (.int (0 : Int32)), .unset, .unset, .unset] [])) _
            refine XS.iconst X25.here hx rfl (hb hby at_107) ?_
            show Steps p.tables e below (T25.setTop (mkF m 108 #[.val (.int p0), .val (.int p1), .val (.ref w_GAUGE32_5), .val (.ref r4), .val (.ref w_UNSIGNED32_7), .val (.ref r4), .val (.int (1 : Int32)), .val (.int (0 : Int32)), .unset, .unset, .unset] [(.int (0 : Int32))])) _
            refine XS.iload X25.here hx rfl (hb hby at_108) rfl ?_
            show Steps p.tables e below (T25.setTop (mkF m 110 #[.val (.int p0), .val (.int p1), .val (.ref w_GAUGE32_5), .val (.ref r4), .val (.ref w_UNSIGNED32_7), .val (.ref r4), .val (.int (1 : Int32)), .val (.int (0 : Int32)), .unset, .unset, .unset] [(.int (0 : Int32)), (.int (0 : Int32))])) _
            refine XS.icmpNo X25.here hx rfl (hb hby at_110) rfl (teq (rfl : (0 : Int32) = (0 : Int32))).2 ?_
            show Steps p.tables e below (T25.setTop (mkF m 113 #[.val (.int p0), .val (.int p1), .val (.ref w_GAUGE32_5), .val (.ref r4), .val (.ref w_UNSIGNED32_7), .val (.ref r4), .val (.int (1 : Int32)), .val (.int (0 : Int32)), .unset, .unset, .unset] [])) _
            refine XS.iconst X25.here hx rfl (hb hby at_113) ?_
            show Steps p.tables e below (T25.setTop (mkF m 114 #[.val (.int p0), .val (.int p1), .val (.ref w_GAUGE32_5), .val (.ref r4), .val (.ref w_UNSIGNED32_7), .val (.ref r4), .val (.int (1 : Int32)), .val (.int (0 : Int32)), .unset, .unset, .unset] [(.int (1 : Int32))])) _
            refine XS.goto X25.here hx rfl (pc0 := 114) (pc' := 118) rfl (hb hby at_114) (by decide) (by decide) ?_
            show Steps p.tables e below (T25.setTop (mkF m 118 #[.val (.int p0), .val (.int p1), .val (.ref w_GAUGE32_5), .val (.ref r4), .val (.ref w_UNSIGNED32_7), .val (.ref r4), .val (.int (1 : Int32)), .val (.int (0 : Int32)), .unset, .unset, .unset] [(.int (1 : Int32))])) _
            refine XS.istore X25.here hx rfl (hb hby at_118) rfl (l' := #[.val (.int p0), .val (.int p1), .val (.ref w_GAUGE32_5), .val (.ref r4), .val (.ref w_UNSIGNED32_7), .val (.ref r4), .val (.int (1 : Int32)), .val (.int (0 : Int32)), .val (.int (1 : Int32)), .unset, .unset]) rfl ?_
            show Steps p.tables e below (T25.setTop (mkF m 120 #[.val (.int p0), .val (.int p1), .val (.ref w_GAUGE32_5), .val (.ref r4), .val (.ref w_UNSIGNED32_7), .val (.ref r4), .val (.int (1 : Int32)), .val (.int (0 : Int32)), .val (.int (1 : Int32)), .unset, .unset] [])) _
            refine XS.aload X25.here hx rfl (hb hby at_120) rfl rfl ?_
            show Steps p.tables e below (T25.setTop (mkF m 122 #[.val (.int p0), .val (.int p1), .val (.ref w_GAUGE32_5), .val (.ref r4), .val (.ref w_UNSIGNED32_7), .val (.ref r4), .val (.int (1 : Int32)), .val (.int (0 : Int32)), .val (.int (1 : Int32)), .unset, .unset] [(.ref w_UNSIGNED32_7)])) _
            refine st34.trans ?_
            exact kt)
        obtain rfl : w_UNSIGNED32_7 = r35 := Pr35.2 (Fld.ne F_ordinal_11 F_ordinal_7 (by decide))
        obtain ⟨T37, X37, e37, st37⟩ := getS2 X34 hx hZ hown (host := "") (Or.inl (hw _ (List.mem_of_getElem? (i := 17) rfl))) Via.refl e34 S_GAUGE32_4 (g := (mkF m 139 #[.val (.int p0), .val (.int p1), .val (.ref w_GAUGE32_5), .val (.ref r4), .val (.ref w_UNSIGNED32_7), .val (.ref r4), .val (.int (1 : Int32)), .val (.int (0 : Int32)), .val (.int (1 : Int32)), .val (.int (1 : Int32)), .unset] [(.ref w_UNSIGNED32_7)])) rfl (hb hby at_139)
        have pre38 : ∀ t, Steps p.tables e below (T37.setTop (mkF m 177 #[.val (.int p0), .val (.int p1), .val (.ref w_GAUGE32_5), .val (.ref r4), .val (.ref w_UNSIGNED32_7), .val (.ref r4), .val (.int (1 : Int32)), .val (.int (0 : Int32)), .val (.int (1 : Int32)), .val (.int (1 : Int32)), .val (.int (1 : Int32))] [(.int (1 : Int32))])) t → Steps p.tables e below (s₁.setTop (entryFrame m #[(.int p0), (.int p1)] maxLocals)) t := fun t kt => pre36 t (by
            show Steps p.tables e below (T34.setTop (mkF m 125 #[.val (.int p0), .val (.int p1), .val (.ref w_GAUGE32_5), .val (.ref r4), .val (.ref w_UNSIGNED32_7), .val (.ref r4), .val (.int (1 : Int32)), .val (.int (0 : Int32)), .val (.int (1 : Int32)), .unset, .unset] [(.ref w_UNSIGNED32_7)])) _
            refine XS.aload X34.here hx rfl (hb hby at_125) rfl rfl ?_
            show Steps p.tables e below (T34.setTop (mkF m 127 #[.val (.int p0), .val (.int p1), .val (.ref w_GAUGE32_5), .val (.ref r4), .val (.ref w_UNSIGNED32_7), .val (.ref r4), .val (.int (1 : Int32)), .val (.int (0 : Int32)), .val (.int (1 : Int32)), .unset, .unset] [(.ref w_UNSIGNED32_7), (.ref w_UNSIGNED32_7)])) _
            refine Jvm.RoadKit.acmp (g := (mkF m 127 #[.val (.int p0), .val (.int p1), .val (.ref w_GAUGE32_5), .val (.ref r4), .val (.ref w_UNSIGNED32_7), .val (.ref r4), .val (.int (1 : Int32)), .val (.int (0 : Int32)), .val (.int (1 : Int32)), .unset, .unset] [(.ref w_UNSIGNED32_7), (.ref w_UNSIGNED32_7)])) X34 hx rfl rfl rfl (pc0 := 127) (pc' := 130) (same := true) rfl (hb hby at_127) rfl (decide_eq_true rfl) (by decide) (by decide) ?_
            show Steps p.tables e below (T34.setTop (mkF m 130 #[.val (.int p0), .val (.int p1), .val (.ref w_GAUGE32_5), .val (.ref r4), .val (.ref w_UNSIGNED32_7), .val (.ref r4), .val (.int (1 : Int32)), .val (.int (0 : Int32)), .val (.int (1 : Int32)), .unset, .unset] [])) _
            refine XS.iconst X34.here hx rfl (hb hby at_130) ?_
            show Steps p.tables e below (T34.setTop (mkF m 131 #[.val (.int p0), .val (.int p1), .val (.ref w_GAUGE32_5), .val (.ref r4), .val (.ref w_UNSIGNED32_7), .val (.ref r4), .val (.int (1 : Int32)), .val (.int (0 : Int32)), .val (.int (1 : Int32)), .unset, .unset] [(.int (1 : Int32))])) _
            refine XS.goto X34.here hx rfl (pc0 := 131) (pc' := 135) rfl (hb hby at_131) (by decide) (by decide) ?_
            show Steps p.tables e below (T34.setTop (mkF m 135 #[.val (.int p0), .val (.int p1), .val (.ref w_GAUGE32_5), .val (.ref r4), .val (.ref w_UNSIGNED32_7), .val (.ref r4), .val (.int (1 : Int32)), .val (.int (0 : Int32)), .val (.int (1 : Int32)), .unset, .unset] [(.int (1 : Int32))])) _
            refine XS.istore X34.here hx rfl (hb hby at_135) rfl (l' := #[.val (.int p0), .val (.int p1), .val (.ref w_GAUGE32_5), .val (.ref r4), .val (.ref w_UNSIGNED32_7), .val (.ref r4), .val (.int (1 : Int32)), .val (.int (0 : Int32)), .val (.int (1 : Int32)), .val (.int (1 : Int32)), .unset]) rfl ?_
            show Steps p.tables e below (T34.setTop (mkF m 137 #[.val (.int p0), .val (.int p1), .val (.ref w_GAUGE32_5), .val (.ref r4), .val (.ref w_UNSIGNED32_7), .val (.ref r4), .val (.int (1 : Int32)), .val (.int (0 : Int32)), .val (.int (1 : Int32)), .val (.int (1 : Int32)), .unset] [])) _
            refine XS.aload X34.here hx rfl (hb hby at_137) rfl rfl ?_
            show Steps p.tables e below (T34.setTop (mkF m 139 #[.val (.int p0), .val (.int p1), .val (.ref w_GAUGE32_5), .val (.ref r4), .val (.ref w_UNSIGNED32_7), .val (.ref r4), .val (.int (1 : Int32)), .val (.int (0 : Int32)), .val (.int (1 : Int32)), .val (.int (1 : Int32)), .unset] [(.ref w_UNSIGNED32_7)])) _
            refine st37 _ ?_
            show Steps p.tables e below (T37.setTop (mkF m 142 #[.val (.int p0), .val (.int p1), .val (.ref w_GAUGE32_5), .val (.ref r4), .val (.ref w_UNSIGNED32_7), .val (.ref r4), .val (.int (1 : Int32)), .val (.int (0 : Int32)), .val (.int (1 : Int32)), .val (.int (1 : Int32)), .unset] [(.ref w_GAUGE32_5), (.ref w_UNSIGNED32_7)])) _
            refine Jvm.RoadKit.acmp (g := (mkF m 142 #[.val (.int p0), .val (.int p1), .val (.ref w_GAUGE32_5), .val (.ref r4), .val (.ref w_UNSIGNED32_7), .val (.ref r4), .val (.int (1 : Int32)), .val (.int (0 : Int32)), .val (.int (1 : Int32)), .val (.int (1 : Int32)), .unset] [(.ref w_GAUGE32_5), (.ref w_UNSIGNED32_7)])) X37 hx rfl rfl rfl (pc0 := 142) (pc' := 145) (same := false) rfl (hb hby at_142) rfl (decide_eq_false fun q => (Fld.ne F_ordinal_11 F_ordinal_7 (by decide)) (Value.ref.inj q)) (by decide) (by decide) ?_
            show Steps p.tables e below (T37.setTop (mkF m 145 #[.val (.int p0), .val (.int p1), .val (.ref w_GAUGE32_5), .val (.ref r4), .val (.ref w_UNSIGNED32_7), .val (.ref r4), .val (.int (1 : Int32)), .val (.int (0 : Int32)), .val (.int (1 : Int32)), .val (.int (1 : Int32)), .unset] [])) _
            refine XS.iconst X37.here hx rfl (hb hby at_145) ?_
            show Steps p.tables e below (T37.setTop (mkF m 146 #[.val (.int p0), .val (.int p1), .val (.ref w_GAUGE32_5), .val (.ref r4), .val (.ref w_UNSIGNED32_7), .val (.ref r4), .val (.int (1 : Int32)), .val (.int (0 : Int32)), .val (.int (1 : Int32)), .val (.int (1 : Int32)), .unset] [(.int (1 : Int32))])) _
            refine XS.goto X37.here hx rfl (pc0 := 146) (pc' := 150) rfl (hb hby at_146) (by decide) (by decide) ?_
            show Steps p.tables e below (T37.setTop (mkF m 150 #[.val (.int p0), .val (.int p1), .val (.ref w_GAUGE32_5), .val (.ref r4), .val (.ref w_UNSIGNED32_7), .val (.ref r4), .val (.int (1 : Int32)), .val (.int (0 : Int32)), .val (.int (1 : Int32)), .val (.int (1 : Int32)), .unset] [(.int (1 : Int32))])) _
            refine XS.istore X37.here hx rfl (hb hby at_150) rfl (l' := #[.val (.int p0), .val (.int p1), .val (.ref w_GAUGE32_5), .val (.ref r4), .val (.ref w_UNSIGNED32_7), .val (.ref r4), .val (.int (1 : Int32)), .val (.int (0 : Int32)), .val (.int (1 : Int32)), .val (.int (1 : Int32)), .val (.int (1 : Int32))]) rfl ?_
            show Steps p.tables e below (T37.setTop (mkF m 152 #[.val (.int p0), .val (.int p1), .val (.ref w_GAUGE32_5), .val (.ref r4), .val (.ref w_UNSIGNED32_7), .val (.ref r4), .val (.int (1 : Int32)), .val (.int (0 : Int32)), .val (.int (1 : Int32)), .val (.int (1 : Int32)), .val (.int (1 : Int32))] [])) _
            refine XS.iload X37.here hx rfl (hb hby at_152) rfl ?_
            show Steps p.tables e below (T37.setTop (mkF m 154 #[.val (.int p0), .val (.int p1), .val (.ref w_GAUGE32_5), .val (.ref r4), .val (.ref w_UNSIGNED32_7), .val (.ref r4), .val (.int (1 : Int32)), .val (.int (0 : Int32)), .val (.int (1 : Int32)), .val (.int (1 : Int32)), .val (.int (1 : Int32))] [(.int (1 : Int32))])) _
            refine XS.ifNo X37.here hx rfl (hb hby at_154) rfl ((if0 _ _).trans (feq (by decide : ¬ ((1 : Int32) = (0 : Int32)))).1) ?_
            show Steps p.tables e below (T37.setTop (mkF m 157 #[.val (.int p0), .val (.int p1), .val (.ref w_GAUGE32_5), .val (.ref r4), .val (.ref w_UNSIGNED32_7), .val (.ref r4), .val (.int (1 : Int32)), .val (.int (0 : Int32)), .val (.int (1 : Int32)), .val (.int (1 : Int32)), .val (.int (1 : Int32))] [])) _
            refine XS.iload X37.here hx rfl (hb hby at_157) rfl ?_
            show Steps p.tables e below (T37.setTop (mkF m 159 #[.val (.int p0), .val (.int p1), .val (.ref w_GAUGE32_5), .val (.ref r4), .val (.ref w_UNSIGNED32_7), .val (.ref r4), .val (.int (1 : Int32)), .val (.int (0 : Int32)), .val (.int (1 : Int32)), .val (.int (1 : Int32)), .val (.int (1 : Int32))] [(.int (1 : Int32))])) _
            refine XS.ifNo X37.here hx rfl (hb hby at_159) rfl ((if0 _ _).trans (feq (by decide : ¬ ((1 : Int32) = (0 : Int32)))).1) ?_
            show Steps p.tables e below (T37.setTop (mkF m 162 #[.val (.int p0), .val (.int p1), .val (.ref w_GAUGE32_5), .val (.ref r4), .val (.ref w_UNSIGNED32_7), .val (.ref r4), .val (.int (1 : Int32)), .val (.int (0 : Int32)), .val (.int (1 : Int32)), .val (.int (1 : Int32)), .val (.int (1 : Int32))] [])) _
            refine XS.iload X37.here hx rfl (hb hby at_162) rfl ?_
            show Steps p.tables e below (T37.setTop (mkF m 164 #[.val (.int p0), .val (.int p1), .val (.ref w_GAUGE32_5), .val (.ref r4), .val (.ref w_UNSIGNED32_7), .val (.ref r4), .val (.int (1 : Int32)), .val (.int (0 : Int32)), .val (.int (1 : Int32)), .val (.int (1 : Int32)), .val (.int (1 : Int32))] [(.int (1 : Int32))])) _
            refine XS.ifNo X37.here hx rfl (hb hby at_164) rfl ((if0 _ _).trans (feq (by decide : ¬ ((1 : Int32) = (0 : Int32)))).1) ?_
            show Steps p.tables e below (T37.setTop (mkF m 167 #[.val (.int p0), .val (.int p1), .val (.ref w_GAUGE32_5), .val (.ref r4), .val (.ref w_UNSIGNED32_7), .val (.ref r4), .val (.int (1 : Int32)), .val (.int (0 : Int32)), .val (.int (1 : Int32)), .val (.int (1 : Int32)), .val (.int (1 : Int32))] [])) _
            refine XS.iload X37.here hx rfl (hb hby at_167) rfl ?_
            show Steps p.tables e below (T37.setTop (mkF m 169 #[.val (.int p0), .val (.int p1), .val (.ref w_GAUGE32_5), .val (.ref r4), .val (.ref w_UNSIGNED32_7), .val (.ref r4), .val (.int (1 : Int32)), .val (.int (0 : Int32)), .val (.int (1 : Int32)), .val (.int (1 : Int32)), .val (.int (1 : Int32))] [(.int (1 : Int32))])) _
            refine XS.ifNo X37.here hx rfl (hb hby at_169) rfl ((if0 _ _).trans (feq (by decide : ¬ ((1 : Int32) = (0 : Int32)))).1) ?_
            show Steps p.tables e below (T37.setTop (mkF m 172 #[.val (.int p0), .val (.int p1), .val (.ref w_GAUGE32_5), .val (.ref r4), .val (.ref w_UNSIGNED32_7), .val (.ref r4), .val (.int (1 : Int32)), .val (.int (0 : Int32)), .val (.int (1 : Int32)), .val (.int (1 : Int32)), .val (.int (1 : Int32))] [])) _
            refine XS.iconst X37.here hx rfl (hb hby at_172) ?_
            show Steps p.tables e below (T37.setTop (mkF m 173 #[.val (.int p0), .val (.int p1), .val (.ref w_GAUGE32_5), .val (.ref r4), .val (.ref w_UNSIGNED32_7), .val (.ref r4), .val (.int (1 : Int32)), .val (.int (0 : Int32)), .val (.int (1 : Int32)), .val (.int (1 : Int32)), .val (.int (1 : Int32))] [(.int (1 : Int32))])) _
            refine XS.goto X37.here hx rfl (pc0 := 173) (pc' := 177) rfl (hb hby at_173) (by decide) (by decide) ?_
            exact kt)
        obtain ⟨fs, hr, hrun, hended, hW, hsame⟩ := X37.leave (v := some (.int (1 : Int32))) (fun h => by rw [Bd.returns] at h; cases h)
        refine ⟨_, _, pre38 _ ?_, hrun, hended, _, _, rfl, ?_, ⟨_, rfl⟩, hW, hsame.mono (by decide) (by decide)⟩
        · show Steps p.tables e below (T37.setTop (mkF m 177 #[.val (.int p0), .val (.int p1), .val (.ref w_GAUGE32_5), .val (.ref r4), .val (.ref w_UNSIGNED32_7), .val (.ref r4), .val (.int (1 : Int32)), .val (.int (0 : Int32)), .val (.int (1 : Int32)), .val (.int (1 : Int32)), .val (.int (1 : Int32))] [(.int (1 : Int32))])) _
          exact retN X37 hx (t := .boolean) Bd.returns (by simp) (hb hby at_177) hr
        · show Q0 Z _ _ _ _ _ _ _ _ _ _ _ _ _ _ h0 n0 _ T37.heap _
          rw [e37]
          exact ⟨rfl, N34, rfl⟩
  · skip
    obtain rfl : r2 = r6 := Pr6.2 hs8
    obtain ⟨cq39, kq39, q39a, q39b, q39c⟩ := isOf hZ e5 Pr4
    obtain ⟨_, _, ⟨T39, L39, k39, n39⟩, -, X39, ⟨Lc39, hQ39, l39, y39, z39⟩, st39⟩ := X5.virtualBack hx (y := (⟨"com/example/oidwright/oidwright/model/BaseType", "sentAs", "()Lcom/example/oidwright/oidwright/model/BaseType;"⟩ : MethodName)) (z := (⟨"com/example/oidwright/oidwright/model/BaseType", "sentAs", "()Lcom/example/oidwright/oidwright/model/BaseType;"⟩ : MethodName)) hown (mvT hZ (hw _ (List.mem_of_getElem? (i := 10) rfl))) (mvT hZ (hw _ (List.mem_of_getElem? (i := 11) rfl))) (notFace_of_selects (args := #[]) (mvT hZ (hw _ (List.mem_of_getElem? (i := 13) rfl)))) (mvT hZ (hw _ (List.mem_of_getElem? (i := 13) rfl))) (mvT hZ (hw _ (List.mem_of_getElem? (i := 12) rfl))) (by decide) (backOf (W := 0) (rm2 l Z aw hw [] r4 w_GAUGE32_5 w_UNSIGNED32_7 h0 n0 Z0 S_GAUGE32_4 S_UNSIGNED32_9) hZ (hw _ (List.mem_of_getElem? (i := 14) rfl)) (hw _ (List.mem_of_getElem? (i := 6) rfl)) (by decide) (by decide)) q39a q39c (g := (mkF m 17 #[.val (.int p0), .val (.int p1), .val (.ref r2), .val (.ref r4), .val (.ref r2), .unset, .unset, .unset, .unset, .unset, .unset] [(.ref r4)])) rfl (by rw [hml]; rfl) (Steps.refl _) (argsL := []) (rest := []) (lenOf pd_1 rfl) rfl (by show 2 * 0 + _ ≤ _; exact Nat.le_of_eq rfl) (hb hby at_17) (fun _ _ => ⟨rfl, e5, (by decide : 0 + 0 ≤ _), (by decide : 0 + 0 ≤ _)⟩)
    dsimp only [Pt.U, Pt.locs, Pt.cells, Pt.slots] at X39 l39 y39 z39 st39 hQ39
    subst l39 y39 z39
    obtain ⟨⟨r40, rfl, Pr40⟩, Nq39, e39⟩ := hQ39
    have N39 := Fr.app N5 Nq39
    have pre41 : ∀ t, Steps p.tables e below (T39.setTop (mkF m 20 #[.val (.int p0), .val (.int p1), .val (.ref r2), .val (.ref r4), .val (.ref r2), .unset, .unset, .unset, .unset, .unset, .unset] [(.ref r40)])) t → Steps p.tables e below (s₁.setTop (entryFrame m #[(.int p0), (.int p1)] maxLocals)) t := fun t kt => pre7 t (by
        show Steps p.tables e below (T5.setTop (mkF m 14 #[.val (.int p0), .val (.int p1), .val (.ref r2), .val (.ref r4), .unset, .unset, .unset, .unset, .unset, .unset, .unset] [(.ref r2)])) _
        refine XS.astore X5.here hx rfl (hb hby at_14) rfl rfl (l' := #[.val (.int p0), .val (.int p1), .val (.ref r2), .val (.ref r4), .val (.ref r2), .unset, .unset, .unset, .unset, .unset, .unset]) rfl ?_
        show Steps p.tables e below (T5.setTop (mkF m 16 #[.val (.int p0), .val (.int p1), .val (.ref r2), .val (.ref r4), .val (.ref r2), .unset, .unset, .unset, .unset, .unset, .unset] [])) _
        refine XS.aloadN X5.here hx rfl (hb hby at_16) rfl rfl ?_
        show Steps p.tables e below (T5.setTop (mkF m 17 #[.val (.int p0), .val (.int p1), .val (.ref r2), .val (.ref r4), .val (.ref r2), .unset, .unset, .unset, .unset, .unset, .unset] [(.ref r4)])) _
        refine st39.trans ?_
        exact kt)
    by_cases hs42 : r4 = w_GAUGE32_5
    · skip
      obtain rfl : w_GAUGE32_5 = r4 := hs42.symm
      obtain rfl : w_UNSIGNED32_7 = r40 := Pr40.1 rfl
      obtain ⟨T43, X43, e43, st43⟩ := getS2 X39 hx hZ hown (host := "") (Or.inl (hw _ (List.mem_of_getElem? (i := 17) rfl))) Via.refl e39 S_GAUGE32_4 (g := (mkF m 35 #[.val (.int p0), .val (.int p1), .val (.ref r2), .val (.ref w_GAUGE32_5), .val (.ref r2), .val (.ref w_UNSIGNED32_7), .unset, .unset, .unset, .unset, .unset] [(.ref r2)])) rfl (hb hby at_35)
      obtain ⟨_, _, ⟨T44, L44, k44, n44⟩, -, X44, ⟨Lc44, hQ44, l44, y44, z44⟩, st44⟩ := Jvm.LawKit.callS X43 hx (y := (⟨"com/example/oidwright/oidwright/model/BaseTypeSentAsPinLaw", "app2", "(Lcom/example/oidwright/oidwright/model/BaseType;)Z"⟩ : MethodName)) hown (mvT hZ (hw _ (List.mem_of_getElem? (i := 18) rfl))) (mvT hZ (hw _ (List.mem_of_getElem? (i := 19) rfl))) (mvT hZ (hw _ (List.mem_of_getElem? (i := 2) rfl))) (mvT hZ (hw _ (List.mem_of_getElem? (i := 20) rfl))) (by decide) (backOf (W := 0) (rm3 l Z aw hw [] r2 w_GAUGE32_5 w_UNSIGNED32_7 h0 n0 Z0 S_GAUGE32_4 S_UNSIGNED32_9) hZ (hw _ (List.mem_of_getElem? (i := 20) rfl)) (hw _ (List.mem_of_getElem? (i := 2) rfl)) (by decide) (by decide)) (g := (mkF m 76 #[.val (.int p0), .val (.int p1), .val (.ref r2), .val (.ref w_GAUGE32_5), .val (.ref r2), .val (.ref w_UNSIGNED32_7), .val (.int (1 : Int32)), .unset, .unset, .unset, .unset] [(.ref r2)])) rfl (by rw [hml]; rfl) (argsL := [(.ref r2)]) (rest := []) (lenOf pd_2 rfl) rfl (by show 2 * 0 + _ ≤ _; exact Nat.le_of_eq rfl) (hb hby at_76) (fun _ _ => ⟨rfl, e43, (by decide : 0 + 0 ≤ _), (by decide : 0 + 0 ≤ _)⟩)
      dsimp only [Pt.U, Pt.locs, Pt.cells, Pt.slots] at X44 l44 y44 z44 st44 hQ44
      subst l44 y44 z44
      obtain ⟨⟨r45, rfl, Pr45⟩, Nq44, e44⟩ := hQ44
      have N44 := Fr.app N39 Nq44
      have pre46 : ∀ t, Steps p.tables e below (T44.setTop (mkF m 79 #[.val (.int p0), .val (.int p1), .val (.ref r2), .val (.ref w_GAUGE32_5), .val (.ref r2), .val (.ref w_UNSIGNED32_7), .val (.int (1 : Int32)), .unset, .unset, .unset, .unset] [(.int r45)])) t → Steps p.tables e below (s₁.setTop (entryFrame m #[(.int p0), (.int p1)] maxLocals)) t := fun t kt => pre41 t (by
          show Steps p.tables e below (T39.setTop (mkF m 20 #[.val (.int p0), .val (.int p1), .val (.ref r2), .val (.ref w_GAUGE32_5), .val (.ref r2), .unset, .unset, .unset, .unset, .unset, .unset] [(.ref w_UNSIGNED32_7)])) _
          refine XS.astore X39.here hx rfl (hb hby at_20) rfl rfl (l' := #[.val (.int p0), .val (.int p1), .val (.ref r2), .val (.ref w_GAUGE32_5), .val (.ref r2), .val (.ref w_UNSIGNED32_7), .unset, .unset, .unset, .unset, .unset]) rfl ?_
          show Steps p.tables e below (T39.setTop (mkF m 22 #[.val (.int p0), .val (.int p1), .val (.ref r2), .val (.ref w_GAUGE32_5), .val (.ref r2), .val (.ref w_UNSIGNED32_7), .unset, .unset, .unset, .unset, .unset] [])) _
          refine XS.aload X39.here hx rfl (hb hby at_22) rfl rfl ?_
          show Steps p.tables e below (T39.setTop (mkF m 24 #[.val (.int p0), .val (.int p1), .val (.ref r2), .val (.ref w_GAUGE32_5), .val (.ref r2), .val (.ref w_UNSIGNED32_7), .unset, .unset, .unset, .unset, .unset] [(.ref r2)])) _
          refine XS.ifnullNo X39.here hx rfl (hb hby at_24) rfl ?_
          show Steps p.tables e below (T39.setTop (mkF m 27 #[.val (.int p0), .val (.int p1), .val (.ref r2), .val (.ref w_GAUGE32_5), .val (.ref r2), .val (.ref w_UNSIGNED32_7), .unset, .unset, .unset, .unset, .unset] [])) _
          refine XS.aload X39.here hx rfl (hb hby at_27) rfl rfl ?_
          show Steps p.tables e below (T39.setTop (mkF m 29 #[.val (.int p0), .val (.int p1), .val (.ref r2), .val (.ref w_GAUGE32_5), .val (.ref r2), .val (.ref w_UNSIGNED32_7), .unset, .unset, .unset, .unset, .unset] [(.ref w_UNSIGNED32_7)])) _
          refine XS.ifnonnullYes X39.here hx rfl (pc0 := 29) (pc' := 34) rfl (hb hby at_29) rfl (by decide) (by decide) ?_
          show Steps p.tables e below (T39.setTop (mkF m 34 #[.val (.int p0), .val (.int p1), .val (.ref r2), .val (.ref w_GAUGE32_5), .val (.ref r2), .val (.ref w_UNSIGNED32_7), .unset, .unset, .unset, .unset, .unset] [])) _
          refine XS.aloadN X39.here hx rfl (hb hby at_34) rfl rfl ?_
          show Steps p.tables e below (T39.setTop (mkF m 35 #[.val (.int p0), .val (.int p1), .val (.ref r2), .val (.ref w_GAUGE32_5), .val (.ref r2), .val (.ref w_UNSIGNED32_7), .unset, .unset, .unset, .unset, .unset] [(.ref r2)])) _
          refine st43 _ ?_
          show Steps p.tables e below (T43.setTop (mkF m 38 #[.val (.int p0), .val (.int p1), .val (.ref r2), .val (.ref w_GAUGE32_5), .val (.ref r2), .val (.ref w_UNSIGNED32_7), .unset, .unset, .unset, .unset, .unset] [(.ref w_GAUGE32_5), (.ref r2)])) _
          refine Jvm.RoadKit.acmp (g := (mkF m 38 #[.val (.int p0), .val (.int p1), .val (.ref r2), .val (.ref w_GAUGE32_5), .val (.ref r2), .val (.ref w_UNSIGNED32_7), .unset, .unset, .unset, .unset, .unset] [(.ref w_GAUGE32_5), (.ref r2)])) X43 hx rfl rfl rfl (pc0 := 38) (pc' := 57) (same := false) rfl (hb hby at_38) rfl (decide_eq_false fun q => hs8 (Value.ref.inj q)) (by decide) (by decide) ?_
          show Steps p.tables e below (T43.setTop (mkF m 57 #[.val (.int p0), .val (.int p1), .val (.ref r2), .val (.ref w_GAUGE32_5), .val (.ref r2), .val (.ref w_UNSIGNED32_7), .unset, .unset, .unset, .unset, .unset] [])) _
          refine XS.aload X43.here hx rfl (hb hby at_57) rfl rfl ?_
          show Steps p.tables e below (T43.setTop (mkF m 59 #[.val (.int p0), .val (.int p1), .val (.ref r2), .val (.ref w_GAUGE32_5), .val (.ref r2), .val (.ref w_UNSIGNED32_7), .unset, .unset, .unset, .unset, .unset] [(.ref r2)])) _
          refine XS.aloadN X43.here hx rfl (hb hby at_59) rfl rfl ?_
          show Steps p.tables e below (T43.setTop (mkF m 60 #[.val (.int p0), .val (.int p1), .val (.ref r2), .val (.ref w_GAUGE32_5), .val (.ref r2), .val (.ref w_UNSIGNED32_7), .unset, .unset, .unset, .unset, .unset] [(.ref r2), (.ref r2)])) _
          refine Jvm.RoadKit.acmp (g := (mkF m 60 #[.val (.int p0), .val (.int p1), .val (.ref r2), .val (.ref w_GAUGE32_5), .val (.ref r2), .val (.ref w_UNSIGNED32_7), .unset, .unset, .unset, .unset, .unset] [(.ref r2), (.ref r2)])) X43 hx rfl rfl rfl (pc0 := 60) (pc' := 63) (same := true) rfl (hb hby at_60) rfl (decide_eq_true rfl) (by decide) (by decide) ?_
          show Steps p.tables e below (T43.setTop (mkF m 63 #[.val (.int p0), .val (.int p1), .val (.ref r2), .val (.ref w_GAUGE32_5), .val (.ref r2), .val (.ref w_UNSIGNED32_7), .unset, .unset, .unset, .unset, .unset] [])) _
          refine XS.iconst X43.here hx rfl (hb hby at_63) ?_
          show Steps p.tables e below (T43.setTop (mkF m 64 #[.val (.int p0), .val (.int p1), .val (.ref r2), .val (.ref w_GAUGE32_5), .val (.ref r2), .val (.ref w_UNSIGNED32_7), .unset, .unset, .unset, .unset, .unset] [(.int (1 : Int32))])) _
          refine XS.goto X43.here hx rfl (pc0 := 64) (pc' := 68) rfl (hb hby at_64) (by decide) (by decide) ?_
          show Steps p.tables e below (T43.setTop (mkF m 68 #[.val (.int p0), .val (.int p1), .val (.ref r2), .val (.ref w_GAUGE32_5), .val (.ref r2), .val (.ref w_UNSIGNED32_7), .unset, .unset, .unset, .unset, .unset] [(.int (1 : Int32))])) _
          refine XS.istore X43.here hx rfl (hb hby at_68) rfl (l' := #[.val (.int p0), .val (.int p1), .val (.ref r2), .val (.ref w_GAUGE32_5), .val (.ref r2), .val (.ref w_UNSIGNED32_7), .val (.int (1 : Int32)), .unset, .unset, .unset, .unset]) rfl ?_
          show Steps p.tables e below (T43.setTop (mkF m 70 #[.val (.int p0), .val (.int p1), .val (.ref r2), .val (.ref w_GAUGE32_5), .val (.ref r2), .val (.ref w_UNSIGNED32_7), .val (.int (1 : Int32)), .unset, .unset, .unset, .unset] [])) _
          refine XS.aloadN X43.here hx rfl (hb hby at_70) rfl rfl ?_
          show Steps p.tables e below (T43.setTop (mkF m 71 #[.val (.int p0), .val (.int p1), .val (.ref r2), .val (.ref w_GAUGE32_5), .val (.ref r2), .val (.ref w_UNSIGNED32_7), .val (.int (1 : Int32)), .unset, .unset, .unset, .unset] [(.ref r2)])) _
          refine XS.aloadN X43.here hx rfl (hb hby at_71) rfl rfl ?_
          show Steps p.tables e below (T43.setTop (mkF m 72 #[.val (.int p0), .val (.int p1), .val (.ref r2), .val (.ref w_GAUGE32_5), .val (.ref r2), .val (.ref w_UNSIGNED32_7), .val (.int (1 : Int32)), .unset, .unset, .unset, .unset] [(.ref w_GAUGE32_5), (.ref r2)])) _
          refine Jvm.RoadKit.acmp (g := (mkF m 72 #[.val (.int p0), .val (.int p1), .val (.ref r2), .val (.ref w_GAUGE32_5), .val (.ref r2), .val (.ref w_UNSIGNED32_7), .val (.int (1 : Int32)), .unset, .unset, .unset, .unset] [(.ref w_GAUGE32_5), (.ref r2)])) X43 hx rfl rfl rfl (pc0 := 72) (pc' := 75) (same := false) rfl (hb hby at_72) rfl (decide_eq_false fun q => hs8 (Value.ref.inj q)) (by decide) (by decide) ?_
          show Steps p.tables e below (T43.setTop (mkF m 75 #[.val (.int p0), .val (.int p1), .val (.ref r2), .val (.ref w_GAUGE32_5), .val (.ref r2), .val (.ref w_UNSIGNED32_7), .val (.int (1 : Int32)), .unset, .unset, .unset, .unset] [])) _
          refine XS.aloadN X43.here hx rfl (hb hby at_75) rfl rfl ?_
          show Steps p.tables e below (T43.setTop (mkF m 76 #[.val (.int p0), .val (.int p1), .val (.ref r2), .val (.ref w_GAUGE32_5), .val (.ref r2), .val (.ref w_UNSIGNED32_7), .val (.int (1 : Int32)), .unset, .unset, .unset, .unset] [(.ref r2)])) _
          refine st44 _ ?_
          exact kt)
      by_cases hs47 : r2 = w_UNSIGNED32_7
      · skip
        obtain rfl : w_UNSIGNED32_7 = r2 := hs47.symm
        obtain rfl : (1 : Int32) = r45 := Pr45.1 (Or.inr rfl)
        obtain ⟨_, _, ⟨T48, L48, k48, n48⟩, -, X48, ⟨Lc48, hQ48, l48, y48, z48⟩, st48⟩ := Jvm.LawKit.callS X44 hx (y := (⟨"com/example/oidwright/oidwright/model/BaseTypeSentAsPinLaw", "app2", "(Lcom/example/oidwright/oidwright/model/BaseType;)Z"⟩ : MethodName)) hown (mvT hZ (hw _ (List.mem_of_getElem? (i := 18) rfl))) (mvT hZ (hw _ (List.mem_of_getElem? (i := 19) rfl))) (mvT hZ (hw _ (List.mem_of_getElem? (i := 2) rfl))) (mvT hZ (hw _ (List.mem_of_getElem? (i := 20) rfl))) (by decide) (backOf (W := 0) (rm3 l Z aw hw [] w_GAUGE32_5 w_GAUGE32_5 w_UNSIGNED32_7 h0 n0 Z0 S_GAUGE32_4 S_UNSIGNED32_9) hZ (hw _ (List.mem_of_getElem? (i := 20) rfl)) (hw _ (List.mem_of_getElem? (i := 2) rfl)) (by decide) (by decide)) (g := (mkF m 83 #[.val (.int p0), .val (.int p1), .val (.ref w_UNSIGNED32_7), .val (.ref w_GAUGE32_5), .val (.ref w_UNSIGNED32_7), .val (.ref w_UNSIGNED32_7), .val (.int (1 : Int32)), .unset, .unset, .unset, .unset] [(.ref w_GAUGE32_5)])) rfl (by rw [hml]; rfl) (argsL := [(.ref w_GAUGE32_5)]) (rest := []) (lenOf pd_2 rfl) rfl (by show 2 * 0 + _ ≤ _; exact Nat.le_of_eq rfl) (hb hby at_83) (fun _ _ => ⟨rfl, e44, (by decide : 0 + 0 ≤ _), (by decide : 0 + 0 ≤ _)⟩)
        dsimp only [Pt.U, Pt.locs, Pt.cells, Pt.slots] at X48 l48 y48 z48 st48 hQ48
        subst l48 y48 z48
        obtain ⟨⟨r49, rfl, Pr49⟩, Nq48, e48⟩ := hQ48
        have N48 := Fr.app N44 Nq48
        have pre50 : ∀ t, Steps p.tables e below (T48.setTop (mkF m 86 #[.val (.int p0), .val (.int p1), .val (.ref w_UNSIGNED32_7), .val (.ref w_GAUGE32_5), .val (.ref w_UNSIGNED32_7), .val (.ref w_UNSIGNED32_7), .val (.int (1 : Int32)), .unset, .unset, .unset, .unset] [(.int r49)])) t → Steps p.tables e below (s₁.setTop (entryFrame m #[(.int p0), (.int p1)] maxLocals)) t := fun t kt => pre46 t (by
            show Steps p.tables e below (T44.setTop (mkF m 79 #[.val (.int p0), .val (.int p1), .val (.ref w_UNSIGNED32_7), .val (.ref w_GAUGE32_5), .val (.ref w_UNSIGNED32_7), .val (.ref w_UNSIGNED32_7), .val (.int (1 : Int32)), .unset, .unset, .unset, .unset] [(.int (1 : Int32))])) _
            refine XS.ifNo X44.here hx rfl (hb hby at_79) rfl ((if0 _ _).trans (feq (by decide : ¬ ((1 : Int32) = (0 : Int32)))).1) ?_
            show Steps p.tables e below (T44.setTop (mkF m 82 #[.val (.int p0), .val (.int p1), .val (.ref w_UNSIGNED32_7), .val (.ref w_GAUGE32_5), .val (.ref w_UNSIGNED32_7), .val (.ref w_UNSIGNED32_7), .val (.int (1 : Int32)), .unset, .unset, .unset, .unset] [])) _
            refine XS.aloadN X44.here hx rfl (hb hby at_82) rfl rfl ?_
            show Steps p.tables e below (T44.setTop (mkF m 83 #[.val (.int p0), .val (.int p1), .val (.ref w_UNSIGNED32_7), .val (.ref w_GAUGE32_5), .val (.ref w_UNSIGNED32_7), .val (.ref w_UNSIGNED32_7), .val (.int (1 : Int32)), .unset, .unset, .unset, .unset] [(.ref w_GAUGE32_5)])) _
            refine st48 _ ?_
            exact kt)
        obtain rfl : (1 : Int32) = r49 := Pr49.1 (Or.inl rfl)
        obtain ⟨cq51, kq51, q51a, q51b, q51c⟩ := isOf hZ e48 Pr2
        obtain ⟨_, _, ⟨T51, L51, k51, n51⟩, -, X51, ⟨Lc51, hQ51, l51, y51, z51⟩, st51⟩ := X48.virtualBack hx (y := (⟨"com/example/oidwright/oidwright/model/BaseType", "sentAs", "()Lcom/example/oidwright/oidwright/model/BaseType;"⟩ : MethodName)) (z := (⟨"com/example/oidwright/oidwright/model/BaseType", "sentAs", "()Lcom/example/oidwright/oidwright/model/BaseType;"⟩ : MethodName)) hown (mvT hZ (hw _ (List.mem_of_getElem? (i := 10) rfl))) (mvT hZ (hw _ (List.mem_of_getElem? (i := 11) rfl))) (notFace_of_selects (args := #[]) (mvT hZ (hw _ (List.mem_of_getElem? (i := 13) rfl)))) (mvT hZ (hw _ (List.mem_of_getElem? (i := 13) rfl))) (mvT hZ (hw _ (List.mem_of_getElem? (i := 12) rfl))) (by decide) (backOf (W := 0) (rm2 l Z aw hw [] w_UNSIGNED32_7 w_GAUGE32_5 w_UNSIGNED32_7 h0 n0 Z0 S_GAUGE32_4 S_UNSIGNED32_9) hZ (hw _ (List.mem_of_getElem? (i := 14) rfl)) (hw _ (List.mem_of_getElem? (i := 6) rfl)) (by decide) (by decide)) q51a q51c (g := (mkF m 122 #[.val (.int p0), .val (.int p1), .val (.ref w_UNSIGNED32_7), .val (.ref w_GAUGE32_5), .val (.ref w_UNSIGNED32_7), .val (.ref w_UNSIGNED32_7), .val (.int (1 : Int32)), .val (.int (1 : Int32)), .val (.int (1 : Int32)), .unset, .unset] [(.ref w_UNSIGNED32_7)])) rfl (by rw [hml]; rfl) (Steps.refl _) (argsL := []) (rest := []) (lenOf pd_1 rfl) rfl (by show 2 * 0 + _ ≤ _; exact Nat.le_of_eq rfl) (hb hby at_122) (fun _ _ => ⟨rfl, e48, (by decide : 0 + 0 ≤ _), (by decide : 0 + 0 ≤ _)⟩)
        dsimp only [Pt.U, Pt.locs, Pt.cells, Pt.slots] at X51 l51 y51 z51 st51 hQ51
        subst l51 y51 z51
        obtain ⟨⟨r52, rfl, Pr52⟩, Nq51, e51⟩ := hQ51
        have N51 := Fr.app N48 Nq51
        have pre53 : ∀ t, Steps p.tables e below (T51.setTop (mkF m 125 #[.val (.int p0), .val (.int p1), .val (.ref w_UNSIGNED32_7), .val (.ref w_GAUGE32_5), .val (.ref w_UNSIGNED32_7), .val (.ref w_UNSIGNED32_7), .val (.int (1 : Int32)), .val (.int (1 : Int32)), .val (.int (1 : Int32)), .unset, .unset] [(.ref r52)])) t → Steps p.tables e below (s₁.setTop (entryFrame m #[(.int p0), (.int p1)] maxLocals)) t := fun t kt => pre50 t (by
            show Steps p.tables e below (T48.setTop (mkF m 86 #[.val (.int p0), .val (.int p1), .val (.ref w_UNSIGNED32_7), .val (.ref w_GAUGE32_5), .val (.ref w_UNSIGNED32_7), .val (.ref w_UNSIGNED32_7), .val (.int (1 : Int32)), .unset, .unset, .unset, .unset] [(.int (1 : Int32))])) _
            refine XS.ifNo X48.here hx rfl (hb hby at_86) rfl ((if0 _ _).trans (feq (by decide : ¬ ((1 : Int32) = (0 : Int32)))).1) ?_
            show Steps p.tables e below (T48.setTop (mkF m 89 #[.val (.int p0), .val (.int p1), .val (.ref w_UNSIGNED32_7), .val (.ref w_GAUGE32_5), .val (.ref w_UNSIGNED32_7), .val (.ref w_UNSIGNED32_7), .val (.int (1 : Int32)), .unset, .unset, .unset, .unset] [])) _
            refine XS.iconst X48.here hx rfl (hb hby at_89) ?_
            show Steps p.tables e below (T48.setTop (mkF m 90 #[.val (.int p0), .val (.int p1), .val (.ref w_UNSIGNED32_7), .val (.ref w_GAUGE32_5), .val (.ref w_UNSIGNED32_7), .val (.ref w_UNSIGNED32_7), .val (.int (1 : Int32)), .unset, .unset, .unset, .unset] [(.int (1 : Int32))])) _
            refine XS.goto X48.here hx rfl (pc0 := 90) (pc' := 94) rfl (hb hby at_90) (by decide) (by decide) ?_
            show Steps p.tables e below (T48.setTop (mkF m 94 #[.val (.int p0), .val (.int p1), .val (.ref w_UNSIGNED32_7), .val (.ref w_GAUGE32_5), .val (.ref w_UNSIGNED32_7), .val (.ref w_UNSIGNED32_7), .val (.int (1 : Int32)), .unset, .unset, .unset, .unset] [(.int (1 : Int32))])) _
            refine XS.istore X48.here hx rfl (hb hby at_94) rfl (l' := #[.val (.int p0), .val (.int p1), .val (.ref w_UNSIGNED32_7), .val (.ref w_GAUGE32_5), .val (.ref w_UNSIGNED32_7), .val (.ref w_UNSIGNED32_7), .val (.int (1 : Int32)), .val (.int (1 : Int32)), .unset, .unset, .unset]) rfl ?_
            show Steps p.tables e below (T48.setTop (mkF m 96 #[.val (.int p0), .val (.int p1), .val (.ref w_UNSIGNED32_7), .val (.ref w_GAUGE32_5), .val (.ref w_UNSIGNED32_7), .val (.ref w_UNSIGNED32_7), .val (.int (1 : Int32)), .val (.int (1 : Int32)), .unset, .unset, .unset] [])) _
            refine XS.aload X48.here hx rfl (hb hby at_96) rfl rfl ?_
            show Steps p.tables e below (T48.setTop (mkF m 98 #[.val (.int p0), .val (.int p1), .val (.ref w_UNSIGNED32_7), .val (.ref w_GAUGE32_5), .val (.ref w_UNSIGNED32_7), .val (.ref w_UNSIGNED32_7), .val (.int (1 : Int32)), .val (.int (1 : Int32)), .unset, .unset, .unset] [(.ref w_UNSIGNED32_7)])) _
            refine XS.aload X48.here hx rfl (hb hby at_98) rfl rfl ?_
            show Steps p.tables e below (T48.setTop (mkF m 100 #[.val (.int p0), .val (.int p1), .val (.ref w_UNSIGNED32_7), .val (.ref w_GAUGE32_5), .val (.ref w_UNSIGNED32_7), .val (.ref w_UNSIGNED32_7), .val (.int (1 : Int32)), .val (.int (1 : Int32)), .unset, .unset, .unset] [(.ref w_UNSIGNED32_7), (.ref w_UNSIGNED32_7)])) _
            refine Jvm.RoadKit.acmp (g := (mkF m 100 #[.val (.int p0), .val (.int p1), .val (.ref w_UNSIGNED32_7), .val (.ref w_GAUGE32_5), .val (.ref w_UNSIGNED32_7), .val (.ref w_UNSIGNED32_7), .val (.int (1 : Int32)), .val (.int (1 : Int32)), .unset, .unset, .unset] [(.ref w_UNSIGNED32_7), (.ref w_UNSIGNED32_7)])) X48 hx rfl rfl rfl (pc0 := 100) (pc' := 103) (same := true) rfl (hb hby at_100) rfl (decide_eq_true rfl) (by decide) (by decide) ?_
            show Steps p.tables e below (T48.setTop (mkF m 103 #[.val (.int p0), .val (.int p1), .val (.ref w_UNSIGNED32_7), .val (.ref w_GAUGE32_5), .val (.ref w_UNSIGNED32_7), .val (.ref w_UNSIGNED32_7), .val (.int (1 : Int32)), .val (.int (1 : Int32)), .unset, .unset, .unset] [])) _
            refine XS.iconst X48.here hx rfl (hb hby at_103) ?_
            show Steps p.tables e below (T48.setTop (mkF m 104 #[.val (.int p0), .val (.int p1), .val (.ref w_UNSIGNED32_7), .val (.ref w_GAUGE32_5), .val (.ref w_UNSIGNED32_7), .val (.ref w_UNSIGNED32_7), .val (.int (1 : Int32)), .val (.int (1 : Int32)), .unset, .unset, .unset] [(.int (1 : Int32))])) _
            refine XS.goto X48.here hx rfl (pc0 := 104) (pc' := 108) rfl (hb hby at_104) (by decide) (by decide) ?_
            show Steps p.tables e below (T48.setTop (mkF m 108 #[.val (.int p0), .val (.int p1), .val (.ref w_UNSIGNED32_7), .val (.ref w_GAUGE32_5), .val (.ref w_UNSIGNED32_7), .val (.ref w_UNSIGNED32_7), .val (.int (1 : Int32)), .val (.int (1 : Int32)), .unset, .unset, .unset] [(.int (1 : Int32))])) _
            refine XS.iload X48.here hx rfl (hb hby at_108) rfl ?_
            show Steps p.tables e below (T48.setTop (mkF m 110 #[.val (.int p0), .val (.int p1), .val (.ref w_UNSIGNED32_7), .val (.ref w_GAUGE32_5), .val (.ref w_UNSIGNED32_7), .val (.ref w_UNSIGNED32_7), .val (.int (1 : Int32)), .val (.int (1 : Int32)), .unset, .unset, .unset] [(.int (1 : Int32)), (.int (1 : Int32))])) _
            refine XS.icmpNo X48.here hx rfl (hb hby at_110) rfl (teq (rfl : (1 : Int32) = (1 : Int32))).2 ?_
            show Steps p.tables e below (T48.setTop (mkF m 113 #[.val (.int p0), .val (.int p1), .val (.ref w_UNSIGNED32_7), .val (.ref w_GAUGE32_5), .val (.ref w_UNSIGNED32_7), .val (.ref w_UNSIGNED32_7), .val (.int (1 : Int32)), .val (.int (1 : Int32)), .unset, .unset, .unset] [])) _
            refine XS.iconst X48.here hx rfl (hb hby at_113) ?_
            show Steps p.tables e below (T48.setTop (mkF m 114 #[.val (.int p0), .val (.int p1), .val (.ref w_UNSIGNED32_7), .val (.ref w_GAUGE32_5), .val (.ref w_UNSIGNED32_7), .val (.ref w_UNSIGNED32_7), .val (.int (1 : Int32)), .val (.int (1 : Int32)), .unset, .unset, .unset] [(.int (1 : Int32))])) _
            refine XS.goto X48.here hx rfl (pc0 := 114) (pc' := 118) rfl (hb hby at_114) (by decide) (by decide) ?_
            show Steps p.tables e below (T48.setTop (mkF m 118 #[.val (.int p0), .val (.int p1), .val (.ref w_UNSIGNED32_7), .val (.ref w_GAUGE32_5), .val (.ref w_UNSIGNED32_7), .val (.ref w_UNSIGNED32_7), .val (.int (1 : Int32)), .val (.int (1 : Int32)), .unset, .unset, .unset] [(.int (1 : Int32))])) _
            refine XS.istore X48.here hx rfl (hb hby at_118) rfl (l' := #[.val (.int p0), .val (.int p1), .val (.ref w_UNSIGNED32_7), .val (.ref w_GAUGE32_5), .val (.ref w_UNSIGNED32_7), .val (.ref w_UNSIGNED32_7), .val (.int (1 : Int32)), .val (.int (1 : Int32)), .val (.int (1 : Int32)), .unset, .unset]) rfl ?_
            show Steps p.tables e below (T48.setTop (mkF m 120 #[.val (.int p0), .val (.int p1), .val (.ref w_UNSIGNED32_7), .val (.ref w_GAUGE32_5), .val (.ref w_UNSIGNED32_7), .val (.ref w_UNSIGNED32_7), .val (.int (1 : Int32)), .val (.int (1 : Int32)), .val (.int (1 : Int32)), .unset, .unset] [])) _
            refine XS.aload X48.here hx rfl (hb hby at_120) rfl rfl ?_
            show Steps p.tables e below (T48.setTop (mkF m 122 #[.val (.int p0), .val (.int p1), .val (.ref w_UNSIGNED32_7), .val (.ref w_GAUGE32_5), .val (.ref w_UNSIGNED32_7), .val (.ref w_UNSIGNED32_7), .val (.int (1 : Int32)), .val (.int (1 : Int32)), .val (.int (1 : Int32)), .unset, .unset] [(.ref w_UNSIGNED32_7)])) _
            refine st51.trans ?_
            exact kt)
        obtain rfl : w_UNSIGNED32_7 = r52 := Pr52.2 hs8
        obtain ⟨T54, X54, e54, st54⟩ := getS2 X51 hx hZ hown (host := "") (Or.inl (hw _ (List.mem_of_getElem? (i := 17) rfl))) Via.refl e51 S_GAUGE32_4 (g := (mkF m 139 #[.val (.int p0), .val (.int p1), .val (.ref w_UNSIGNED32_7), .val (.ref w_GAUGE32_5), .val (.ref w_UNSIGNED32_7), .val (.ref w_UNSIGNED32_7), .val (.int (1 : Int32)), .val (.int (1 : Int32)), .val (.int (1 : Int32)), .val (.int (1 : Int32)), .unset] [(.ref w_UNSIGNED32_7)])) rfl (hb hby at_139)
        have pre55 : ∀ t, Steps p.tables e below (T54.setTop (mkF m 177 #[.val (.int p0), .val (.int p1), .val (.ref w_UNSIGNED32_7), .val (.ref w_GAUGE32_5), .val (.ref w_UNSIGNED32_7), .val (.ref w_UNSIGNED32_7), .val (.int (1 : Int32)), .val (.int (1 : Int32)), .val (.int (1 : Int32)), .val (.int (1 : Int32)), .val (.int (1 : Int32))] [(.int (1 : Int32))])) t → Steps p.tables e below (s₁.setTop (entryFrame m #[(.int p0), (.int p1)] maxLocals)) t := fun t kt => pre53 t (by
            show Steps p.tables e below (T51.setTop (mkF m 125 #[.val (.int p0), .val (.int p1), .val (.ref w_UNSIGNED32_7), .val (.ref w_GAUGE32_5), .val (.ref w_UNSIGNED32_7), .val (.ref w_UNSIGNED32_7), .val (.int (1 : Int32)), .val (.int (1 : Int32)), .val (.int (1 : Int32)), .unset, .unset] [(.ref w_UNSIGNED32_7)])) _
            refine XS.aload X51.here hx rfl (hb hby at_125) rfl rfl ?_
            show Steps p.tables e below (T51.setTop (mkF m 127 #[.val (.int p0), .val (.int p1), .val (.ref w_UNSIGNED32_7), .val (.ref w_GAUGE32_5), .val (.ref w_UNSIGNED32_7), .val (.ref w_UNSIGNED32_7), .val (.int (1 : Int32)), .val (.int (1 : Int32)), .val (.int (1 : Int32)), .unset, .unset] [(.ref w_UNSIGNED32_7), (.ref w_UNSIGNED32_7)])) _
            refine Jvm.RoadKit.acmp (g := (mkF m 127 #[.val (.int p0), .val (.int p1), .val (.ref w_UNSIGNED32_7), .val (.ref w_GAUGE32_5), .val (.ref w_UNSIGNED32_7), .val (.ref w_UNSIGNED32_7), .val (.int (1 : Int32)), .val (.int (1 : Int32)), .val (.int (1 : Int32)), .unset, .unset] [(.ref w_UNSIGNED32_7), (.ref w_UNSIGNED32_7)])) X51 hx rfl rfl rfl (pc0 := 127) (pc' := 130) (same := true) rfl (hb hby at_127) rfl (decide_eq_true rfl) (by decide) (by decide) ?_
            show Steps p.tables e below (T51.setTop (mkF m 130 #[.val (.int p0), .val (.int p1), .val (.ref w_UNSIGNED32_7), .val (.ref w_GAUGE32_5), .val (.ref w_UNSIGNED32_7), .val (.ref w_UNSIGNED32_7), .val (.int (1 : Int32)), .val (.int (1 : Int32)), .val (.int (1 : Int32)), .unset, .unset] [])) _
            refine XS.iconst X51.here hx rfl (hb hby at_130) ?_
            show Steps p.tables e below (T51.setTop (mkF m 131 #[.val (.int p0), .val (.int p1), .val (.ref w_UNSIGNED32_7), .val (.ref w_GAUGE32_5), .val (.ref w_UNSIGNED32_7), .val (.ref w_UNSIGNED32_7), .val (.int (1 : Int32)), .val (.int (1 : Int32)), .val (.int (1 : Int32)), .unset, .unset] [(.int (1 : Int32))])) _
            refine XS.goto X51.here hx rfl (pc0 := 131) (pc' := 135) rfl (hb hby at_131) (by decide) (by decide) ?_
            show Steps p.tables e below (T51.setTop (mkF m 135 #[.val (.int p0), .val (.int p1), .val (.ref w_UNSIGNED32_7), .val (.ref w_GAUGE32_5), .val (.ref w_UNSIGNED32_7), .val (.ref w_UNSIGNED32_7), .val (.int (1 : Int32)), .val (.int (1 : Int32)), .val (.int (1 : Int32)), .unset, .unset] [(.int (1 : Int32))])) _
            refine XS.istore X51.here hx rfl (hb hby at_135) rfl (l' := #[.val (.int p0), .val (.int p1), .val (.ref w_UNSIGNED32_7), .val (.ref w_GAUGE32_5), .val (.ref w_UNSIGNED32_7), .val (.ref w_UNSIGNED32_7), .val (.int (1 : Int32)), .val (.int (1 : Int32)), .val (.int (1 : Int32)), .val (.int (1 : Int32)), .unset]) rfl ?_
            show Steps p.tables e below (T51.setTop (mkF m 137 #[.val (.int p0), .val (.int p1), .val (.ref w_UNSIGNED32_7), .val (.ref w_GAUGE32_5), .val (.ref w_UNSIGNED32_7), .val (.ref w_UNSIGNED32_7), .val (.int (1 : Int32)), .val (.int (1 : Int32)), .val (.int (1 : Int32)), .val (.int (1 : Int32)), .unset] [])) _
            refine XS.aload X51.here hx rfl (hb hby at_137) rfl rfl ?_
            show Steps p.tables e below (T51.setTop (mkF m 139 #[.val (.int p0), .val (.int p1), .val (.ref w_UNSIGNED32_7), .val (.ref w_GAUGE32_5), .val (.ref w_UNSIGNED32_7), .val (.ref w_UNSIGNED32_7), .val (.int (1 : Int32)), .val (.int (1 : Int32)), .val (.int (1 : Int32)), .val (.int (1 : Int32)), .unset] [(.ref w_UNSIGNED32_7)])) _
            refine st54 _ ?_
            show Steps p.tables e below (T54.setTop (mkF m 142 #[.val (.int p0), .val (.int p1), .val (.ref w_UNSIGNED32_7), .val (.ref w_GAUGE32_5), .val (.ref w_UNSIGNED32_7), .val (.ref w_UNSIGNED32_7), .val (.int (1 : Int32)), .val (.int (1 : Int32)), .val (.int (1 : Int32)), .val (.int (1 : Int32)), .unset] [(.ref w_GAUGE32_5), (.ref w_UNSIGNED32_7)])) _
            refine Jvm.RoadKit.acmp (g := (mkF m 142 #[.val (.int p0), .val (.int p1), .val (.ref w_UNSIGNED32_7), .val (.ref w_GAUGE32_5), .val (.ref w_UNSIGNED32_7), .val (.ref w_UNSIGNED32_7), .val (.int (1 : Int32)), .val (.int (1 : Int32)), .val (.int (1 : Int32)), .val (.int (1 : Int32)), .unset] [(.ref w_GAUGE32_5), (.ref w_UNSIGNED32_7)])) X54 hx rfl rfl rfl (pc0 := 142) (pc' := 145) (same := false) rfl (hb hby at_142) rfl (decide_eq_false fun q => hs8 (Value.ref.inj q)) (by decide) (by decide) ?_
            show Steps p.tables e below (T54.setTop (mkF m 145 #[.val (.int p0), .val (.int p1), .val (.ref w_UNSIGNED32_7), .val (.ref w_GAUGE32_5), .val (.ref w_UNSIGNED32_7), .val (.ref w_UNSIGNED32_7), .val (.int (1 : Int32)), .val (.int (1 : Int32)), .val (.int (1 : Int32)), .val (.int (1 : Int32)), .unset] [])) _
            refine XS.iconst X54.here hx rfl (hb hby at_145) ?_
            show Steps p.tables e below (T54.setTop (mkF m 146 #[.val (.int p0), .val (.int p1), .val (.ref w_UNSIGNED32_7), .val (.ref w_GAUGE32_5), .val (.ref w_UNSIGNED32_7), .val (.ref w_UNSIGNED32_7), .val (.int (1 : Int32)), .val (.int (1 : Int32)), .val (.int (1 : Int32)), .val (.int (1 : Int32)), .unset] [(.int (1 : Int32))])) _
            refine XS.goto X54.here hx rfl (pc0 := 146) (pc' := 150) rfl (hb hby at_146) (by decide) (by decide) ?_
            show Steps p.tables e below (T54.setTop (mkF m 150 #[.val (.int p0), .val (.int p1), .val (.ref w_UNSIGNED32_7), .val (.ref w_GAUGE32_5), .val (.ref w_UNSIGNED32_7), .val (.ref w_UNSIGNED32_7), .val (.int (1 : Int32)), .val (.int (1 : Int32)), .val (.int (1 : Int32)), .val (.int (1 : Int32)), .unset] [(.int (1 : Int32))])) _
            refine XS.istore X54.here hx rfl (hb hby at_150) rfl (l' := #[.val (.int p0), .val (.int p1), .val (.ref w_UNSIGNED32_7), .val (.ref w_GAUGE32_5), .val (.ref w_UNSIGNED32_7), .val (.ref w_UNSIGNED32_7), .val (.int (1 : Int32)), .val (.int (1 : Int32)), .val (.int (1 : Int32)), .val (.int (1 : Int32)), .val (.int (1 : Int32))]) rfl ?_
            show Steps p.tables e below (T54.setTop (mkF m 152 #[.val (.int p0), .val (.int p1), .val (.ref w_UNSIGNED32_7), .val (.ref w_GAUGE32_5), .val (.ref w_UNSIGNED32_7), .val (.ref w_UNSIGNED32_7), .val (.int (1 : Int32)), .val (.int (1 : Int32)), .val (.int (1 : Int32)), .val (.int (1 : Int32)), .val (.int (1 : Int32))] [])) _
            refine XS.iload X54.here hx rfl (hb hby at_152) rfl ?_
            show Steps p.tables e below (T54.setTop (mkF m 154 #[.val (.int p0), .val (.int p1), .val (.ref w_UNSIGNED32_7), .val (.ref w_GAUGE32_5), .val (.ref w_UNSIGNED32_7), .val (.ref w_UNSIGNED32_7), .val (.int (1 : Int32)), .val (.int (1 : Int32)), .val (.int (1 : Int32)), .val (.int (1 : Int32)), .val (.int (1 : Int32))] [(.int (1 : Int32))])) _
            refine XS.ifNo X54.here hx rfl (hb hby at_154) rfl ((if0 _ _).trans (feq (by decide : ¬ ((1 : Int32) = (0 : Int32)))).1) ?_
            show Steps p.tables e below (T54.setTop (mkF m 157 #[.val (.int p0), .val (.int p1), .val (.ref w_UNSIGNED32_7), .val (.ref w_GAUGE32_5), .val (.ref w_UNSIGNED32_7), .val (.ref w_UNSIGNED32_7), .val (.int (1 : Int32)), .val (.int (1 : Int32)), .val (.int (1 : Int32)), .val (.int (1 : Int32)), .val (.int (1 : Int32))] [])) _
            refine XS.iload X54.here hx rfl (hb hby at_157) rfl ?_
            show Steps p.tables e below (T54.setTop (mkF m 159 #[.val (.int p0), .val (.int p1), .val (.ref w_UNSIGNED32_7), .val (.ref w_GAUGE32_5), .val (.ref w_UNSIGNED32_7), .val (.ref w_UNSIGNED32_7), .val (.int (1 : Int32)), .val (.int (1 : Int32)), .val (.int (1 : Int32)), .val (.int (1 : Int32)), .val (.int (1 : Int32))] [(.int (1 : Int32))])) _
            refine XS.ifNo X54.here hx rfl (hb hby at_159) rfl ((if0 _ _).trans (feq (by decide : ¬ ((1 : Int32) = (0 : Int32)))).1) ?_
            show Steps p.tables e below (T54.setTop (mkF m 162 #[.val (.int p0), .val (.int p1), .val (.ref w_UNSIGNED32_7), .val (.ref w_GAUGE32_5), .val (.ref w_UNSIGNED32_7), .val (.ref w_UNSIGNED32_7), .val (.int (1 : Int32)), .val (.int (1 : Int32)), .val (.int (1 : Int32)), .val (.int (1 : Int32)), .val (.int (1 : Int32))] [])) _
            refine XS.iload X54.here hx rfl (hb hby at_162) rfl ?_
            show Steps p.tables e below (T54.setTop (mkF m 164 #[.val (.int p0), .val (.int p1), .val (.ref w_UNSIGNED32_7), .val (.ref w_GAUGE32_5), .val (.ref w_UNSIGNED32_7), .val (.ref w_UNSIGNED32_7), .val (.int (1 : Int32)), .val (.int (1 : Int32)), .val (.int (1 : Int32)), .val (.int (1 : Int32)), .val (.int (1 : Int32))] [(.int (1 : Int32))])) _
            refine XS.ifNo X54.here hx rfl (hb hby at_164) rfl ((if0 _ _).trans (feq (by decide : ¬ ((1 : Int32) = (0 : Int32)))).1) ?_
            show Steps p.tables e below (T54.setTop (mkF m 167 #[.val (.int p0), .val (.int p1), .val (.ref w_UNSIGNED32_7), .val (.ref w_GAUGE32_5), .val (.ref w_UNSIGNED32_7), .val (.ref w_UNSIGNED32_7), .val (.int (1 : Int32)), .val (.int (1 : Int32)), .val (.int (1 : Int32)), .val (.int (1 : Int32)), .val (.int (1 : Int32))] [])) _
            refine XS.iload X54.here hx rfl (hb hby at_167) rfl ?_
            show Steps p.tables e below (T54.setTop (mkF m 169 #[.val (.int p0), .val (.int p1), .val (.ref w_UNSIGNED32_7), .val (.ref w_GAUGE32_5), .val (.ref w_UNSIGNED32_7), .val (.ref w_UNSIGNED32_7), .val (.int (1 : Int32)), .val (.int (1 : Int32)), .val (.int (1 : Int32)), .val (.int (1 : Int32)), .val (.int (1 : Int32))] [(.int (1 : Int32))])) _
            refine XS.ifNo X54.here hx rfl (hb hby at_169) rfl ((if0 _ _).trans (feq (by decide : ¬ ((1 : Int32) = (0 : Int32)))).1) ?_
            show Steps p.tables e below (T54.setTop (mkF m 172 #[.val (.int p0), .val (.int p1), .val (.ref w_UNSIGNED32_7), .val (.ref w_GAUGE32_5), .val (.ref w_UNSIGNED32_7), .val (.ref w_UNSIGNED32_7), .val (.int (1 : Int32)), .val (.int (1 : Int32)), .val (.int (1 : Int32)), .val (.int (1 : Int32)), .val (.int (1 : Int32))] [])) _
            refine XS.iconst X54.here hx rfl (hb hby at_172) ?_
            show Steps p.tables e below (T54.setTop (mkF m 173 #[.val (.int p0), .val (.int p1), .val (.ref w_UNSIGNED32_7), .val (.ref w_GAUGE32_5), .val (.ref w_UNSIGNED32_7), .val (.ref w_UNSIGNED32_7), .val (.int (1 : Int32)), .val (.int (1 : Int32)), .val (.int (1 : Int32)), .val (.int (1 : Int32)), .val (.int (1 : Int32))] [(.int (1 : Int32))])) _
            refine XS.goto X54.here hx rfl (pc0 := 173) (pc' := 177) rfl (hb hby at_173) (by decide) (by decide) ?_
            exact kt)
        obtain ⟨fs, hr, hrun, hended, hW, hsame⟩ := X54.leave (v := some (.int (1 : Int32))) (fun h => by rw [Bd.returns] at h; cases h)
        refine ⟨_, _, pre55 _ ?_, hrun, hended, _, _, rfl, ?_, ⟨_, rfl⟩, hW, hsame.mono (by decide) (by decide)⟩
        · show Steps p.tables e below (T54.setTop (mkF m 177 #[.val (.int p0), .val (.int p1), .val (.ref w_UNSIGNED32_7), .val (.ref w_GAUGE32_5), .val (.ref w_UNSIGNED32_7), .val (.ref w_UNSIGNED32_7), .val (.int (1 : Int32)), .val (.int (1 : Int32)), .val (.int (1 : Int32)), .val (.int (1 : Int32)), .val (.int (1 : Int32))] [(.int (1 : Int32))])) _
          exact retN X54 hx (t := .boolean) Bd.returns (by simp) (hb hby at_177) hr
        · show Q0 Z _ _ _ _ _ _ _ _ _ _ _ _ _ _ h0 n0 _ T54.heap _
          rw [e54]
          exact ⟨rfl, N51, rfl⟩
      · skip
        obtain rfl : (0 : Int32) = r45 := Pr45.2 hs8 hs47
        obtain ⟨cq56, kq56, q56a, q56b, q56c⟩ := isOf hZ e44 Pr2
        obtain ⟨_, _, ⟨T56, L56, k56, n56⟩, -, X56, ⟨Lc56, hQ56, l56, y56, z56⟩, st56⟩ := X44.virtualBack hx (y := (⟨"com/example/oidwright/oidwright/model/BaseType", "sentAs", "()Lcom/example/oidwright/oidwright/model/BaseType;"⟩ : MethodName)) (z := (⟨"com/example/oidwright/oidwright/model/BaseType", "sentAs", "()Lcom/example/oidwright/oidwright/model/BaseType;"⟩ : MethodName)) hown (mvT hZ (hw _ (List.mem_of_getElem? (i := 10) rfl))) (mvT hZ (hw _ (List.mem_of_getElem? (i := 11) rfl))) (notFace_of_selects (args := #[]) (mvT hZ (hw _ (List.mem_of_getElem? (i := 13) rfl)))) (mvT hZ (hw _ (List.mem_of_getElem? (i := 13) rfl))) (mvT hZ (hw _ (List.mem_of_getElem? (i := 12) rfl))) (by decide) (backOf (W := 0) (rm2 l Z aw hw [] r2 w_GAUGE32_5 w_UNSIGNED32_7 h0 n0 Z0 S_GAUGE32_4 S_UNSIGNED32_9) hZ (hw _ (List.mem_of_getElem? (i := 14) rfl)) (hw _ (List.mem_of_getElem? (i := 6) rfl)) (by decide) (by decide)) q56a q56c (g := (mkF m 122 #[.val (.int p0), .val (.int p1), .val (.ref r2), .val (.ref w_GAUGE32_5), .val (.ref r2), .val (.ref w_UNSIGNED32_7), .val (.int (1 : Int32)), .val (.int (0 : Int32)), .val (.int (1 : Int32)), .unset, .unset] [(.ref r2)])) rfl (by rw [hml]; rfl) (Steps.refl _) (argsL := []) (rest := []) (lenOf pd_1 rfl) rfl (by show 2 * 0 + _ ≤ _; exact Nat.le_of_eq rfl) (hb hby at_122) (fun _ _ => ⟨rfl, e44, (by decide : 0 + 0 ≤ _), (by decide : 0 + 0 ≤ _)⟩)
        dsimp only [Pt.U, Pt.locs, Pt.cells, Pt.slots] at X56 l56 y56 z56 st56 hQ56
        subst l56 y56 z56
        obtain ⟨⟨r57, rfl, Pr57⟩, Nq56, e56⟩ := hQ56
        have N56 := Fr.app N44 Nq56
        have pre58 : ∀ t, Steps p.tables e below (T56.setTop (mkF m 125 #[.val (.int p0), .val (.int p1), .val (.ref r2), .val (.ref w_GAUGE32_5), .val (.ref r2), .val (.ref w_UNSIGNED32_7), .val (.int (1 : Int32)), .val (.int (0 : Int32)), .val (.int (1 : Int32)), .unset, .unset] [(.ref r57)])) t → Steps p.tables e below (s₁.setTop (entryFrame m #[(.int p0), (.int p1)] maxLocals)) t := fun t kt => pre46 t (by
            show Steps p.tables e below (T44.setTop (mkF m 79 #[.val (.int p0), .val (.int p1), .val (.ref r2), .val (.ref w_GAUGE32_5), .val (.ref r2), .val (.ref w_UNSIGNED32_7), .val (.int (1 : Int32)), .unset, .unset, .unset, .unset] [(.int (0 : Int32))])) _
            refine XS.ifYes X44.here hx rfl (pc0 := 79) (pc' := 93) rfl (hb hby at_79) rfl ((if0 _ _).trans (teq (rfl : (0 : Int32) = (0 : Int32))).1) (by decide) (by decide) ?_
            show Steps p.tables e below (T44.setTop (mkF m 93 #[.val (.int p0), .val (.int p1), .val (.ref r2), .val (.ref w_GAUGE32_5), .val (.ref r2), .val (.ref w_UNSIGNED32_7), .val (.int (1 : Int32)), .unset, .unset, .unset, .unset] [])) _
            refine XS.iconst X44.here hx rfl (hb hby at_93) ?_
            show Steps p.tables e below (T44.setTop (mkF m 94 #[.val (.int p0), .val (.int p1), .val (.ref r2), .val (.ref w_GAUGE32_5), .val (.ref r2), .val (.ref w_UNSIGNED32_7), .val (.int (1 : Int32)), .unset, .unset, .unset, .unset] [(.int (0 : Int32))])) _
            refine XS.istore X44.here hx rfl (hb hby at_94) rfl (l' := #[.val (.int p0), .val (.int p1), .val (.ref r2), .val (.ref w_GAUGE32_5), .val (.ref r2), .val (.ref w_UNSIGNED32_7), .val (.int (1 : Int32)), .val (.int (0 : Int32)), .unset, .unset, .unset]) rfl ?_
            show Steps p.tables e below (T44.setTop (mkF m 96 #[.val (.int p0), .val (.int p1), .val (.ref r2), .val (.ref w_GAUGE32_5), .val (.ref r2), .val (.ref w_UNSIGNED32_7), .val (.int (1 : Int32)), .val (.int (0 : Int32)), .unset, .unset, .unset] [])) _
            refine XS.aload X44.here hx rfl (hb hby at_96) rfl rfl ?_
            show Steps p.tables e below (T44.setTop (mkF m 98 #[.val (.int p0), .val (.int p1), .val (.ref r2), .val (.ref w_GAUGE32_5), .val (.ref r2), .val (.ref w_UNSIGNED32_7), .val (.int (1 : Int32)), .val (.int (0 : Int32)), .unset, .unset, .unset] [(.ref r2)])) _
            refine XS.aload X44.here hx rfl (hb hby at_98) rfl rfl ?_
            show Steps p.tables e below (T44.setTop (mkF m 100 #[.val (.int p0), .val (.int p1), .val (.ref r2), .val (.ref w_GAUGE32_5), .val (.ref r2), .val (.ref w_UNSIGNED32_7), .val (.int (1 : Int32)), .val (.int (0 : Int32)), .unset, .unset, .unset] [(.ref w_UNSIGNED32_7), (.ref r2)])) _
            refine Jvm.RoadKit.acmp (g := (mkF m 100 #[.val (.int p0), .val (.int p1), .val (.ref r2), .val (.ref w_GAUGE32_5), .val (.ref r2), .val (.ref w_UNSIGNED32_7), .val (.int (1 : Int32)), .val (.int (0 : Int32)), .unset, .unset, .unset] [(.ref w_UNSIGNED32_7), (.ref r2)])) X44 hx rfl rfl rfl (pc0 := 100) (pc' := 107) (same := false) rfl (hb hby at_100) rfl (decide_eq_false fun q => hs47 (Value.ref.inj q)) (by decide) (by decide) ?_
            show Steps p.tables e below (T44.setTop (mkF m 107 #[.val (.int p0), .val (.int p1), .val (.ref r2), .val (.ref w_GAUGE32_5), .val (.ref r2), .val (.ref w_UNSIGNED32_7), .val (.int (1 : Int32)), .val (.int (0 : Int32)), .unset, .unset, .unset] [])) _
            refine XS.iconst X44.here hx rfl (hb hby at_107) ?_
            show Steps p.tables e below (T44.setTop (mkF m 108 #[.val (.int p0), .val (.int p1), .val (.ref r2), .val (.ref w_GAUGE32_5), .val (.ref r2), .val (.ref w_UNSIGNED32_7), .val (.int (1 : Int32)), .val (.int (0 : Int32)), .unset, .unset, .unset] [(.int (0 : Int32))])) _
            refine XS.iload X44.here hx rfl (hb hby at_108) rfl ?_
            show Steps p.tables e below (T44.setTop (mkF m 110 #[.val (.int p0), .val (.int p1), .val (.ref r2), .val (.ref w_GAUGE32_5), .val (.ref r2), .val (.ref w_UNSIGNED32_7), .val (.int (1 : Int32)), .val (.int (0 : Int32)), .unset, .unset, .unset] [(.int (0 : Int32)), (.int (0 : Int32))])) _
            refine XS.icmpNo X44.here hx rfl (hb hby at_110) rfl (teq (rfl : (0 : Int32) = (0 : Int32))).2 ?_
            show Steps p.tables e below (T44.setTop (mkF m 113 #[.val (.int p0), .val (.int p1), .val (.ref r2), .val (.ref w_GAUGE32_5), .val (.ref r2), .val (.ref w_UNSIGNED32_7), .val (.int (1 : Int32)), .val (.int (0 : Int32)), .unset, .unset, .unset] [])) _
            refine XS.iconst X44.here hx rfl (hb hby at_113) ?_
            show Steps p.tables e below (T44.setTop (mkF m 114 #[.val (.int p0), .val (.int p1), .val (.ref r2), .val (.ref w_GAUGE32_5), .val (.ref r2), .val (.ref w_UNSIGNED32_7), .val (.int (1 : Int32)), .val (.int (0 : Int32)), .unset, .unset, .unset] [(.int (1 : Int32))])) _
            refine XS.goto X44.here hx rfl (pc0 := 114) (pc' := 118) rfl (hb hby at_114) (by decide) (by decide) ?_
            show Steps p.tables e below (T44.setTop (mkF m 118 #[.val (.int p0), .val (.int p1), .val (.ref r2), .val (.ref w_GAUGE32_5), .val (.ref r2), .val (.ref w_UNSIGNED32_7), .val (.int (1 : Int32)), .val (.int (0 : Int32)), .unset, .unset, .unset] [(.int (1 : Int32))])) _
            refine XS.istore X44.here hx rfl (hb hby at_118) rfl (l' := #[.val (.int p0), .val (.int p1), .val (.ref r2), .val (.ref w_GAUGE32_5), .val (.ref r2), .val (.ref w_UNSIGNED32_7), .val (.int (1 : Int32)), .val (.int (0 : Int32)), .val (.int (1 : Int32)), .unset, .unset]) rfl ?_
            show Steps p.tables e below (T44.setTop (mkF m 120 #[.val (.int p0), .val (.int p1), .val (.ref r2), .val (.ref w_GAUGE32_5), .val (.ref r2), .val (.ref w_UNSIGNED32_7), .val (.int (1 : Int32)), .val (.int (0 : Int32)), .val (.int (1 : Int32)), .unset, .unset] [])) _
            refine XS.aload X44.here hx rfl (hb hby at_120) rfl rfl ?_
            show Steps p.tables e below (T44.setTop (mkF m 122 #[.val (.int p0), .val (.int p1), .val (.ref r2), .val (.ref w_GAUGE32_5), .val (.ref r2), .val (.ref w_UNSIGNED32_7), .val (.int (1 : Int32)), .val (.int (0 : Int32)), .val (.int (1 : Int32)), .unset, .unset] [(.ref r2)])) _
            refine st56.trans ?_
            exact kt)
        obtain rfl : r2 = r57 := Pr57.2 hs8
        obtain ⟨T59, X59, e59, st59⟩ := getS2 X56 hx hZ hown (host := "") (Or.inl (hw _ (List.mem_of_getElem? (i := 17) rfl))) Via.refl e56 S_GAUGE32_4 (g := (mkF m 139 #[.val (.int p0), .val (.int p1), .val (.ref r2), .val (.ref w_GAUGE32_5), .val (.ref r2), .val (.ref w_UNSIGNED32_7), .val (.int (1 : Int32)), .val (.int (0 : Int32)), .val (.int (1 : Int32)), .val (.int (1 : Int32)), .unset] [(.ref r2)])) rfl (hb hby at_139)
        have pre60 : ∀ t, Steps p.tables e below (T59.setTop (mkF m 177 #[.val (.int p0), .val (.int p1), .val (.ref r2), .val (.ref w_GAUGE32_5), .val (.ref r2), .val (.ref w_UNSIGNED32_7), .val (.int (1 : Int32)), .val (.int (0 : Int32)), .val (.int (1 : Int32)), .val (.int (1 : Int32)), .val (.int (1 : Int32))] [(.int (1 : Int32))])) t → Steps p.tables e below (s₁.setTop (entryFrame m #[(.int p0), (.int p1)] maxLocals)) t := fun t kt => pre58 t (by
            show Steps p.tables e below (T56.setTop (mkF m 125 #[.val (.int p0), .val (.int p1), .val (.ref r2), .val (.ref w_GAUGE32_5), .val (.ref r2), .val (.ref w_UNSIGNED32_7), .val (.int (1 : Int32)), .val (.int (0 : Int32)), .val (.int (1 : Int32)), .unset, .unset] [(.ref r2)])) _
            refine XS.aload X56.here hx rfl (hb hby at_125) rfl rfl ?_
            show Steps p.tables e below (T56.setTop (mkF m 127 #[.val (.int p0), .val (.int p1), .val (.ref r2), .val (.ref w_GAUGE32_5), .val (.ref r2), .val (.ref w_UNSIGNED32_7), .val (.int (1 : Int32)), .val (.int (0 : Int32)), .val (.int (1 : Int32)), .unset, .unset] [(.ref r2), (.ref r2)])) _
            refine Jvm.RoadKit.acmp (g := (mkF m 127 #[.val (.int p0), .val (.int p1), .val (.ref r2), .val (.ref w_GAUGE32_5), .val (.ref r2), .val (.ref w_UNSIGNED32_7), .val (.int (1 : Int32)), .val (.int (0 : Int32)), .val (.int (1 : Int32)), .unset, .unset] [(.ref r2), (.ref r2)])) X56 hx rfl rfl rfl (pc0 := 127) (pc' := 130) (same := true) rfl (hb hby at_127) rfl (decide_eq_true rfl) (by decide) (by decide) ?_
            show Steps p.tables e below (T56.setTop (mkF m 130 #[.val (.int p0), .val (.int p1), .val (.ref r2), .val (.ref w_GAUGE32_5), .val (.ref r2), .val (.ref w_UNSIGNED32_7), .val (.int (1 : Int32)), .val (.int (0 : Int32)), .val (.int (1 : Int32)), .unset, .unset] [])) _
            refine XS.iconst X56.here hx rfl (hb hby at_130) ?_
            show Steps p.tables e below (T56.setTop (mkF m 131 #[.val (.int p0), .val (.int p1), .val (.ref r2), .val (.ref w_GAUGE32_5), .val (.ref r2), .val (.ref w_UNSIGNED32_7), .val (.int (1 : Int32)), .val (.int (0 : Int32)), .val (.int (1 : Int32)), .unset, .unset] [(.int (1 : Int32))])) _
            refine XS.goto X56.here hx rfl (pc0 := 131) (pc' := 135) rfl (hb hby at_131) (by decide) (by decide) ?_
            show Steps p.tables e below (T56.setTop (mkF m 135 #[.val (.int p0), .val (.int p1), .val (.ref r2), .val (.ref w_GAUGE32_5), .val (.ref r2), .val (.ref w_UNSIGNED32_7), .val (.int (1 : Int32)), .val (.int (0 : Int32)), .val (.int (1 : Int32)), .unset, .unset] [(.int (1 : Int32))])) _
            refine XS.istore X56.here hx rfl (hb hby at_135) rfl (l' := #[.val (.int p0), .val (.int p1), .val (.ref r2), .val (.ref w_GAUGE32_5), .val (.ref r2), .val (.ref w_UNSIGNED32_7), .val (.int (1 : Int32)), .val (.int (0 : Int32)), .val (.int (1 : Int32)), .val (.int (1 : Int32)), .unset]) rfl ?_
            show Steps p.tables e below (T56.setTop (mkF m 137 #[.val (.int p0), .val (.int p1), .val (.ref r2), .val (.ref w_GAUGE32_5), .val (.ref r2), .val (.ref w_UNSIGNED32_7), .val (.int (1 : Int32)), .val (.int (0 : Int32)), .val (.int (1 : Int32)), .val (.int (1 : Int32)), .unset] [])) _
            refine XS.aload X56.here hx rfl (hb hby at_137) rfl rfl ?_
            show Steps p.tables e below (T56.setTop (mkF m 139 #[.val (.int p0), .val (.int p1), .val (.ref r2), .val (.ref w_GAUGE32_5), .val (.ref r2), .val (.ref w_UNSIGNED32_7), .val (.int (1 : Int32)), .val (.int (0 : Int32)), .val (.int (1 : Int32)), .val (.int (1 : Int32)), .unset] [(.ref r2)])) _
            refine st59 _ ?_
            show Steps p.tables e below (T59.setTop (mkF m 142 #[.val (.int p0), .val (.int p1), .val (.ref r2), .val (.ref w_GAUGE32_5), .val (.ref r2), .val (.ref w_UNSIGNED32_7), .val (.int (1 : Int32)), .val (.int (0 : Int32)), .val (.int (1 : Int32)), .val (.int (1 : Int32)), .unset] [(.ref w_GAUGE32_5), (.ref r2)])) _
            refine Jvm.RoadKit.acmp (g := (mkF m 142 #[.val (.int p0), .val (.int p1), .val (.ref r2), .val (.ref w_GAUGE32_5), .val (.ref r2), .val (.ref w_UNSIGNED32_7), .val (.int (1 : Int32)), .val (.int (0 : Int32)), .val (.int (1 : Int32)), .val (.int (1 : Int32)), .unset] [(.ref w_GAUGE32_5), (.ref r2)])) X59 hx rfl rfl rfl (pc0 := 142) (pc' := 145) (same := false) rfl (hb hby at_142) rfl (decide_eq_false fun q => hs8 (Value.ref.inj q)) (by decide) (by decide) ?_
            show Steps p.tables e below (T59.setTop (mkF m 145 #[.val (.int p0), .val (.int p1), .val (.ref r2), .val (.ref w_GAUGE32_5), .val (.ref r2), .val (.ref w_UNSIGNED32_7), .val (.int (1 : Int32)), .val (.int (0 : Int32)), .val (.int (1 : Int32)), .val (.int (1 : Int32)), .unset] [])) _
            refine XS.iconst X59.here hx rfl (hb hby at_145) ?_
            show Steps p.tables e below (T59.setTop (mkF m 146 #[.val (.int p0), .val (.int p1), .val (.ref r2), .val (.ref w_GAUGE32_5), .val (.ref r2), .val (.ref w_UNSIGNED32_7), .val (.int (1 : Int32)), .val (.int (0 : Int32)), .val (.int (1 : Int32)), .val (.int (1 : Int32)), .unset] [(.int (1 : Int32))])) _
            refine XS.goto X59.here hx rfl (pc0 := 146) (pc' := 150) rfl (hb hby at_146) (by decide) (by decide) ?_
            show Steps p.tables e below (T59.setTop (mkF m 150 #[.val (.int p0), .val (.int p1), .val (.ref r2), .val (.ref w_GAUGE32_5), .val (.ref r2), .val (.ref w_UNSIGNED32_7), .val (.int (1 : Int32)), .val (.int (0 : Int32)), .val (.int (1 : Int32)), .val (.int (1 : Int32)), .unset] [(.int (1 : Int32))])) _
            refine XS.istore X59.here hx rfl (hb hby at_150) rfl (l' := #[.val (.int p0), .val (.int p1), .val (.ref r2), .val (.ref w_GAUGE32_5), .val (.ref r2), .val (.ref w_UNSIGNED32_7), .val (.int (1 : Int32)), .val (.int (0 : Int32)), .val (.int (1 : Int32)), .val (.int (1 : Int32)), .val (.int (1 : Int32))]) rfl ?_
            show Steps p.tables e below (T59.setTop (mkF m 152 #[.val (.int p0), .val (.int p1), .val (.ref r2), .val (.ref w_GAUGE32_5), .val (.ref r2), .val (.ref w_UNSIGNED32_7), .val (.int (1 : Int32)), .val (.int (0 : Int32)), .val (.int (1 : Int32)), .val (.int (1 : Int32)), .val (.int (1 : Int32))] [])) _
            refine XS.iload X59.here hx rfl (hb hby at_152) rfl ?_
            show Steps p.tables e below (T59.setTop (mkF m 154 #[.val (.int p0), .val (.int p1), .val (.ref r2), .val (.ref w_GAUGE32_5), .val (.ref r2), .val (.ref w_UNSIGNED32_7), .val (.int (1 : Int32)), .val (.int (0 : Int32)), .val (.int (1 : Int32)), .val (.int (1 : Int32)), .val (.int (1 : Int32))] [(.int (1 : Int32))])) _
            refine XS.ifNo X59.here hx rfl (hb hby at_154) rfl ((if0 _ _).trans (feq (by decide : ¬ ((1 : Int32) = (0 : Int32)))).1) ?_
            show Steps p.tables e below (T59.setTop (mkF m 157 #[.val (.int p0), .val (.int p1), .val (.ref r2), .val (.ref w_GAUGE32_5), .val (.ref r2), .val (.ref w_UNSIGNED32_7), .val (.int (1 : Int32)), .val (.int (0 : Int32)), .val (.int (1 : Int32)), .val (.int (1 : Int32)), .val (.int (1 : Int32))] [])) _
            refine XS.iload X59.here hx rfl (hb hby at_157) rfl ?_
            show Steps p.tables e below (T59.setTop (mkF m 159 #[.val (.int p0), .val (.int p1), .val (.ref r2), .val (.ref w_GAUGE32_5), .val (.ref r2), .val (.ref w_UNSIGNED32_7), .val (.int (1 : Int32)), .val (.int (0 : Int32)), .val (.int (1 : Int32)), .val (.int (1 : Int32)), .val (.int (1 : Int32))] [(.int (1 : Int32))])) _
            refine XS.ifNo X59.here hx rfl (hb hby at_159) rfl ((if0 _ _).trans (feq (by decide : ¬ ((1 : Int32) = (0 : Int32)))).1) ?_
            show Steps p.tables e below (T59.setTop (mkF m 162 #[.val (.int p0), .val (.int p1), .val (.ref r2), .val (.ref w_GAUGE32_5), .val (.ref r2), .val (.ref w_UNSIGNED32_7), .val (.int (1 : Int32)), .val (.int (0 : Int32)), .val (.int (1 : Int32)), .val (.int (1 : Int32)), .val (.int (1 : Int32))] [])) _
            refine XS.iload X59.here hx rfl (hb hby at_162) rfl ?_
            show Steps p.tables e below (T59.setTop (mkF m 164 #[.val (.int p0), .val (.int p1), .val (.ref r2), .val (.ref w_GAUGE32_5), .val (.ref r2), .val (.ref w_UNSIGNED32_7), .val (.int (1 : Int32)), .val (.int (0 : Int32)), .val (.int (1 : Int32)), .val (.int (1 : Int32)), .val (.int (1 : Int32))] [(.int (1 : Int32))])) _
            refine XS.ifNo X59.here hx rfl (hb hby at_164) rfl ((if0 _ _).trans (feq (by decide : ¬ ((1 : Int32) = (0 : Int32)))).1) ?_
            show Steps p.tables e below (T59.setTop (mkF m 167 #[.val (.int p0), .val (.int p1), .val (.ref r2), .val (.ref w_GAUGE32_5), .val (.ref r2), .val (.ref w_UNSIGNED32_7), .val (.int (1 : Int32)), .val (.int (0 : Int32)), .val (.int (1 : Int32)), .val (.int (1 : Int32)), .val (.int (1 : Int32))] [])) _
            refine XS.iload X59.here hx rfl (hb hby at_167) rfl ?_
            show Steps p.tables e below (T59.setTop (mkF m 169 #[.val (.int p0), .val (.int p1), .val (.ref r2), .val (.ref w_GAUGE32_5), .val (.ref r2), .val (.ref w_UNSIGNED32_7), .val (.int (1 : Int32)), .val (.int (0 : Int32)), .val (.int (1 : Int32)), .val (.int (1 : Int32)), .val (.int (1 : Int32))] [(.int (1 : Int32))])) _
            refine XS.ifNo X59.here hx rfl (hb hby at_169) rfl ((if0 _ _).trans (feq (by decide : ¬ ((1 : Int32) = (0 : Int32)))).1) ?_
            show Steps p.tables e below (T59.setTop (mkF m 172 #[.val (.int p0), .val (.int p1), .val (.ref r2), .val (.ref w_GAUGE32_5), .val (.ref r2), .val (.ref w_UNSIGNED32_7), .val (.int (1 : Int32)), .val (.int (0 : Int32)), .val (.int (1 : Int32)), .val (.int (1 : Int32)), .val (.int (1 : Int32))] [])) _
            refine XS.iconst X59.here hx rfl (hb hby at_172) ?_
            show Steps p.tables e below (T59.setTop (mkF m 173 #[.val (.int p0), .val (.int p1), .val (.ref r2), .val (.ref w_GAUGE32_5), .val (.ref r2), .val (.ref w_UNSIGNED32_7), .val (.int (1 : Int32)), .val (.int (0 : Int32)), .val (.int (1 : Int32)), .val (.int (1 : Int32)), .val (.int (1 : Int32))] [(.int (1 : Int32))])) _
            refine XS.goto X59.here hx rfl (pc0 := 173) (pc' := 177) rfl (hb hby at_173) (by decide) (by decide) ?_
            exact kt)
        obtain ⟨fs, hr, hrun, hended, hW, hsame⟩ := X59.leave (v := some (.int (1 : Int32))) (fun h => by rw [Bd.returns] at h; cases h)
        refine ⟨_, _, pre60 _ ?_, hrun, hended, _, _, rfl, ?_, ⟨_, rfl⟩, hW, hsame.mono (by decide) (by decide)⟩
        · show Steps p.tables e below (T59.setTop (mkF m 177 #[.val (.int p0), .val (.int p1), .val (.ref r2), .val (.ref w_GAUGE32_5), .val (.ref r2), .val (.ref w_UNSIGNED32_7), .val (.int (1 : Int32)), .val (.int (0 : Int32)), .val (.int (1 : Int32)), .val (.int (1 : Int32)), .val (.int (1 : Int32))] [(.int (1 : Int32))])) _
          exact retN X59 hx (t := .boolean) Bd.returns (by simp) (hb hby at_177) hr
        · show Q0 Z _ _ _ _ _ _ _ _ _ _ _ _ _ _ h0 n0 _ T59.heap _
          rw [e59]
          exact ⟨rfl, N56, rfl⟩
    · skip
      obtain rfl : r4 = r40 := Pr40.2 hs42
      obtain ⟨T61, X61, e61, st61⟩ := getS2 X39 hx hZ hown (host := "") (Or.inl (hw _ (List.mem_of_getElem? (i := 17) rfl))) Via.refl e39 S_GAUGE32_4 (g := (mkF m 35 #[.val (.int p0), .val (.int p1), .val (.ref r2), .val (.ref r4), .val (.ref r2), .val (.ref r4), .unset, .unset, .unset, .unset, .unset] [(.ref r2)])) rfl (hb hby at_35)
      have pre62 : ∀ t, Steps p.tables e below (T61.setTop (mkF m 72 #[.val (.int p0), .val (.int p1), .val (.ref r2), .val (.ref r4), .val (.ref r2), .val (.ref r4), .val (.int (1 : Int32)), .unset, .unset, .unset, .unset] [(.ref r4), (.ref r2)])) t → Steps p.tables e below (s₁.setTop (entryFrame m #[(.int p0), (.int p1)] maxLocals)) t := fun t kt => pre41 t (by
          show Steps p.tables e below (T39.setTop (mkF m 20 #[.val (.int p0), .val (.int p1), .val (.ref r2), .val (.ref r4), .val (.ref r2), .unset, .unset, .unset, .unset, .unset, .unset] [(.ref r4)])) _
          refine XS.astore X39.here hx rfl (hb hby at_20) rfl rfl (l' := #[.val (.int p0), .val (.int p1), .val (.ref r2), .val (.ref r4), .val (.ref r2), .val (.ref r4), .unset, .unset, .unset, .unset, .unset]) rfl ?_
          show Steps p.tables e below (T39.setTop (mkF m 22 #[.val (.int p0), .val (.int p1), .val (.ref r2), .val (.ref r4), .val (.ref r2), .val (.ref r4), .unset, .unset, .unset, .unset, .unset] [])) _
          refine XS.aload X39.here hx rfl (hb hby at_22) rfl rfl ?_
          show Steps p.tables e below (T39.setTop (mkF m 24 #[.val (.int p0), .val (.int p1), .val (.ref r2), .val (.ref r4), .val (.ref r2), .val (.ref r4), .unset, .unset, .unset, .unset, .unset] [(.ref r2)])) _
          refine XS.ifnullNo X39.here hx rfl (hb hby at_24) rfl ?_
          show Steps p.tables e below (T39.setTop (mkF m 27 #[.val (.int p0), .val (.int p1), .val (.ref r2), .val (.ref r4), .val (.ref r2), .val (.ref r4), .unset, .unset, .unset, .unset, .unset] [])) _
          refine XS.aload X39.here hx rfl (hb hby at_27) rfl rfl ?_
          show Steps p.tables e below (T39.setTop (mkF m 29 #[.val (.int p0), .val (.int p1), .val (.ref r2), .val (.ref r4), .val (.ref r2), .val (.ref r4), .unset, .unset, .unset, .unset, .unset] [(.ref r4)])) _
          refine XS.ifnonnullYes X39.here hx rfl (pc0 := 29) (pc' := 34) rfl (hb hby at_29) rfl (by decide) (by decide) ?_
          show Steps p.tables e below (T39.setTop (mkF m 34 #[.val (.int p0), .val (.int p1), .val (.ref r2), .val (.ref r4), .val (.ref r2), .val (.ref r4), .unset, .unset, .unset, .unset, .unset] [])) _
          refine XS.aloadN X39.here hx rfl (hb hby at_34) rfl rfl ?_
          show Steps p.tables e below (T39.setTop (mkF m 35 #[.val (.int p0), .val (.int p1), .val (.ref r2), .val (.ref r4), .val (.ref r2), .val (.ref r4), .unset, .unset, .unset, .unset, .unset] [(.ref r2)])) _
          refine st61 _ ?_
          show Steps p.tables e below (T61.setTop (mkF m 38 #[.val (.int p0), .val (.int p1), .val (.ref r2), .val (.ref r4), .val (.ref r2), .val (.ref r4), .unset, .unset, .unset, .unset, .unset] [(.ref w_GAUGE32_5), (.ref r2)])) _
          refine Jvm.RoadKit.acmp (g := (mkF m 38 #[.val (.int p0), .val (.int p1), .val (.ref r2), .val (.ref r4), .val (.ref r2), .val (.ref r4), .unset, .unset, .unset, .unset, .unset] [(.ref w_GAUGE32_5), (.ref r2)])) X61 hx rfl rfl rfl (pc0 := 38) (pc' := 57) (same := false) rfl (hb hby at_38) rfl (decide_eq_false fun q => hs8 (Value.ref.inj q)) (by decide) (by decide) ?_
          show Steps p.tables e below (T61.setTop (mkF m 57 #[.val (.int p0), .val (.int p1), .val (.ref r2), .val (.ref r4), .val (.ref r2), .val (.ref r4), .unset, .unset, .unset, .unset, .unset] [])) _
          refine XS.aload X61.here hx rfl (hb hby at_57) rfl rfl ?_
          show Steps p.tables e below (T61.setTop (mkF m 59 #[.val (.int p0), .val (.int p1), .val (.ref r2), .val (.ref r4), .val (.ref r2), .val (.ref r4), .unset, .unset, .unset, .unset, .unset] [(.ref r2)])) _
          refine XS.aloadN X61.here hx rfl (hb hby at_59) rfl rfl ?_
          show Steps p.tables e below (T61.setTop (mkF m 60 #[.val (.int p0), .val (.int p1), .val (.ref r2), .val (.ref r4), .val (.ref r2), .val (.ref r4), .unset, .unset, .unset, .unset, .unset] [(.ref r2), (.ref r2)])) _
          refine Jvm.RoadKit.acmp (g := (mkF m 60 #[.val (.int p0), .val (.int p1), .val (.ref r2), .val (.ref r4), .val (.ref r2), .val (.ref r4), .unset, .unset, .unset, .unset, .unset] [(.ref r2), (.ref r2)])) X61 hx rfl rfl rfl (pc0 := 60) (pc' := 63) (same := true) rfl (hb hby at_60) rfl (decide_eq_true rfl) (by decide) (by decide) ?_
          show Steps p.tables e below (T61.setTop (mkF m 63 #[.val (.int p0), .val (.int p1), .val (.ref r2), .val (.ref r4), .val (.ref r2), .val (.ref r4), .unset, .unset, .unset, .unset, .unset] [])) _
          refine XS.iconst X61.here hx rfl (hb hby at_63) ?_
          show Steps p.tables e below (T61.setTop (mkF m 64 #[.val (.int p0), .val (.int p1), .val (.ref r2), .val (.ref r4), .val (.ref r2), .val (.ref r4), .unset, .unset, .unset, .unset, .unset] [(.int (1 : Int32))])) _
          refine XS.goto X61.here hx rfl (pc0 := 64) (pc' := 68) rfl (hb hby at_64) (by decide) (by decide) ?_
          show Steps p.tables e below (T61.setTop (mkF m 68 #[.val (.int p0), .val (.int p1), .val (.ref r2), .val (.ref r4), .val (.ref r2), .val (.ref r4), .unset, .unset, .unset, .unset, .unset] [(.int (1 : Int32))])) _
          refine XS.istore X61.here hx rfl (hb hby at_68) rfl (l' := #[.val (.int p0), .val (.int p1), .val (.ref r2), .val (.ref r4), .val (.ref r2), .val (.ref r4), .val (.int (1 : Int32)), .unset, .unset, .unset, .unset]) rfl ?_
          show Steps p.tables e below (T61.setTop (mkF m 70 #[.val (.int p0), .val (.int p1), .val (.ref r2), .val (.ref r4), .val (.ref r2), .val (.ref r4), .val (.int (1 : Int32)), .unset, .unset, .unset, .unset] [])) _
          refine XS.aloadN X61.here hx rfl (hb hby at_70) rfl rfl ?_
          show Steps p.tables e below (T61.setTop (mkF m 71 #[.val (.int p0), .val (.int p1), .val (.ref r2), .val (.ref r4), .val (.ref r2), .val (.ref r4), .val (.int (1 : Int32)), .unset, .unset, .unset, .unset] [(.ref r2)])) _
          refine XS.aloadN X61.here hx rfl (hb hby at_71) rfl rfl ?_
          exact kt)
      by_cases hc63 : r2 = r4
      · skip
        obtain rfl := hc63
        obtain ⟨cq64, kq64, q64a, q64b, q64c⟩ := isOf hZ e61 Pr4
        obtain ⟨_, _, ⟨T64, L64, k64, n64⟩, -, X64, ⟨Lc64, hQ64, l64, y64, z64⟩, st64⟩ := X61.virtualBack hx (y := (⟨"com/example/oidwright/oidwright/model/BaseType", "sentAs", "()Lcom/example/oidwright/oidwright/model/BaseType;"⟩ : MethodName)) (z := (⟨"com/example/oidwright/oidwright/model/BaseType", "sentAs", "()Lcom/example/oidwright/oidwright/model/BaseType;"⟩ : MethodName)) hown (mvT hZ (hw _ (List.mem_of_getElem? (i := 10) rfl))) (mvT hZ (hw _ (List.mem_of_getElem? (i := 11) rfl))) (notFace_of_selects (args := #[]) (mvT hZ (hw _ (List.mem_of_getElem? (i := 13) rfl)))) (mvT hZ (hw _ (List.mem_of_getElem? (i := 13) rfl))) (mvT hZ (hw _ (List.mem_of_getElem? (i := 12) rfl))) (by decide) (backOf (W := 0) (rm2 l Z aw hw [] r2 w_GAUGE32_5 w_UNSIGNED32_7 h0 n0 Z0 S_GAUGE32_4 S_UNSIGNED32_9) hZ (hw _ (List.mem_of_getElem? (i := 14) rfl)) (hw _ (List.mem_of_getElem? (i := 6) rfl)) (by decide) (by decide)) q64a q64c (g := (mkF m 122 #[.val (.int p0), .val (.int p1), .val (.ref r2), .val (.ref r2), .val (.ref r2), .val (.ref r2), .val (.int (1 : Int32)), .val (.int (1 : Int32)), .val (.int (1 : Int32)), .unset, .unset] [(.ref r2)])) rfl (by rw [hml]; rfl) (Steps.refl _) (argsL := []) (rest := []) (lenOf pd_1 rfl) rfl (by show 2 * 0 + _ ≤ _; exact Nat.le_of_eq rfl) (hb hby at_122) (fun _ _ => ⟨rfl, e61, (by decide : 0 + 0 ≤ _), (by decide : 0 + 0 ≤ _)⟩)
        dsimp only [Pt.U, Pt.locs, Pt.cells, Pt.slots] at X64 l64 y64 z64 st64 hQ64
        subst l64 y64 z64
        obtain ⟨⟨r65, rfl, Pr65⟩, Nq64, e64⟩ := hQ64
        have N64 := Fr.app N39 Nq64
        have pre66 : ∀ t, Steps p.tables e below (T64.setTop (mkF m 125 #[.val (.int p0), .val (.int p1), .val (.ref r2), .val (.ref r2), .val (.ref r2), .val (.ref r2), .val (.int (1 : Int32)), .val (.int (1 : Int32)), .val (.int (1 : Int32)), .unset, .unset] [(.ref r65)])) t → Steps p.tables e below (s₁.setTop (entryFrame m #[(.int p0), (.int p1)] maxLocals)) t := fun t kt => pre62 t (by
            show Steps p.tables e below (T61.setTop (mkF m 72 #[.val (.int p0), .val (.int p1), .val (.ref r2), .val (.ref r2), .val (.ref r2), .val (.ref r2), .val (.int (1 : Int32)), .unset, .unset, .unset, .unset] [(.ref r2), (.ref r2)])) _
            refine Jvm.RoadKit.acmp (g := (mkF m 72 #[.val (.int p0), .val (.int p1), .val (.ref r2), .val (.ref r2), .val (.ref r2), .val (.ref r2), .val (.int (1 : Int32)), .unset, .unset, .unset, .unset] [(.ref r2), (.ref r2)])) X61 hx rfl rfl rfl (pc0 := 72) (pc' := 89) (same := true) rfl (hb hby at_72) rfl (decide_eq_true rfl) (by decide) (by decide) ?_
            show Steps p.tables e below (T61.setTop (mkF m 89 #[.val (.int p0), .val (.int p1), .val (.ref r2), .val (.ref r2), .val (.ref r2), .val (.ref r2), .val (.int (1 : Int32)), .unset, .unset, .unset, .unset] [])) _
            refine XS.iconst X61.here hx rfl (hb hby at_89) ?_
            show Steps p.tables e below (T61.setTop (mkF m 90 #[.val (.int p0), .val (.int p1), .val (.ref r2), .val (.ref r2), .val (.ref r2), .val (.ref r2), .val (.int (1 : Int32)), .unset, .unset, .unset, .unset] [(.int (1 : Int32))])) _
            refine XS.goto X61.here hx rfl (pc0 := 90) (pc' := 94) rfl (hb hby at_90) (by decide) (by decide) ?_
            show Steps p.tables e below (T61.setTop (mkF m 94 #[.val (.int p0), .val (.int p1), .val (.ref r2), .val (.ref r2), .val (.ref r2), .val (.ref r2), .val (.int (1 : Int32)), .unset, .unset, .unset, .unset] [(.int (1 : Int32))])) _
            refine XS.istore X61.here hx rfl (hb hby at_94) rfl (l' := #[.val (.int p0), .val (.int p1), .val (.ref r2), .val (.ref r2), .val (.ref r2), .val (.ref r2), .val (.int (1 : Int32)), .val (.int (1 : Int32)), .unset, .unset, .unset]) rfl ?_
            show Steps p.tables e below (T61.setTop (mkF m 96 #[.val (.int p0), .val (.int p1), .val (.ref r2), .val (.ref r2), .val (.ref r2), .val (.ref r2), .val (.int (1 : Int32)), .val (.int (1 : Int32)), .unset, .unset, .unset] [])) _
            refine XS.aload X61.here hx rfl (hb hby at_96) rfl rfl ?_
            show Steps p.tables e below (T61.setTop (mkF m 98 #[.val (.int p0), .val (.int p1), .val (.ref r2), .val (.ref r2), .val (.ref r2), .val (.ref r2), .val (.int (1 : Int32)), .val (.int (1 : Int32)), .unset, .unset, .unset] [(.ref r2)])) _
            refine XS.aload X61.here hx rfl (hb hby at_98) rfl rfl ?_
            show Steps p.tables e below (T61.setTop (mkF m 100 #[.val (.int p0), .val (.int p1), .val (.ref r2), .val (.ref r2), .val (.ref r2), .val (.ref r2), .val (.int (1 : Int32)), .val (.int (1 : Int32)), .unset, .unset, .unset] [(.ref r2), (.ref r2)])) _
            refine Jvm.RoadKit.acmp (g := (mkF m 100 #[.val (.int p0), .val (.int p1), .val (.ref r2), .val (.ref r2), .val (.ref r2), .val (.ref r2), .val (.int (1 : Int32)), .val (.int (1 : Int32)), .unset, .unset, .unset] [(.ref r2), (.ref r2)])) X61 hx rfl rfl rfl (pc0 := 100) (pc' := 103) (same := true) rfl (hb hby at_100) rfl (decide_eq_true rfl) (by decide) (by decide) ?_
            show Steps p.tables e below (T61.setTop (mkF m 103 #[.val (.int p0), .val (.int p1), .val (.ref r2), .val (.ref r2), .val (.ref r2), .val (.ref r2), .val (.int (1 : Int32)), .val (.int (1 : Int32)), .unset, .unset, .unset] [])) _
            refine XS.iconst X61.here hx rfl (hb hby at_103) ?_
            show Steps p.tables e below (T61.setTop (mkF m 104 #[.val (.int p0), .val (.int p1), .val (.ref r2), .val (.ref r2), .val (.ref r2), .val (.ref r2), .val (.int (1 : Int32)), .val (.int (1 : Int32)), .unset, .unset, .unset] [(.int (1 : Int32))])) _
            refine XS.goto X61.here hx rfl (pc0 := 104) (pc' := 108) rfl (hb hby at_104) (by decide) (by decide) ?_
            show Steps p.tables e below (T61.setTop (mkF m 108 #[.val (.int p0), .val (.int p1), .val (.ref r2), .val (.ref r2), .val (.ref r2), .val (.ref r2), .val (.int (1 : Int32)), .val (.int (1 : Int32)), .unset, .unset, .unset] [(.int (1 : Int32))])) _
            refine XS.iload X61.here hx rfl (hb hby at_108) rfl ?_
            show Steps p.tables e below (T61.setTop (mkF m 110 #[.val (.int p0), .val (.int p1), .val (.ref r2), .val (.ref r2), .val (.ref r2), .val (.ref r2), .val (.int (1 : Int32)), .val (.int (1 : Int32)), .unset, .unset, .unset] [(.int (1 : Int32)), (.int (1 : Int32))])) _
            refine XS.icmpNo X61.here hx rfl (hb hby at_110) rfl (teq (rfl : (1 : Int32) = (1 : Int32))).2 ?_
            show Steps p.tables e below (T61.setTop (mkF m 113 #[.val (.int p0), .val (.int p1), .val (.ref r2), .val (.ref r2), .val (.ref r2), .val (.ref r2), .val (.int (1 : Int32)), .val (.int (1 : Int32)), .unset, .unset, .unset] [])) _
            refine XS.iconst X61.here hx rfl (hb hby at_113) ?_
            show Steps p.tables e below (T61.setTop (mkF m 114 #[.val (.int p0), .val (.int p1), .val (.ref r2), .val (.ref r2), .val (.ref r2), .val (.ref r2), .val (.int (1 : Int32)), .val (.int (1 : Int32)), .unset, .unset, .unset] [(.int (1 : Int32))])) _
            refine XS.goto X61.here hx rfl (pc0 := 114) (pc' := 118) rfl (hb hby at_114) (by decide) (by decide) ?_
            show Steps p.tables e below (T61.setTop (mkF m 118 #[.val (.int p0), .val (.int p1), .val (.ref r2), .val (.ref r2), .val (.ref r2), .val (.ref r2), .val (.int (1 : Int32)), .val (.int (1 : Int32)), .unset, .unset, .unset] [(.int (1 : Int32))])) _
            refine XS.istore X61.here hx rfl (hb hby at_118) rfl (l' := #[.val (.int p0), .val (.int p1), .val (.ref r2), .val (.ref r2), .val (.ref r2), .val (.ref r2), .val (.int (1 : Int32)), .val (.int (1 : Int32)), .val (.int (1 : Int32)), .unset, .unset]) rfl ?_
            show Steps p.tables e below (T61.setTop (mkF m 120 #[.val (.int p0), .val (.int p1), .val (.ref r2), .val (.ref r2), .val (.ref r2), .val (.ref r2), .val (.int (1 : Int32)), .val (.int (1 : Int32)), .val (.int (1 : Int32)), .unset, .unset] [])) _
            refine XS.aload X61.here hx rfl (hb hby at_120) rfl rfl ?_
            show Steps p.tables e below (T61.setTop (mkF m 122 #[.val (.int p0), .val (.int p1), .val (.ref r2), .val (.ref r2), .val (.ref r2), .val (.ref r2), .val (.int (1 : Int32)), .val (.int (1 : Int32)), .val (.int (1 : Int32)), .unset, .unset] [(.ref r2)])) _
            refine st64.trans ?_
            exact kt)
        obtain rfl : r2 = r65 := Pr65.2 hs42
        obtain ⟨T67, X67, e67, st67⟩ := getS2 X64 hx hZ hown (host := "") (Or.inl (hw _ (List.mem_of_getElem? (i := 17) rfl))) Via.refl e64 S_GAUGE32_4 (g := (mkF m 139 #[.val (.int p0), .val (.int p1), .val (.ref r2), .val (.ref r2), .val (.ref r2), .val (.ref r2), .val (.int (1 : Int32)), .val (.int (1 : Int32)), .val (.int (1 : Int32)), .val (.int (1 : Int32)), .unset] [(.ref r2)])) rfl (hb hby at_139)
        have pre68 : ∀ t, Steps p.tables e below (T67.setTop (mkF m 177 #[.val (.int p0), .val (.int p1), .val (.ref r2), .val (.ref r2), .val (.ref r2), .val (.ref r2), .val (.int (1 : Int32)), .val (.int (1 : Int32)), .val (.int (1 : Int32)), .val (.int (1 : Int32)), .val (.int (1 : Int32))] [(.int (1 : Int32))])) t → Steps p.tables e below (s₁.setTop (entryFrame m #[(.int p0), (.int p1)] maxLocals)) t := fun t kt => pre66 t (by
            show Steps p.tables e below (T64.setTop (mkF m 125 #[.val (.int p0), .val (.int p1), .val (.ref r2), .val (.ref r2), .val (.ref r2), .val (.ref r2), .val (.int (1 : Int32)), .val (.int (1 : Int32)), .val (.int (1 : Int32)), .unset, .unset] [(.ref r2)])) _
            refine XS.aload X64.here hx rfl (hb hby at_125) rfl rfl ?_
            show Steps p.tables e below (T64.setTop (mkF m 127 #[.val (.int p0), .val (.int p1), .val (.ref r2), .val (.ref r2), .val (.ref r2), .val (.ref r2), .val (.int (1 : Int32)), .val (.int (1 : Int32)), .val (.int (1 : Int32)), .unset, .unset] [(.ref r2), (.ref r2)])) _
            refine Jvm.RoadKit.acmp (g := (mkF m 127 #[.val (.int p0), .val (.int p1), .val (.ref r2), .val (.ref r2), .val (.ref r2), .val (.ref r2), .val (.int (1 : Int32)), .val (.int (1 : Int32)), .val (.int (1 : Int32)), .unset, .unset] [(.ref r2), (.ref r2)])) X64 hx rfl rfl rfl (pc0 := 127) (pc' := 130) (same := true) rfl (hb hby at_127) rfl (decide_eq_true rfl) (by decide) (by decide) ?_
            show Steps p.tables e below (T64.setTop (mkF m 130 #[.val (.int p0), .val (.int p1), .val (.ref r2), .val (.ref r2), .val (.ref r2), .val (.ref r2), .val (.int (1 : Int32)), .val (.int (1 : Int32)), .val (.int (1 : Int32)), .unset, .unset] [])) _
            refine XS.iconst X64.here hx rfl (hb hby at_130) ?_
            show Steps p.tables e below (T64.setTop (mkF m 131 #[.val (.int p0), .val (.int p1), .val (.ref r2), .val (.ref r2), .val (.ref r2), .val (.ref r2), .val (.int (1 : Int32)), .val (.int (1 : Int32)), .val (.int (1 : Int32)), .unset, .unset] [(.int (1 : Int32))])) _
            refine XS.goto X64.here hx rfl (pc0 := 131) (pc' := 135) rfl (hb hby at_131) (by decide) (by decide) ?_
            show Steps p.tables e below (T64.setTop (mkF m 135 #[.val (.int p0), .val (.int p1), .val (.ref r2), .val (.ref r2), .val (.ref r2), .val (.ref r2), .val (.int (1 : Int32)), .val (.int (1 : Int32)), .val (.int (1 : Int32)), .unset, .unset] [(.int (1 : Int32))])) _
            refine XS.istore X64.here hx rfl (hb hby at_135) rfl (l' := #[.val (.int p0), .val (.int p1), .val (.ref r2), .val (.ref r2), .val (.ref r2), .val (.ref r2), .val (.int (1 : Int32)), .val (.int (1 : Int32)), .val (.int (1 : Int32)), .val (.int (1 : Int32)), .unset]) rfl ?_
            show Steps p.tables e below (T64.setTop (mkF m 137 #[.val (.int p0), .val (.int p1), .val (.ref r2), .val (.ref r2), .val (.ref r2), .val (.ref r2), .val (.int (1 : Int32)), .val (.int (1 : Int32)), .val (.int (1 : Int32)), .val (.int (1 : Int32)), .unset] [])) _
            refine XS.aload X64.here hx rfl (hb hby at_137) rfl rfl ?_
            show Steps p.tables e below (T64.setTop (mkF m 139 #[.val (.int p0), .val (.int p1), .val (.ref r2), .val (.ref r2), .val (.ref r2), .val (.ref r2), .val (.int (1 : Int32)), .val (.int (1 : Int32)), .val (.int (1 : Int32)), .val (.int (1 : Int32)), .unset] [(.ref r2)])) _
            refine st67 _ ?_
            show Steps p.tables e below (T67.setTop (mkF m 142 #[.val (.int p0), .val (.int p1), .val (.ref r2), .val (.ref r2), .val (.ref r2), .val (.ref r2), .val (.int (1 : Int32)), .val (.int (1 : Int32)), .val (.int (1 : Int32)), .val (.int (1 : Int32)), .unset] [(.ref w_GAUGE32_5), (.ref r2)])) _
            refine Jvm.RoadKit.acmp (g := (mkF m 142 #[.val (.int p0), .val (.int p1), .val (.ref r2), .val (.ref r2), .val (.ref r2), .val (.ref r2), .val (.int (1 : Int32)), .val (.int (1 : Int32)), .val (.int (1 : Int32)), .val (.int (1 : Int32)), .unset] [(.ref w_GAUGE32_5), (.ref r2)])) X67 hx rfl rfl rfl (pc0 := 142) (pc' := 145) (same := false) rfl (hb hby at_142) rfl (decide_eq_false fun q => hs42 (Value.ref.inj q)) (by decide) (by decide) ?_
            show Steps p.tables e below (T67.setTop (mkF m 145 #[.val (.int p0), .val (.int p1), .val (.ref r2), .val (.ref r2), .val (.ref r2), .val (.ref r2), .val (.int (1 : Int32)), .val (.int (1 : Int32)), .val (.int (1 : Int32)), .val (.int (1 : Int32)), .unset] [])) _
            refine XS.iconst X67.here hx rfl (hb hby at_145) ?_
            show Steps p.tables e below (T67.setTop (mkF m 146 #[.val (.int p0), .val (.int p1), .val (.ref r2), .val (.ref r2), .val (.ref r2), .val (.ref r2), .val (.int (1 : Int32)), .val (.int (1 : Int32)), .val (.int (1 : Int32)), .val (.int (1 : Int32)), .unset] [(.int (1 : Int32))])) _
            refine XS.goto X67.here hx rfl (pc0 := 146) (pc' := 150) rfl (hb hby at_146) (by decide) (by decide) ?_
            show Steps p.tables e below (T67.setTop (mkF m 150 #[.val (.int p0), .val (.int p1), .val (.ref r2), .val (.ref r2), .val (.ref r2), .val (.ref r2), .val (.int (1 : Int32)), .val (.int (1 : Int32)), .val (.int (1 : Int32)), .val (.int (1 : Int32)), .unset] [(.int (1 : Int32))])) _
            refine XS.istore X67.here hx rfl (hb hby at_150) rfl (l' := #[.val (.int p0), .val (.int p1), .val (.ref r2), .val (.ref r2), .val (.ref r2), .val (.ref r2), .val (.int (1 : Int32)), .val (.int (1 : Int32)), .val (.int (1 : Int32)), .val (.int (1 : Int32)), .val (.int (1 : Int32))]) rfl ?_
            show Steps p.tables e below (T67.setTop (mkF m 152 #[.val (.int p0), .val (.int p1), .val (.ref r2), .val (.ref r2), .val (.ref r2), .val (.ref r2), .val (.int (1 : Int32)), .val (.int (1 : Int32)), .val (.int (1 : Int32)), .val (.int (1 : Int32)), .val (.int (1 : Int32))] [])) _
            refine XS.iload X67.here hx rfl (hb hby at_152) rfl ?_
            show Steps p.tables e below (T67.setTop (mkF m 154 #[.val (.int p0), .val (.int p1), .val (.ref r2), .val (.ref r2), .val (.ref r2), .val (.ref r2), .val (.int (1 : Int32)), .val (.int (1 : Int32)), .val (.int (1 : Int32)), .val (.int (1 : Int32)), .val (.int (1 : Int32))] [(.int (1 : Int32))])) _
            refine XS.ifNo X67.here hx rfl (hb hby at_154) rfl ((if0 _ _).trans (feq (by decide : ¬ ((1 : Int32) = (0 : Int32)))).1) ?_
            show Steps p.tables e below (T67.setTop (mkF m 157 #[.val (.int p0), .val (.int p1), .val (.ref r2), .val (.ref r2), .val (.ref r2), .val (.ref r2), .val (.int (1 : Int32)), .val (.int (1 : Int32)), .val (.int (1 : Int32)), .val (.int (1 : Int32)), .val (.int (1 : Int32))] [])) _
            refine XS.iload X67.here hx rfl (hb hby at_157) rfl ?_
            show Steps p.tables e below (T67.setTop (mkF m 159 #[.val (.int p0), .val (.int p1), .val (.ref r2), .val (.ref r2), .val (.ref r2), .val (.ref r2), .val (.int (1 : Int32)), .val (.int (1 : Int32)), .val (.int (1 : Int32)), .val (.int (1 : Int32)), .val (.int (1 : Int32))] [(.int (1 : Int32))])) _
            refine XS.ifNo X67.here hx rfl (hb hby at_159) rfl ((if0 _ _).trans (feq (by decide : ¬ ((1 : Int32) = (0 : Int32)))).1) ?_
            show Steps p.tables e below (T67.setTop (mkF m 162 #[.val (.int p0), .val (.int p1), .val (.ref r2), .val (.ref r2), .val (.ref r2), .val (.ref r2), .val (.int (1 : Int32)), .val (.int (1 : Int32)), .val (.int (1 : Int32)), .val (.int (1 : Int32)), .val (.int (1 : Int32))] [])) _
            refine XS.iload X67.here hx rfl (hb hby at_162) rfl ?_
            show Steps p.tables e below (T67.setTop (mkF m 164 #[.val (.int p0), .val (.int p1), .val (.ref r2), .val (.ref r2), .val (.ref r2), .val (.ref r2), .val (.int (1 : Int32)), .val (.int (1 : Int32)), .val (.int (1 : Int32)), .val (.int (1 : Int32)), .val (.int (1 : Int32))] [(.int (1 : Int32))])) _
            refine XS.ifNo X67.here hx rfl (hb hby at_164) rfl ((if0 _ _).trans (feq (by decide : ¬ ((1 : Int32) = (0 : Int32)))).1) ?_
            show Steps p.tables e below (T67.setTop (mkF m 167 #[.val (.int p0), .val (.int p1), .val (.ref r2), .val (.ref r2), .val (.ref r2), .val (.ref r2), .val (.int (1 : Int32)), .val (.int (1 : Int32)), .val (.int (1 : Int32)), .val (.int (1 : Int32)), .val (.int (1 : Int32))] [])) _
            refine XS.iload X67.here hx rfl (hb hby at_167) rfl ?_
            show Steps p.tables e below (T67.setTop (mkF m 169 #[.val (.int p0), .val (.int p1), .val (.ref r2), .val (.ref r2), .val (.ref r2), .val (.ref r2), .val (.int (1 : Int32)), .val (.int (1 : Int32)), .val (.int (1 : Int32)), .val (.int (1 : Int32)), .val (.int (1 : Int32))] [(.int (1 : Int32))])) _
            refine XS.ifNo X67.here hx rfl (hb hby at_169) rfl ((if0 _ _).trans (feq (by decide : ¬ ((1 : Int32) = (0 : Int32)))).1) ?_
            show Steps p.tables e below (T67.setTop (mkF m 172 #[.val (.int p0), .val (.int p1), .val (.ref r2), .val (.ref r2), .val (.ref r2), .val (.ref r2), .val (.int (1 : Int32)), .val (.int (1 : Int32)), .val (.int (1 : Int32)), .val (.int (1 : Int32)), .val (.int (1 : Int32))] [])) _
            refine XS.iconst X67.here hx rfl (hb hby at_172) ?_
            show Steps p.tables e below (T67.setTop (mkF m 173 #[.val (.int p0), .val (.int p1), .val (.ref r2), .val (.ref r2), .val (.ref r2), .val (.ref r2), .val (.int (1 : Int32)), .val (.int (1 : Int32)), .val (.int (1 : Int32)), .val (.int (1 : Int32)), .val (.int (1 : Int32))] [(.int (1 : Int32))])) _
            refine XS.goto X67.here hx rfl (pc0 := 173) (pc' := 177) rfl (hb hby at_173) (by decide) (by decide) ?_
            exact kt)
        obtain ⟨fs, hr, hrun, hended, hW, hsame⟩ := X67.leave (v := some (.int (1 : Int32))) (fun h => by rw [Bd.returns] at h; cases h)
        refine ⟨_, _, pre68 _ ?_, hrun, hended, _, _, rfl, ?_, ⟨_, rfl⟩, hW, hsame.mono (by decide) (by decide)⟩
        · show Steps p.tables e below (T67.setTop (mkF m 177 #[.val (.int p0), .val (.int p1), .val (.ref r2), .val (.ref r2), .val (.ref r2), .val (.ref r2), .val (.int (1 : Int32)), .val (.int (1 : Int32)), .val (.int (1 : Int32)), .val (.int (1 : Int32)), .val (.int (1 : Int32))] [(.int (1 : Int32))])) _
          exact retN X67 hx (t := .boolean) Bd.returns (by simp) (hb hby at_177) hr
        · show Q0 Z _ _ _ _ _ _ _ _ _ _ _ _ _ _ h0 n0 _ T67.heap _
          rw [e67]
          exact ⟨rfl, N64, rfl⟩
      · skip
        obtain ⟨_, _, ⟨T69, L69, k69, n69⟩, -, X69, ⟨Lc69, hQ69, l69, y69, z69⟩, st69⟩ := Jvm.LawKit.callS X61 hx (y := (⟨"com/example/oidwright/oidwright/model/BaseTypeSentAsPinLaw", "app2", "(Lcom/example/oidwright/oidwright/model/BaseType;)Z"⟩ : MethodName)) hown (mvT hZ (hw _ (List.mem_of_getElem? (i := 18) rfl))) (mvT hZ (hw _ (List.mem_of_getElem? (i := 19) rfl))) (mvT hZ (hw _ (List.mem_of_getElem? (i := 2) rfl))) (mvT hZ (hw _ (List.mem_of_getElem? (i := 20) rfl))) (by decide) (backOf (W := 0) (rm3 l Z aw hw [] r2 w_GAUGE32_5 w_UNSIGNED32_7 h0 n0 Z0 S_GAUGE32_4 S_UNSIGNED32_9) hZ (hw _ (List.mem_of_getElem? (i := 20) rfl)) (hw _ (List.mem_of_getElem? (i := 2) rfl)) (by decide) (by decide)) (g := (mkF m 76 #[.val (.int p0), .val (.int p1), .val (.ref r2), .val (.ref r4), .val (.ref r2), .val (.ref r4), .val (.int (1 : Int32)), .unset, .unset, .unset, .unset] [(.ref r2)])) rfl (by rw [hml]; rfl) (argsL := [(.ref r2)]) (rest := []) (lenOf pd_2 rfl) rfl (by show 2 * 0 + _ ≤ _; exact Nat.le_of_eq rfl) (hb hby at_76) (fun _ _ => ⟨rfl, e61, (by decide : 0 + 0 ≤ _), (by decide : 0 + 0 ≤ _)⟩)
        dsimp only [Pt.U, Pt.locs, Pt.cells, Pt.slots] at X69 l69 y69 z69 st69 hQ69
        subst l69 y69 z69
        obtain ⟨⟨r70, rfl, Pr70⟩, Nq69, e69⟩ := hQ69
        have N69 := Fr.app N39 Nq69
        have pre71 : ∀ t, Steps p.tables e below (T69.setTop (mkF m 79 #[.val (.int p0), .val (.int p1), .val (.ref r2), .val (.ref r4), .val (.ref r2), .val (.ref r4), .val (.int (1 : Int32)), .unset, .unset, .unset, .unset] [(.int r70)])) t → Steps p.tables e below (s₁.setTop (entryFrame m #[(.int p0), (.int p1)] maxLocals)) t := fun t kt => pre62 t (by
            show Steps p.tables e below (T61.setTop (mkF m 72 #[.val (.int p0), .val (.int p1), .val (.ref r2), .val (.ref r4), .val (.ref r2), .val (.ref r4), .val (.int (1 : Int32)), .unset, .unset, .unset, .unset] [(.ref r4), (.ref r2)])) _
            refine Jvm.RoadKit.acmp (g := (mkF m 72 #[.val (.int p0), .val (.int p1), .val (.ref r2), .val (.ref r4), .val (.ref r2), .val (.ref r4), .val (.int (1 : Int32)), .unset, .unset, .unset, .unset] [(.ref r4), (.ref r2)])) X61 hx rfl rfl rfl (pc0 := 72) (pc' := 75) (same := false) rfl (hb hby at_72) rfl (decide_eq_false fun q => hc63 (Value.ref.inj q)) (by decide) (by decide) ?_
            show Steps p.tables e below (T61.setTop (mkF m 75 #[.val (.int p0), .val (.int p1), .val (.ref r2), .val (.ref r4), .val (.ref r2), .val (.ref r4), .val (.int (1 : Int32)), .unset, .unset, .unset, .unset] [])) _
            refine XS.aloadN X61.here hx rfl (hb hby at_75) rfl rfl ?_
            show Steps p.tables e below (T61.setTop (mkF m 76 #[.val (.int p0), .val (.int p1), .val (.ref r2), .val (.ref r4), .val (.ref r2), .val (.ref r4), .val (.int (1 : Int32)), .unset, .unset, .unset, .unset] [(.ref r2)])) _
            refine st69 _ ?_
            exact kt)
        by_cases hs72 : r2 = w_UNSIGNED32_7
        · skip
          obtain rfl : w_UNSIGNED32_7 = r2 := hs72.symm
          obtain rfl : (1 : Int32) = r70 := Pr70.1 (Or.inr rfl)
          obtain ⟨_, _, ⟨T73, L73, k73, n73⟩, -, X73, ⟨Lc73, hQ73, l73, y73, z73⟩, st73⟩ := Jvm.LawKit.callS X69 hx (y := (⟨"com/example/oidwright/oidwright/model/BaseTypeSentAsPinLaw", "app2", "(Lcom/example/oidwright/oidwright/model/BaseType;)Z"⟩ : MethodName)) hown (mvT hZ (hw _ (List.mem_of_getElem? (i := 18) rfl))) (mvT hZ (hw _ (List.mem_of_getElem? (i := 19) rfl))) (mvT hZ (hw _ (List.mem_of_getElem? (i := 2) rfl))) (mvT hZ (hw _ (List.mem_of_getElem? (i := 20) rfl))) (by decide) (backOf (W := 0) (rm3 l Z aw hw [] r4 w_GAUGE32_5 w_UNSIGNED32_7 h0 n0 Z0 S_GAUGE32_4 S_UNSIGNED32_9) hZ (hw _ (List.mem_of_getElem? (i := 20) rfl)) (hw _ (List.mem_of_getElem? (i := 2) rfl)) (by decide) (by decide)) (g := (mkF m 83 #[.val (.int p0), .val (.int p1), .val (.ref w_UNSIGNED32_7), .val (.ref r4), .val (.ref w_UNSIGNED32_7), .val (.ref r4), .val (.int (1 : Int32)), .unset, .unset, .unset, .unset] [(.ref r4)])) rfl (by rw [hml]; rfl) (argsL := [(.ref r4)]) (rest := []) (lenOf pd_2 rfl) rfl (by show 2 * 0 + _ ≤ _; exact Nat.le_of_eq rfl) (hb hby at_83) (fun _ _ => ⟨rfl, e69, (by decide : 0 + 0 ≤ _), (by decide : 0 + 0 ≤ _)⟩)
          dsimp only [Pt.U, Pt.locs, Pt.cells, Pt.slots] at X73 l73 y73 z73 st73 hQ73
          subst l73 y73 z73
          obtain ⟨⟨r74, rfl, Pr74⟩, Nq73, e73⟩ := hQ73
          have N73 := Fr.app N69 Nq73
          have pre75 : ∀ t, Steps p.tables e below (T73.setTop (mkF m 86 #[.val (.int p0), .val (.int p1), .val (.ref w_UNSIGNED32_7), .val (.ref r4), .val (.ref w_UNSIGNED32_7), .val (.ref r4), .val (.int (1 : Int32)), .unset, .unset, .unset, .unset] [(.int r74)])) t → Steps p.tables e below (s₁.setTop (entryFrame m #[(.int p0), (.int p1)] maxLocals)) t := fun t kt => pre71 t (by
              show Steps p.tables e below (T69.setTop (mkF m 79 #[.val (.int p0), .val (.int p1), .val (.ref w_UNSIGNED32_7), .val (.ref r4), .val (.ref w_UNSIGNED32_7), .val (.ref r4), .val (.int (1 : Int32)), .unset, .unset, .unset, .unset] [(.int (1 : Int32))])) _
              refine XS.ifNo X69.here hx rfl (hb hby at_79) rfl ((if0 _ _).trans (feq (by decide : ¬ ((1 : Int32) = (0 : Int32)))).1) ?_
              show Steps p.tables e below (T69.setTop (mkF m 82 #[.val (.int p0), .val (.int p1), .val (.ref w_UNSIGNED32_7), .val (.ref r4), .val (.ref w_UNSIGNED32_7), .val (.ref r4), .val (.int (1 : Int32)), .unset, .unset, .unset, .unset] [])) _
              refine XS.aloadN X69.here hx rfl (hb hby at_82) rfl rfl ?_
              show Steps p.tables e below (T69.setTop (mkF m 83 #[.val (.int p0), .val (.int p1), .val (.ref w_UNSIGNED32_7), .val (.ref r4), .val (.ref w_UNSIGNED32_7), .val (.ref r4), .val (.int (1 : Int32)), .unset, .unset, .unset, .unset] [(.ref r4)])) _
              refine st73 _ ?_
              exact kt)
          obtain rfl : (0 : Int32) = r74 := Pr74.2 hs42 (Ne.symm hc63)
          obtain ⟨cq76, kq76, q76a, q76b, q76c⟩ := isOf hZ e73 Pr2
          obtain ⟨_, _, ⟨T76, L76, k76, n76⟩, -, X76, ⟨Lc76, hQ76, l76, y76, z76⟩, st76⟩ := X73.virtualBack hx (y := (⟨"com/example/oidwright/oidwright/model/BaseType", "sentAs", "()Lcom/example/oidwright/oidwright/model/BaseType;"⟩ : MethodName)) (z := (⟨"com/example/oidwright/oidwright/model/BaseType", "sentAs", "()Lcom/example/oidwright/oidwright/model/BaseType;"⟩ : MethodName)) hown (mvT hZ (hw _ (List.mem_of_getElem? (i := 10) rfl))) (mvT hZ (hw _ (List.mem_of_getElem? (i := 11) rfl))) (notFace_of_selects (args := #[]) (mvT hZ (hw _ (List.mem_of_getElem? (i := 13) rfl)))) (mvT hZ (hw _ (List.mem_of_getElem? (i := 13) rfl))) (mvT hZ (hw _ (List.mem_of_getElem? (i := 12) rfl))) (by decide) (backOf (W := 0) (rm2 l Z aw hw [] w_UNSIGNED32_7 w_GAUGE32_5 w_UNSIGNED32_7 h0 n0 Z0 S_GAUGE32_4 S_UNSIGNED32_9) hZ (hw _ (List.mem_of_getElem? (i := 14) rfl)) (hw _ (List.mem_of_getElem? (i := 6) rfl)) (by decide) (by decide)) q76a q76c (g := (mkF m 122 #[.val (.int p0), .val (.int p1), .val (.ref w_UNSIGNED32_7), .val (.ref r4), .val (.ref w_UNSIGNED32_7), .val (.ref r4), .val (.int (1 : Int32)), .val (.int (0 : Int32)), .val (.int (1 : Int32)), .unset, .unset] [(.ref w_UNSIGNED32_7)])) rfl (by rw [hml]; rfl) (Steps.refl _) (argsL := []) (rest := []) (lenOf pd_1 rfl) rfl (by show 2 * 0 + _ ≤ _; exact Nat.le_of_eq rfl) (hb hby at_122) (fun _ _ => ⟨rfl, e73, (by decide : 0 + 0 ≤ _), (by decide : 0 + 0 ≤ _)⟩)
          dsimp only [Pt.U, Pt.locs, Pt.cells, Pt.slots] at X76 l76 y76 z76 st76 hQ76
          subst l76 y76 z76
          obtain ⟨⟨r77, rfl, Pr77⟩, Nq76, e76⟩ := hQ76
          have N76 := Fr.app N73 Nq76
          have pre78 : ∀ t, Steps p.tables e below (T76.setTop (mkF m 125 #[.val (.int p0), .val (.int p1), .val (.ref w_UNSIGNED32_7), .val (.ref r4), .val (.ref w_UNSIGNED32_7), .val (.ref r4), .val (.int (1 : Int32)), .val (.int (0 : Int32)), .val (.int (1 : Int32)), .unset, .unset] [(.ref r77)])) t → Steps p.tables e below (s₁.setTop (entryFrame m #[(.int p0), (.int p1)] maxLocals)) t := fun t kt => pre75 t (by
              show Steps p.tables e below (T73.setTop (mkF m 86 #[.val (.int p0), .val (.int p1), .val (.ref w_UNSIGNED32_7), .val (.ref r4), .val (.ref w_UNSIGNED32_7), .val (.ref r4), .val (.int (1 : Int32)), .unset, .unset, .unset, .unset] [(.int (0 : Int32))])) _
              refine XS.ifYes X73.here hx rfl (pc0 := 86) (pc' := 93) rfl (hb hby at_86) rfl ((if0 _ _).trans (teq (rfl : (0 : Int32) = (0 : Int32))).1) (by decide) (by decide) ?_
              show Steps p.tables e below (T73.setTop (mkF m 93 #[.val (.int p0), .val (.int p1), .val (.ref w_UNSIGNED32_7), .val (.ref r4), .val (.ref w_UNSIGNED32_7), .val (.ref r4), .val (.int (1 : Int32)), .unset, .unset, .unset, .unset] [])) _
              refine XS.iconst X73.here hx rfl (hb hby at_93) ?_
              show Steps p.tables e below (T73.setTop (mkF m 94 #[.val (.int p0), .val (.int p1), .val (.ref w_UNSIGNED32_7), .val (.ref r4), .val (.ref w_UNSIGNED32_7), .val (.ref r4), .val (.int (1 : Int32)), .unset, .unset, .unset, .unset] [(.int (0 : Int32))])) _
              refine XS.istore X73.here hx rfl (hb hby at_94) rfl (l' := #[.val (.int p0), .val (.int p1), .val (.ref w_UNSIGNED32_7), .val (.ref r4), .val (.ref w_UNSIGNED32_7), .val (.ref r4), .val (.int (1 : Int32)), .val (.int (0 : Int32)), .unset, .unset, .unset]) rfl ?_
              show Steps p.tables e below (T73.setTop (mkF m 96 #[.val (.int p0), .val (.int p1), .val (.ref w_UNSIGNED32_7), .val (.ref r4), .val (.ref w_UNSIGNED32_7), .val (.ref r4), .val (.int (1 : Int32)), .val (.int (0 : Int32)), .unset, .unset, .unset] [])) _
              refine XS.aload X73.here hx rfl (hb hby at_96) rfl rfl ?_
              show Steps p.tables e below (T73.setTop (mkF m 98 #[.val (.int p0), .val (.int p1), .val (.ref w_UNSIGNED32_7), .val (.ref r4), .val (.ref w_UNSIGNED32_7), .val (.ref r4), .val (.int (1 : Int32)), .val (.int (0 : Int32)), .unset, .unset, .unset] [(.ref w_UNSIGNED32_7)])) _
              refine XS.aload X73.here hx rfl (hb hby at_98) rfl rfl ?_
              show Steps p.tables e below (T73.setTop (mkF m 100 #[.val (.int p0), .val (.int p1), .val (.ref w_UNSIGNED32_7), .val (.ref r4), .val (.ref w_UNSIGNED32_7), .val (.ref r4), .val (.int (1 : Int32)), .val (.int (0 : Int32)), .unset, .unset, .unset] [(.ref r4), (.ref w_UNSIGNED32_7)])) _
              refine Jvm.RoadKit.acmp (g := (mkF m 100 #[.val (.int p0), .val (.int p1), .val (.ref w_UNSIGNED32_7), .val (.ref r4), .val (.ref w_UNSIGNED32_7), .val (.ref r4), .val (.int (1 : Int32)), .val (.int (0 : Int32)), .unset, .unset, .unset] [(.ref r4), (.ref w_UNSIGNED32_7)])) X73 hx rfl rfl rfl (pc0 := 100) (pc' := 107) (same := false) rfl (hb hby at_100) rfl (decide_eq_false fun q => hc63 (Value.ref.inj q)) (by decide) (by decide) ?_
              show Steps p.tables e below (T73.setTop (mkF m 107 #[.val (.int p0), .val (.int p1), .val (.ref w_UNSIGNED32_7), .val (.ref r4), .val (.ref w_UNSIGNED32_7), .val (.ref r4), .val (.int (1 : Int32)), .val (.int (0 : Int32)), .unset, .unset, .unset] [])) _
              refine XS.iconst X73.here hx rfl (hb hby at_107) ?_
              show Steps p.tables e below (T73.setTop (mkF m 108 #[.val (.int p0), .val (.int p1), .val (.ref w_UNSIGNED32_7), .val (.ref r4), .val (.ref w_UNSIGNED32_7), .val (.ref r4), .val (.int (1 : Int32)), .val (.int (0 : Int32)), .unset, .unset, .unset] [(.int (0 : Int32))])) _
              refine XS.iload X73.here hx rfl (hb hby at_108) rfl ?_
              show Steps p.tables e below (T73.setTop (mkF m 110 #[.val (.int p0), .val (.int p1), .val (.ref w_UNSIGNED32_7), .val (.ref r4), .val (.ref w_UNSIGNED32_7), .val (.ref r4), .val (.int (1 : Int32)), .val (.int (0 : Int32)), .unset, .unset, .unset] [(.int (0 : Int32)), (.int (0 : Int32))])) _
              refine XS.icmpNo X73.here hx rfl (hb hby at_110) rfl (teq (rfl : (0 : Int32) = (0 : Int32))).2 ?_
              show Steps p.tables e below (T73.setTop (mkF m 113 #[.val (.int p0), .val (.int p1), .val (.ref w_UNSIGNED32_7), .val (.ref r4), .val (.ref w_UNSIGNED32_7), .val (.ref r4), .val (.int (1 : Int32)), .val (.int (0 : Int32)), .unset, .unset, .unset] [])) _
              refine XS.iconst X73.here hx rfl (hb hby at_113) ?_
              show Steps p.tables e below (T73.setTop (mkF m 114 #[.val (.int p0), .val (.int p1), .val (.ref w_UNSIGNED32_7), .val (.ref r4), .val (.ref w_UNSIGNED32_7), .val (.ref r4), .val (.int (1 : Int32)), .val (.int (0 : Int32)), .unset, .unset, .unset] [(.int (1 : Int32))])) _
              refine XS.goto X73.here hx rfl (pc0 := 114) (pc' := 118) rfl (hb hby at_114) (by decide) (by decide) ?_
              show Steps p.tables e below (T73.setTop (mkF m 118 #[.val (.int p0), .val (.int p1), .val (.ref w_UNSIGNED32_7), .val (.ref r4), .val (.ref w_UNSIGNED32_7), .val (.ref r4), .val (.int (1 : Int32)), .val (.int (0 : Int32)), .unset, .unset, .unset] [(.int (1 : Int32))])) _
              refine XS.istore X73.here hx rfl (hb hby at_118) rfl (l' := #[.val (.int p0), .val (.int p1), .val (.ref w_UNSIGNED32_7), .val (.ref r4), .val (.ref w_UNSIGNED32_7), .val (.ref r4), .val (.int (1 : Int32)), .val (.int (0 : Int32)), .val (.int (1 : Int32)), .unset, .unset]) rfl ?_
              show Steps p.tables e below (T73.setTop (mkF m 120 #[.val (.int p0), .val (.int p1), .val (.ref w_UNSIGNED32_7), .val (.ref r4), .val (.ref w_UNSIGNED32_7), .val (.ref r4), .val (.int (1 : Int32)), .val (.int (0 : Int32)), .val (.int (1 : Int32)), .unset, .unset] [])) _
              refine XS.aload X73.here hx rfl (hb hby at_120) rfl rfl ?_
              show Steps p.tables e below (T73.setTop (mkF m 122 #[.val (.int p0), .val (.int p1), .val (.ref w_UNSIGNED32_7), .val (.ref r4), .val (.ref w_UNSIGNED32_7), .val (.ref r4), .val (.int (1 : Int32)), .val (.int (0 : Int32)), .val (.int (1 : Int32)), .unset, .unset] [(.ref w_UNSIGNED32_7)])) _
              refine st76.trans ?_
              exact kt)
          obtain rfl : w_UNSIGNED32_7 = r77 := Pr77.2 hs8
          obtain ⟨T79, X79, e79, st79⟩ := getS2 X76 hx hZ hown (host := "") (Or.inl (hw _ (List.mem_of_getElem? (i := 17) rfl))) Via.refl e76 S_GAUGE32_4 (g := (mkF m 139 #[.val (.int p0), .val (.int p1), .val (.ref w_UNSIGNED32_7), .val (.ref r4), .val (.ref w_UNSIGNED32_7), .val (.ref r4), .val (.int (1 : Int32)), .val (.int (0 : Int32)), .val (.int (1 : Int32)), .val (.int (1 : Int32)), .unset] [(.ref w_UNSIGNED32_7)])) rfl (hb hby at_139)
          have pre80 : ∀ t, Steps p.tables e below (T79.setTop (mkF m 177 #[.val (.int p0), .val (.int p1), .val (.ref w_UNSIGNED32_7), .val (.ref r4), .val (.ref w_UNSIGNED32_7), .val (.ref r4), .val (.int (1 : Int32)), .val (.int (0 : Int32)), .val (.int (1 : Int32)), .val (.int (1 : Int32)), .val (.int (1 : Int32))] [(.int (1 : Int32))])) t → Steps p.tables e below (s₁.setTop (entryFrame m #[(.int p0), (.int p1)] maxLocals)) t := fun t kt => pre78 t (by
              show Steps p.tables e below (T76.setTop (mkF m 125 #[.val (.int p0), .val (.int p1), .val (.ref w_UNSIGNED32_7), .val (.ref r4), .val (.ref w_UNSIGNED32_7), .val (.ref r4), .val (.int (1 : Int32)), .val (.int (0 : Int32)), .val (.int (1 : Int32)), .unset, .unset] [(.ref w_UNSIGNED32_7)])) _
              refine XS.aload X76.here hx rfl (hb hby at_125) rfl rfl ?_
              show Steps p.tables e below (T76.setTop (mkF m 127 #[.val (.int p0), .val (.int p1), .val (.ref w_UNSIGNED32_7), .val (.ref r4), .val (.ref w_UNSIGNED32_7), .val (.ref r4), .val (.int (1 : Int32)), .val (.int (0 : Int32)), .val (.int (1 : Int32)), .unset, .unset] [(.ref w_UNSIGNED32_7), (.ref w_UNSIGNED32_7)])) _
              refine Jvm.RoadKit.acmp (g := (mkF m 127 #[.val (.int p0), .val (.int p1), .val (.ref w_UNSIGNED32_7), .val (.ref r4), .val (.ref w_UNSIGNED32_7), .val (.ref r4), .val (.int (1 : Int32)), .val (.int (0 : Int32)), .val (.int (1 : Int32)), .unset, .unset] [(.ref w_UNSIGNED32_7), (.ref w_UNSIGNED32_7)])) X76 hx rfl rfl rfl (pc0 := 127) (pc' := 130) (same := true) rfl (hb hby at_127) rfl (decide_eq_true rfl) (by decide) (by decide) ?_
              show Steps p.tables e below (T76.setTop (mkF m 130 #[.val (.int p0), .val (.int p1), .val (.ref w_UNSIGNED32_7), .val (.ref r4), .val (.ref w_UNSIGNED32_7), .val (.ref r4), .val (.int (1 : Int32)), .val (.int (0 : Int32)), .val (.int (1 : Int32)), .unset, .unset] [])) _
              refine XS.iconst X76.here hx rfl (hb hby at_130) ?_
              show Steps p.tables e below (T76.setTop (mkF m 131 #[.val (.int p0), .val (.int p1), .val (.ref w_UNSIGNED32_7), .val (.ref r4), .val (.ref w_UNSIGNED32_7), .val (.ref r4), .val (.int (1 : Int32)), .val (.int (0 : Int32)), .val (.int (1 : Int32)), .unset, .unset] [(.int (1 : Int32))])) _
              refine XS.goto X76.here hx rfl (pc0 := 131) (pc' := 135) rfl (hb hby at_131) (by decide) (by decide) ?_
              show Steps p.tables e below (T76.setTop (mkF m 135 #[.val (.int p0), .val (.int p1), .val (.ref w_UNSIGNED32_7), .val (.ref r4), .val (.ref w_UNSIGNED32_7), .val (.ref r4), .val (.int (1 : Int32)), .val (.int (0 : Int32)), .val (.int (1 : Int32)), .unset, .unset] [(.int (1 : Int32))])) _
              refine XS.istore X76.here hx rfl (hb hby at_135) rfl (l' := #[.val (.int p0), .val (.int p1), .val (.ref w_UNSIGNED32_7), .val (.ref r4), .val (.ref w_UNSIGNED32_7), .val (.ref r4), .val (.int (1 : Int32)), .val (.int (0 : Int32)), .val (.int (1 : Int32)), .val (.int (1 : Int32)), .unset]) rfl ?_
              show Steps p.tables e below (T76.setTop (mkF m 137 #[.val (.int p0), .val (.int p1), .val (.ref w_UNSIGNED32_7), .val (.ref r4), .val (.ref w_UNSIGNED32_7), .val (.ref r4), .val (.int (1 : Int32)), .val (.int (0 : Int32)), .val (.int (1 : Int32)), .val (.int (1 : Int32)), .unset] [])) _
              refine XS.aload X76.here hx rfl (hb hby at_137) rfl rfl ?_
              show Steps p.tables e below (T76.setTop (mkF m 139 #[.val (.int p0), .val (.int p1), .val (.ref w_UNSIGNED32_7), .val (.ref r4), .val (.ref w_UNSIGNED32_7), .val (.ref r4), .val (.int (1 : Int32)), .val (.int (0 : Int32)), .val (.int (1 : Int32)), .val (.int (1 : Int32)), .unset] [(.ref w_UNSIGNED32_7)])) _
              refine st79 _ ?_
              show Steps p.tables e below (T79.setTop (mkF m 142 #[.val (.int p0), .val (.int p1), .val (.ref w_UNSIGNED32_7), .val (.ref r4), .val (.ref w_UNSIGNED32_7), .val (.ref r4), .val (.int (1 : Int32)), .val (.int (0 : Int32)), .val (.int (1 : Int32)), .val (.int (1 : Int32)), .unset] [(.ref w_GAUGE32_5), (.ref w_UNSIGNED32_7)])) _
              refine Jvm.RoadKit.acmp (g := (mkF m 142 #[.val (.int p0), .val (.int p1), .val (.ref w_UNSIGNED32_7), .val (.ref r4), .val (.ref w_UNSIGNED32_7), .val (.ref r4), .val (.int (1 : Int32)), .val (.int (0 : Int32)), .val (.int (1 : Int32)), .val (.int (1 : Int32)), .unset] [(.ref w_GAUGE32_5), (.ref w_UNSIGNED32_7)])) X79 hx rfl rfl rfl (pc0 := 142) (pc' := 145) (same := false) rfl (hb hby at_142) rfl (decide_eq_false fun q => hs8 (Value.ref.inj q)) (by decide) (by decide) ?_
              show Steps p.tables e below (T79.setTop (mkF m 145 #[.val (.int p0), .val (.int p1), .val (.ref w_UNSIGNED32_7), .val (.ref r4), .val (.ref w_UNSIGNED32_7), .val (.ref r4), .val (.int (1 : Int32)), .val (.int (0 : Int32)), .val (.int (1 : Int32)), .val (.int (1 : Int32)), .unset] [])) _
              refine XS.iconst X79.here hx rfl (hb hby at_145) ?_
              show Steps p.tables e below (T79.setTop (mkF m 146 #[.val (.int p0), .val (.int p1), .val (.ref w_UNSIGNED32_7), .val (.ref r4), .val (.ref w_UNSIGNED32_7), .val (.ref r4), .val (.int (1 : Int32)), .val (.int (0 : Int32)), .val (.int (1 : Int32)), .val (.int (1 : Int32)), .unset] [(.int (1 : Int32))])) _
              refine XS.goto X79.here hx rfl (pc0 := 146) (pc' := 150) rfl (hb hby at_146) (by decide) (by decide) ?_
              show Steps p.tables e below (T79.setTop (mkF m 150 #[.val (.int p0), .val (.int p1), .val (.ref w_UNSIGNED32_7), .val (.ref r4), .val (.ref w_UNSIGNED32_7), .val (.ref r4), .val (.int (1 : Int32)), .val (.int (0 : Int32)), .val (.int (1 : Int32)), .val (.int (1 : Int32)), .unset] [(.int (1 : Int32))])) _
              refine XS.istore X79.here hx rfl (hb hby at_150) rfl (l' := #[.val (.int p0), .val (.int p1), .val (.ref w_UNSIGNED32_7), .val (.ref r4), .val (.ref w_UNSIGNED32_7), .val (.ref r4), .val (.int (1 : Int32)), .val (.int (0 : Int32)), .val (.int (1 : Int32)), .val (.int (1 : Int32)), .val (.int (1 : Int32))]) rfl ?_
              show Steps p.tables e below (T79.setTop (mkF m 152 #[.val (.int p0), .val (.int p1), .val (.ref w_UNSIGNED32_7), .val (.ref r4), .val (.ref w_UNSIGNED32_7), .val (.ref r4), .val (.int (1 : Int32)), .val (.int (0 : Int32)), .val (.int (1 : Int32)), .val (.int (1 : Int32)), .val (.int (1 : Int32))] [])) _
              refine XS.iload X79.here hx rfl (hb hby at_152) rfl ?_
              show Steps p.tables e below (T79.setTop (mkF m 154 #[.val (.int p0), .val (.int p1), .val (.ref w_UNSIGNED32_7), .val (.ref r4), .val (.ref w_UNSIGNED32_7), .val (.ref r4), .val (.int (1 : Int32)), .val (.int (0 : Int32)), .val (.int (1 : Int32)), .val (.int (1 : Int32)), .val (.int (1 : Int32))] [(.int (1 : Int32))])) _
              refine XS.ifNo X79.here hx rfl (hb hby at_154) rfl ((if0 _ _).trans (feq (by decide : ¬ ((1 : Int32) = (0 : Int32)))).1) ?_
              show Steps p.tables e below (T79.setTop (mkF m 157 #[.val (.int p0), .val (.int p1), .val (.ref w_UNSIGNED32_7), .val (.ref r4), .val (.ref w_UNSIGNED32_7), .val (.ref r4), .val (.int (1 : Int32)), .val (.int (0 : Int32)), .val (.int (1 : Int32)), .val (.int (1 : Int32)), .val (.int (1 : Int32))] [])) _
              refine XS.iload X79.here hx rfl (hb hby at_157) rfl ?_
              show Steps p.tables e below (T79.setTop (mkF m 159 #[.val (.int p0), .val (.int p1), .val (.ref w_UNSIGNED32_7), .val (.ref r4), .val (.ref w_UNSIGNED32_7), .val (.ref r4), .val (.int (1 : Int32)), .val (.int (0 : Int32)), .val (.int (1 : Int32)), .val (.int (1 : Int32)), .val (.int (1 : Int32))] [(.int (1 : Int32))])) _
              refine XS.ifNo X79.here hx rfl (hb hby at_159) rfl ((if0 _ _).trans (feq (by decide : ¬ ((1 : Int32) = (0 : Int32)))).1) ?_
              show Steps p.tables e below (T79.setTop (mkF m 162 #[.val (.int p0), .val (.int p1), .val (.ref w_UNSIGNED32_7), .val (.ref r4), .val (.ref w_UNSIGNED32_7), .val (.ref r4), .val (.int (1 : Int32)), .val (.int (0 : Int32)), .val (.int (1 : Int32)), .val (.int (1 : Int32)), .val (.int (1 : Int32))] [])) _
              refine XS.iload X79.here hx rfl (hb hby at_162) rfl ?_
              show Steps p.tables e below (T79.setTop (mkF m 164 #[.val (.int p0), .val (.int p1), .val (.ref w_UNSIGNED32_7), .val (.ref r4), .val (.ref w_UNSIGNED32_7), .val (.ref r4), .val (.int (1 : Int32)), .val (.int (0 : Int32)), .val (.int (1 : Int32)), .val (.int (1 : Int32)), .val (.int (1 : Int32))] [(.int (1 : Int32))])) _
              refine XS.ifNo X79.here hx rfl (hb hby at_164) rfl ((if0 _ _).trans (feq (by decide : ¬ ((1 : Int32) = (0 : Int32)))).1) ?_
              show Steps p.tables e below (T79.setTop (mkF m 167 #[.val (.int p0), .val (.int p1), .val (.ref w_UNSIGNED32_7), .val (.ref r4), .val (.ref w_UNSIGNED32_7), .val (.ref r4), .val (.int (1 : Int32)), .val (.int (0 : Int32)), .val (.int (1 : Int32)), .val (.int (1 : Int32)), .val (.int (1 : Int32))] [])) _
              refine XS.iload X79.here hx rfl (hb hby at_167) rfl ?_
              show Steps p.tables e below (T79.setTop (mkF m 169 #[.val (.int p0), .val (.int p1), .val (.ref w_UNSIGNED32_7), .val (.ref r4), .val (.ref w_UNSIGNED32_7), .val (.ref r4), .val (.int (1 : Int32)), .val (.int (0 : Int32)), .val (.int (1 : Int32)), .val (.int (1 : Int32)), .val (.int (1 : Int32))] [(.int (1 : Int32))])) _
              refine XS.ifNo X79.here hx rfl (hb hby at_169) rfl ((if0 _ _).trans (feq (by decide : ¬ ((1 : Int32) = (0 : Int32)))).1) ?_
              show Steps p.tables e below (T79.setTop (mkF m 172 #[.val (.int p0), .val (.int p1), .val (.ref w_UNSIGNED32_7), .val (.ref r4), .val (.ref w_UNSIGNED32_7), .val (.ref r4), .val (.int (1 : Int32)), .val (.int (0 : Int32)), .val (.int (1 : Int32)), .val (.int (1 : Int32)), .val (.int (1 : Int32))] [])) _
              refine XS.iconst X79.here hx rfl (hb hby at_172) ?_
              show Steps p.tables e below (T79.setTop (mkF m 173 #[.val (.int p0), .val (.int p1), .val (.ref w_UNSIGNED32_7), .val (.ref r4), .val (.ref w_UNSIGNED32_7), .val (.ref r4), .val (.int (1 : Int32)), .val (.int (0 : Int32)), .val (.int (1 : Int32)), .val (.int (1 : Int32)), .val (.int (1 : Int32))] [(.int (1 : Int32))])) _
              refine XS.goto X79.here hx rfl (pc0 := 173) (pc' := 177) rfl (hb hby at_173) (by decide) (by decide) ?_
              exact kt)
          obtain ⟨fs, hr, hrun, hended, hW, hsame⟩ := X79.leave (v := some (.int (1 : Int32))) (fun h => by rw [Bd.returns] at h; cases h)
          refine ⟨_, _, pre80 _ ?_, hrun, hended, _, _, rfl, ?_, ⟨_, rfl⟩, hW, hsame.mono (by decide) (by decide)⟩
          · show Steps p.tables e below (T79.setTop (mkF m 177 #[.val (.int p0), .val (.int p1), .val (.ref w_UNSIGNED32_7), .val (.ref r4), .val (.ref w_UNSIGNED32_7), .val (.ref r4), .val (.int (1 : Int32)), .val (.int (0 : Int32)), .val (.int (1 : Int32)), .val (.int (1 : Int32)), .val (.int (1 : Int32))] [(.int (1 : Int32))])) _
            exact retN X79 hx (t := .boolean) Bd.returns (by simp) (hb hby at_177) hr
          · show Q0 Z _ _ _ _ _ _ _ _ _ _ _ _ _ _ h0 n0 _ T79.heap _
            rw [e79]
            exact ⟨rfl, N76, rfl⟩
        · skip
          obtain rfl : (0 : Int32) = r70 := Pr70.2 hs8 hs72
          obtain ⟨cq81, kq81, q81a, q81b, q81c⟩ := isOf hZ e69 Pr2
          obtain ⟨_, _, ⟨T81, L81, k81, n81⟩, -, X81, ⟨Lc81, hQ81, l81, y81, z81⟩, st81⟩ := X69.virtualBack hx (y := (⟨"com/example/oidwright/oidwright/model/BaseType", "sentAs", "()Lcom/example/oidwright/oidwright/model/BaseType;"⟩ : MethodName)) (z := (⟨"com/example/oidwright/oidwright/model/BaseType", "sentAs", "()Lcom/example/oidwright/oidwright/model/BaseType;"⟩ : MethodName)) hown (mvT hZ (hw _ (List.mem_of_getElem? (i := 10) rfl))) (mvT hZ (hw _ (List.mem_of_getElem? (i := 11) rfl))) (notFace_of_selects (args := #[]) (mvT hZ (hw _ (List.mem_of_getElem? (i := 13) rfl)))) (mvT hZ (hw _ (List.mem_of_getElem? (i := 13) rfl))) (mvT hZ (hw _ (List.mem_of_getElem? (i := 12) rfl))) (by decide) (backOf (W := 0) (rm2 l Z aw hw [] r2 w_GAUGE32_5 w_UNSIGNED32_7 h0 n0 Z0 S_GAUGE32_4 S_UNSIGNED32_9) hZ (hw _ (List.mem_of_getElem? (i := 14) rfl)) (hw _ (List.mem_of_getElem? (i := 6) rfl)) (by decide) (by decide)) q81a q81c (g := (mkF m 122 #[.val (.int p0), .val (.int p1), .val (.ref r2), .val (.ref r4), .val (.ref r2), .val (.ref r4), .val (.int (1 : Int32)), .val (.int (0 : Int32)), .val (.int (1 : Int32)), .unset, .unset] [(.ref r2)])) rfl (by rw [hml]; rfl) (Steps.refl _) (argsL := []) (rest := []) (lenOf pd_1 rfl) rfl (by show 2 * 0 + _ ≤ _; exact Nat.le_of_eq rfl) (hb hby at_122) (fun _ _ => ⟨rfl, e69, (by decide : 0 + 0 ≤ _), (by decide : 0 + 0 ≤ _)⟩)
          dsimp only [Pt.U, Pt.locs, Pt.cells, Pt.slots] at X81 l81 y81 z81 st81 hQ81
          subst l81 y81 z81
          obtain ⟨⟨r82, rfl, Pr82⟩, Nq81, e81⟩ := hQ81
          have N81 := Fr.app N69 Nq81
          have pre83 : ∀ t, Steps p.tables e below (T81.setTop (mkF m 125 #[.val (.int p0), .val (.int p1), .val (.ref r2), .val (.ref r4), .val (.ref r2), .val (.ref r4), .val (.int (1 : Int32)), .val (.int (0 : Int32)), .val (.int (1 : Int32)), .unset, .unset] [(.ref r82)])) t → Steps p.tables e below (s₁.setTop (entryFrame m #[(.int p0), (.int p1)] maxLocals)) t := fun t kt => pre71 t (by
              show Steps p.tables e below (T69.setTop (mkF m 79 #[.val (.int p0), .val (.int p1), .val (.ref r2), .val (.ref r4), .val (.ref r2), .val (.ref r4), .val (.int (1 : Int32)), .unset, .unset, .unset, .unset] [(.int (0 : Int32))])) _
              refine XS.ifYes X69.here hx rfl (pc0 := 79) (pc' := 93) rfl (hb hby at_79) rfl ((if0 _ _).trans (teq (rfl : (0 : Int32) = (0 : Int32))).1) (by decide) (by decide) ?_
              show Steps p.tables e below (T69.setTop (mkF m 93 #[.val (.int p0), .val (.int p1), .val (.ref r2), .val (.ref r4), .val (.ref r2), .val (.ref r4), .val (.int (1 : Int32)), .unset, .unset, .unset, .unset] [])) _
              refine XS.iconst X69.here hx rfl (hb hby at_93) ?_
              show Steps p.tables e below (T69.setTop (mkF m 94 #[.val (.int p0), .val (.int p1), .val (.ref r2), .val (.ref r4), .val (.ref r2), .val (.ref r4), .val (.int (1 : Int32)), .unset, .unset, .unset, .unset] [(.int (0 : Int32))])) _
              refine XS.istore X69.here hx rfl (hb hby at_94) rfl (l' := #[.val (.int p0), .val (.int p1), .val (.ref r2), .val (.ref r4), .val (.ref r2), .val (.ref r4), .val (.int (1 : Int32)), .val (.int (0 : Int32)), .unset, .unset, .unset]) rfl ?_
              show Steps p.tables e below (T69.setTop (mkF m 96 #[.val (.int p0), .val (.int p1), .val (.ref r2), .val (.ref r4), .val (.ref r2), .val (.ref r4), .val (.int (1 : Int32)), .val (.int (0 : Int32)), .unset, .unset, .unset] [])) _
              refine XS.aload X69.here hx rfl (hb hby at_96) rfl rfl ?_
              show Steps p.tables e below (T69.setTop (mkF m 98 #[.val (.int p0), .val (.int p1), .val (.ref r2), .val (.ref r4), .val (.ref r2), .val (.ref r4), .val (.int (1 : Int32)), .val (.int (0 : Int32)), .unset, .unset, .unset] [(.ref r2)])) _
              refine XS.aload X69.here hx rfl (hb hby at_98) rfl rfl ?_
              show Steps p.tables e below (T69.setTop (mkF m 100 #[.val (.int p0), .val (.int p1), .val (.ref r2), .val (.ref r4), .val (.ref r2), .val (.ref r4), .val (.int (1 : Int32)), .val (.int (0 : Int32)), .unset, .unset, .unset] [(.ref r4), (.ref r2)])) _
              refine Jvm.RoadKit.acmp (g := (mkF m 100 #[.val (.int p0), .val (.int p1), .val (.ref r2), .val (.ref r4), .val (.ref r2), .val (.ref r4), .val (.int (1 : Int32)), .val (.int (0 : Int32)), .unset, .unset, .unset] [(.ref r4), (.ref r2)])) X69 hx rfl rfl rfl (pc0 := 100) (pc' := 107) (same := false) rfl (hb hby at_100) rfl (decide_eq_false fun q => hc63 (Value.ref.inj q)) (by decide) (by decide) ?_
              show Steps p.tables e below (T69.setTop (mkF m 107 #[.val (.int p0), .val (.int p1), .val (.ref r2), .val (.ref r4), .val (.ref r2), .val (.ref r4), .val (.int (1 : Int32)), .val (.int (0 : Int32)), .unset, .unset, .unset] [])) _
              refine XS.iconst X69.here hx rfl (hb hby at_107) ?_
              show Steps p.tables e below (T69.setTop (mkF m 108 #[.val (.int p0), .val (.int p1), .val (.ref r2), .val (.ref r4), .val (.ref r2), .val (.ref r4), .val (.int (1 : Int32)), .val (.int (0 : Int32)), .unset, .unset, .unset] [(.int (0 : Int32))])) _
              refine XS.iload X69.here hx rfl (hb hby at_108) rfl ?_
              show Steps p.tables e below (T69.setTop (mkF m 110 #[.val (.int p0), .val (.int p1), .val (.ref r2), .val (.ref r4), .val (.ref r2), .val (.ref r4), .val (.int (1 : Int32)), .val (.int (0 : Int32)), .unset, .unset, .unset] [(.int (0 : Int32)), (.int (0 : Int32))])) _
              refine XS.icmpNo X69.here hx rfl (hb hby at_110) rfl (teq (rfl : (0 : Int32) = (0 : Int32))).2 ?_
              show Steps p.tables e below (T69.setTop (mkF m 113 #[.val (.int p0), .val (.int p1), .val (.ref r2), .val (.ref r4), .val (.ref r2), .val (.ref r4), .val (.int (1 : Int32)), .val (.int (0 : Int32)), .unset, .unset, .unset] [])) _
              refine XS.iconst X69.here hx rfl (hb hby at_113) ?_
              show Steps p.tables e below (T69.setTop (mkF m 114 #[.val (.int p0), .val (.int p1), .val (.ref r2), .val (.ref r4), .val (.ref r2), .val (.ref r4), .val (.int (1 : Int32)), .val (.int (0 : Int32)), .unset, .unset, .unset] [(.int (1 : Int32))])) _
              refine XS.goto X69.here hx rfl (pc0 := 114) (pc' := 118) rfl (hb hby at_114) (by decide) (by decide) ?_
              show Steps p.tables e below (T69.setTop (mkF m 118 #[.val (.int p0), .val (.int p1), .val (.ref r2), .val (.ref r4), .val (.ref r2), .val (.ref r4), .val (.int (1 : Int32)), .val (.int (0 : Int32)), .unset, .unset, .unset] [(.int (1 : Int32))])) _
              refine XS.istore X69.here hx rfl (hb hby at_118) rfl (l' := #[.val (.int p0), .val (.int p1), .val (.ref r2), .val (.ref r4), .val (.ref r2), .val (.ref r4), .val (.int (1 : Int32)), .val (.int (0 : Int32)), .val (.int (1 : Int32)), .unset, .unset]) rfl ?_
              show Steps p.tables e below (T69.setTop (mkF m 120 #[.val (.int p0), .val (.int p1), .val (.ref r2), .val (.ref r4), .val (.ref r2), .val (.ref r4), .val (.int (1 : Int32)), .val (.int (0 : Int32)), .val (.int (1 : Int32)), .unset, .unset] [])) _
              refine XS.aload X69.here hx rfl (hb hby at_120) rfl rfl ?_
              show Steps p.tables e below (T69.setTop (mkF m 122 #[.val (.int p0), .val (.int p1), .val (.ref r2), .val (.ref r4), .val (.ref r2), .val (.ref r4), .val (.int (1 : Int32)), .val (.int (0 : Int32)), .val (.int (1 : Int32)), .unset, .unset] [(.ref r2)])) _
              refine st81.trans ?_
              exact kt)
          obtain rfl : r2 = r82 := Pr82.2 hs8
          obtain ⟨T84, X84, e84, st84⟩ := getS2 X81 hx hZ hown (host := "") (Or.inl (hw _ (List.mem_of_getElem? (i := 17) rfl))) Via.refl e81 S_GAUGE32_4 (g := (mkF m 139 #[.val (.int p0), .val (.int p1), .val (.ref r2), .val (.ref r4), .val (.ref r2), .val (.ref r4), .val (.int (1 : Int32)), .val (.int (0 : Int32)), .val (.int (1 : Int32)), .val (.int (1 : Int32)), .unset] [(.ref r2)])) rfl (hb hby at_139)
          have pre85 : ∀ t, Steps p.tables e below (T84.setTop (mkF m 177 #[.val (.int p0), .val (.int p1), .val (.ref r2), .val (.ref r4), .val (.ref r2), .val (.ref r4), .val (.int (1 : Int32)), .val (.int (0 : Int32)), .val (.int (1 : Int32)), .val (.int (1 : Int32)), .val (.int (1 : Int32))] [(.int (1 : Int32))])) t → Steps p.tables e below (s₁.setTop (entryFrame m #[(.int p0), (.int p1)] maxLocals)) t := fun t kt => pre83 t (by
              show Steps p.tables e below (T81.setTop (mkF m 125 #[.val (.int p0), .val (.int p1), .val (.ref r2), .val (.ref r4), .val (.ref r2), .val (.ref r4), .val (.int (1 : Int32)), .val (.int (0 : Int32)), .val (.int (1 : Int32)), .unset, .unset] [(.ref r2)])) _
              refine XS.aload X81.here hx rfl (hb hby at_125) rfl rfl ?_
              show Steps p.tables e below (T81.setTop (mkF m 127 #[.val (.int p0), .val (.int p1), .val (.ref r2), .val (.ref r4), .val (.ref r2), .val (.ref r4), .val (.int (1 : Int32)), .val (.int (0 : Int32)), .val (.int (1 : Int32)), .unset, .unset] [(.ref r2), (.ref r2)])) _
              refine Jvm.RoadKit.acmp (g := (mkF m 127 #[.val (.int p0), .val (.int p1), .val (.ref r2), .val (.ref r4), .val (.ref r2), .val (.ref r4), .val (.int (1 : Int32)), .val (.int (0 : Int32)), .val (.int (1 : Int32)), .unset, .unset] [(.ref r2), (.ref r2)])) X81 hx rfl rfl rfl (pc0 := 127) (pc' := 130) (same := true) rfl (hb hby at_127) rfl (decide_eq_true rfl) (by decide) (by decide) ?_
              show Steps p.tables e below (T81.setTop (mkF m 130 #[.val (.int p0), .val (.int p1), .val (.ref r2), .val (.ref r4), .val (.ref r2), .val (.ref r4), .val (.int (1 : Int32)), .val (.int (0 : Int32)), .val (.int (1 : Int32)), .unset, .unset] [])) _
              refine XS.iconst X81.here hx rfl (hb hby at_130) ?_
              show Steps p.tables e below (T81.setTop (mkF m 131 #[.val (.int p0), .val (.int p1), .val (.ref r2), .val (.ref r4), .val (.ref r2), .val (.ref r4), .val (.int (1 : Int32)), .val (.int (0 : Int32)), .val (.int (1 : Int32)), .unset, .unset] [(.int (1 : Int32))])) _
              refine XS.goto X81.here hx rfl (pc0 := 131) (pc' := 135) rfl (hb hby at_131) (by decide) (by decide) ?_
              show Steps p.tables e below (T81.setTop (mkF m 135 #[.val (.int p0), .val (.int p1), .val (.ref r2), .val (.ref r4), .val (.ref r2), .val (.ref r4), .val (.int (1 : Int32)), .val (.int (0 : Int32)), .val (.int (1 : Int32)), .unset, .unset] [(.int (1 : Int32))])) _
              refine XS.istore X81.here hx rfl (hb hby at_135) rfl (l' := #[.val (.int p0), .val (.int p1), .val (.ref r2), .val (.ref r4), .val (.ref r2), .val (.ref r4), .val (.int (1 : Int32)), .val (.int (0 : Int32)), .val (.int (1 : Int32)), .val (.int (1 : Int32)), .unset]) rfl ?_
              show Steps p.tables e below (T81.setTop (mkF m 137 #[.val (.int p0), .val (.int p1), .val (.ref r2), .val (.ref r4), .val (.ref r2), .val (.ref r4), .val (.int (1 : Int32)), .val (.int (0 : Int32)), .val (.int (1 : Int32)), .val (.int (1 : Int32)), .unset] [])) _
              refine XS.aload X81.here hx rfl (hb hby at_137) rfl rfl ?_
              show Steps p.tables e below (T81.setTop (mkF m 139 #[.val (.int p0), .val (.int p1), .val (.ref r2), .val (.ref r4), .val (.ref r2), .val (.ref r4), .val (.int (1 : Int32)), .val (.int (0 : Int32)), .val (.int (1 : Int32)), .val (.int (1 : Int32)), .unset] [(.ref r2)])) _
              refine st84 _ ?_
              show Steps p.tables e below (T84.setTop (mkF m 142 #[.val (.int p0), .val (.int p1), .val (.ref r2), .val (.ref r4), .val (.ref r2), .val (.ref r4), .val (.int (1 : Int32)), .val (.int (0 : Int32)), .val (.int (1 : Int32)), .val (.int (1 : Int32)), .unset] [(.ref w_GAUGE32_5), (.ref r2)])) _
              refine Jvm.RoadKit.acmp (g := (mkF m 142 #[.val (.int p0), .val (.int p1), .val (.ref r2), .val (.ref r4), .val (.ref r2), .val (.ref r4), .val (.int (1 : Int32)), .val (.int (0 : Int32)), .val (.int (1 : Int32)), .val (.int (1 : Int32)), .unset] [(.ref w_GAUGE32_5), (.ref r2)])) X84 hx rfl rfl rfl (pc0 := 142) (pc' := 145) (same := false) rfl (hb hby at_142) rfl (decide_eq_false fun q => hs8 (Value.ref.inj q)) (by decide) (by decide) ?_
              show Steps p.tables e below (T84.setTop (mkF m 145 #[.val (.int p0), .val (.int p1), .val (.ref r2), .val (.ref r4), .val (.ref r2), .val (.ref r4), .val (.int (1 : Int32)), .val (.int (0 : Int32)), .val (.int (1 : Int32)), .val (.int (1 : Int32)), .unset] [])) _
              refine XS.iconst X84.here hx rfl (hb hby at_145) ?_
              show Steps p.tables e below (T84.setTop (mkF m 146 #[.val (.int p0), .val (.int p1), .val (.ref r2), .val (.ref r4), .val (.ref r2), .val (.ref r4), .val (.int (1 : Int32)), .val (.int (0 : Int32)), .val (.int (1 : Int32)), .val (.int (1 : Int32)), .unset] [(.int (1 : Int32))])) _
              refine XS.goto X84.here hx rfl (pc0 := 146) (pc' := 150) rfl (hb hby at_146) (by decide) (by decide) ?_
              show Steps p.tables e below (T84.setTop (mkF m 150 #[.val (.int p0), .val (.int p1), .val (.ref r2), .val (.ref r4), .val (.ref r2), .val (.ref r4), .val (.int (1 : Int32)), .val (.int (0 : Int32)), .val (.int (1 : Int32)), .val (.int (1 : Int32)), .unset] [(.int (1 : Int32))])) _
              refine XS.istore X84.here hx rfl (hb hby at_150) rfl (l' := #[.val (.int p0), .val (.int p1), .val (.ref r2), .val (.ref r4), .val (.ref r2), .val (.ref r4), .val (.int (1 : Int32)), .val (.int (0 : Int32)), .val (.int (1 : Int32)), .val (.int (1 : Int32)), .val (.int (1 : Int32))]) rfl ?_
              show Steps p.tables e below (T84.setTop (mkF m 152 #[.val (.int p0), .val (.int p1), .val (.ref r2), .val (.ref r4), .val (.ref r2), .val (.ref r4), .val (.int (1 : Int32)), .val (.int (0 : Int32)), .val (.int (1 : Int32)), .val (.int (1 : Int32)), .val (.int (1 : Int32))] [])) _
              refine XS.iload X84.here hx rfl (hb hby at_152) rfl ?_
              show Steps p.tables e below (T84.setTop (mkF m 154 #[.val (.int p0), .val (.int p1), .val (.ref r2), .val (.ref r4), .val (.ref r2), .val (.ref r4), .val (.int (1 : Int32)), .val (.int (0 : Int32)), .val (.int (1 : Int32)), .val (.int (1 : Int32)), .val (.int (1 : Int32))] [(.int (1 : Int32))])) _
              refine XS.ifNo X84.here hx rfl (hb hby at_154) rfl ((if0 _ _).trans (feq (by decide : ¬ ((1 : Int32) = (0 : Int32)))).1) ?_
              show Steps p.tables e below (T84.setTop (mkF m 157 #[.val (.int p0), .val (.int p1), .val (.ref r2), .val (.ref r4), .val (.ref r2), .val (.ref r4), .val (.int (1 : Int32)), .val (.int (0 : Int32)), .val (.int (1 : Int32)), .val (.int (1 : Int32)), .val (.int (1 : Int32))] [])) _
              refine XS.iload X84.here hx rfl (hb hby at_157) rfl ?_
              show Steps p.tables e below (T84.setTop (mkF m 159 #[.val (.int p0), .val (.int p1), .val (.ref r2), .val (.ref r4), .val (.ref r2), .val (.ref r4), .val (.int (1 : Int32)), .val (.int (0 : Int32)), .val (.int (1 : Int32)), .val (.int (1 : Int32)), .val (.int (1 : Int32))] [(.int (1 : Int32))])) _
              refine XS.ifNo X84.here hx rfl (hb hby at_159) rfl ((if0 _ _).trans (feq (by decide : ¬ ((1 : Int32) = (0 : Int32)))).1) ?_
              show Steps p.tables e below (T84.setTop (mkF m 162 #[.val (.int p0), .val (.int p1), .val (.ref r2), .val (.ref r4), .val (.ref r2), .val (.ref r4), .val (.int (1 : Int32)), .val (.int (0 : Int32)), .val (.int (1 : Int32)), .val (.int (1 : Int32)), .val (.int (1 : Int32))] [])) _
              refine XS.iload X84.here hx rfl (hb hby at_162) rfl ?_
              show Steps p.tables e below (T84.setTop (mkF m 164 #[.val (.int p0), .val (.int p1), .val (.ref r2), .val (.ref r4), .val (.ref r2), .val (.ref r4), .val (.int (1 : Int32)), .val (.int (0 : Int32)), .val (.int (1 : Int32)), .val (.int (1 : Int32)), .val (.int (1 : Int32))] [(.int (1 : Int32))])) _
              refine XS.ifNo X84.here hx rfl (hb hby at_164) rfl ((if0 _ _).trans (feq (by decide : ¬ ((1 : Int32) = (0 : Int32)))).1) ?_
              show Steps p.tables e below (T84.setTop (mkF m 167 #[.val (.int p0), .val (.int p1), .val (.ref r2), .val (.ref r4), .val (.ref r2), .val (.ref r4), .val (.int (1 : Int32)), .val (.int (0 : Int32)), .val (.int (1 : Int32)), .val (.int (1 : Int32)), .val (.int (1 : Int32))] [])) _
              refine XS.iload X84.here hx rfl (hb hby at_167) rfl ?_
              show Steps p.tables e below (T84.setTop (mkF m 169 #[.val (.int p0), .val (.int p1), .val (.ref r2), .val (.ref r4), .val (.ref r2), .val (.ref r4), .val (.int (1 : Int32)), .val (.int (0 : Int32)), .val (.int (1 : Int32)), .val (.int (1 : Int32)), .val (.int (1 : Int32))] [(.int (1 : Int32))])) _
              refine XS.ifNo X84.here hx rfl (hb hby at_169) rfl ((if0 _ _).trans (feq (by decide : ¬ ((1 : Int32) = (0 : Int32)))).1) ?_
              show Steps p.tables e below (T84.setTop (mkF m 172 #[.val (.int p0), .val (.int p1), .val (.ref r2), .val (.ref r4), .val (.ref r2), .val (.ref r4), .val (.int (1 : Int32)), .val (.int (0 : Int32)), .val (.int (1 : Int32)), .val (.int (1 : Int32)), .val (.int (1 : Int32))] [])) _
              refine XS.iconst X84.here hx rfl (hb hby at_172) ?_
              show Steps p.tables e below (T84.setTop (mkF m 173 #[.val (.int p0), .val (.int p1), .val (.ref r2), .val (.ref r4), .val (.ref r2), .val (.ref r4), .val (.int (1 : Int32)), .val (.int (0 : Int32)), .val (.int (1 : Int32)), .val (.int (1 : Int32)), .val (.int (1 : Int32))] [(.int (1 : Int32))])) _
              refine XS.goto X84.here hx rfl (pc0 := 173) (pc' := 177) rfl (hb hby at_173) (by decide) (by decide) ?_
              exact kt)
          obtain ⟨fs, hr, hrun, hended, hW, hsame⟩ := X84.leave (v := some (.int (1 : Int32))) (fun h => by rw [Bd.returns] at h; cases h)
          refine ⟨_, _, pre85 _ ?_, hrun, hended, _, _, rfl, ?_, ⟨_, rfl⟩, hW, hsame.mono (by decide) (by decide)⟩
          · show Steps p.tables e below (T84.setTop (mkF m 177 #[.val (.int p0), .val (.int p1), .val (.ref r2), .val (.ref r4), .val (.ref r2), .val (.ref r4), .val (.int (1 : Int32)), .val (.int (0 : Int32)), .val (.int (1 : Int32)), .val (.int (1 : Int32)), .val (.int (1 : Int32))] [(.int (1 : Int32))])) _
            exact retN X84 hx (t := .boolean) Bd.returns (by simp) (hb hby at_177) hr
          · show Q0 Z _ _ _ _ _ _ _ _ _ _ _ _ _ _ h0 n0 _ T84.heap _
            rw [e84]
            exact ⟨rfl, N81, rfl⟩
set_option maxRecDepth 65536 in
set_option maxHeartbeats 40000000 in
theorem comes_1 {Post : Tables → Env → Array Value → State → Outcome → State → Prop} (hpost : ∀ tb e args s v u, (limb_1_1.after args s (.returned v) u = true ∧ limb_1_2.after args s (.returned v) u = true ∧ True) → FrameEnd s (.returned v) u (Jvm.fieldLocs frame_1_writes args s ++ Jvm.arrayLocs frame_1_arrays args s ++ Jvm.staticLocs frame_1_statics s) 0 0 → Post tb e args s (.returned v) u) :
    ArmFor flags0 classFile x code maxLocals ret World_1 tables_1 room_1 Calls_1 rest_1 Pre_1 Post := by
  intro l hfl _ _ p e ha hc hk s m args below hf hA hF happ hP
  obtain ⟨hcalls, hrest, hpre⟩ := hP
  obtain ⟨-, -, -, hnamed, -, -, -, hat⟩ := (Spec.applies_iff hf).mp happ
  obtain ⟨hg, hn⟩ := and_e (Cond.before_iff.mp (show (Jvm.Cond.and given_1 narrow_1).before args s = true from hpre))
  obtain ⟨hg0, hgr0⟩ := and_e hg
  obtain ⟨hg1, hgr1⟩ := and_e hgr0
  obtain ⟨w0, w1, rfl⟩ : ∃ w0 w1 : Value, args = #[w0, w1] := by
    have hs : args.size = 2 := by simpa [Cond.value, given_1] using hg0
    obtain ⟨L⟩ := args
    match L, hs with
    | [w0, w1], _ => exact ⟨w0, w1, rfl⟩
  have hw := fun d (hd : d ∈ tables_1) => atoms_spec (ws := Jvm.Cond.code x code maxLocals ret :: tables_1) hat d (List.mem_cons_of_mem _ hd)
  have hfit : Fit s := fun {y c} hc i hi => by
    obtain ⟨ha, rfl⟩ := Array.getElem?_eq_some_iff.mp hc
    have q := List.all_eq_true.mp ((Array.all_eq_true_iff_forall_mem.mp hF) _ (Array.getElem_mem ha)) i (List.mem_range.mpr hi)
    simpa [Array.getElem?_eq_getElem hi] using q
  obtain ⟨i0, ei0⟩ := is_v hg1
  obtain rfl : w0 = (.int i0) := Option.some.inj ei0
  obtain ⟨i1, ei1⟩ := is_v hgr1
  obtain rfl : w1 = (.int i1) := Option.some.inj ei1
  obtain ⟨hn0, hr0⟩ := and_e hn
  obtain ⟨hn1, hr1⟩ := and_e hr0
  obtain ⟨hn2, hr2⟩ := and_e hr1
  obtain ⟨hn3, hr3⟩ := and_e hr2
  obtain ⟨hn4, hr4⟩ := and_e hr3
  obtain ⟨hn5, hr5⟩ := and_e hr4
  obtain ⟨hn6, hr6⟩ := and_e hr5
  obtain ⟨hn7, hr7⟩ := and_e hr6
  obtain ⟨hn8, hr8⟩ := and_e hr7
  obtain ⟨hn9, hr9⟩ := and_e hr8
  obtain ⟨hn10, hr10⟩ := and_e hr9
  obtain ⟨hn11, hr11⟩ := and_e hr10
  obtain ⟨hn12, hr12⟩ := and_e hr11
  obtain ⟨hn13, hr13⟩ := and_e hr12
  obtain ⟨hn14, hr14⟩ := and_e hr13
  obtain ⟨hn15, hr15⟩ := and_e hr14
  obtain ⟨hn16, hr16⟩ := and_e hr15
  obtain ⟨hn17, hr17⟩ := and_e hr16
  obtain ⟨hn18, hr18⟩ := and_e hr17
  obtain ⟨hn19, hr19⟩ := and_e hr18
  obtain ⟨hn20, hr20⟩ := and_e hr19
  obtain ⟨hn21, hr21⟩ := and_e hr20
  obtain ⟨hn22, hr22⟩ := and_e hr21
  obtain ⟨w_INTEGER32_1, ev2⟩ := exa_v hn0
  have S_INTEGER32_0 : Sta s s.heap "com/example/oidwright/oidwright/model/BaseType" "INTEGER32" "Lcom/example/oidwright/oidwright/model/BaseType;" (.ref w_INTEGER32_1) := Sta.start ev2 (Or.inr ⟨(hw _ (List.mem_of_getElem? (i := 6) rfl)), (hw _ (List.mem_of_getElem? (i := 7) rfl))⟩)
  have E_1 : Exa s s.heap w_INTEGER32_1 "com/example/oidwright/oidwright/model/BaseType" := Exa.start ev2 hn0
  obtain ⟨w_COUNTER32_3, ev4⟩ := exa_v hn1
  have S_COUNTER32_2 : Sta s s.heap "com/example/oidwright/oidwright/model/BaseType" "COUNTER32" "Lcom/example/oidwright/oidwright/model/BaseType;" (.ref w_COUNTER32_3) := Sta.start ev4 (Or.inr ⟨(hw _ (List.mem_of_getElem? (i := 6) rfl)), (hw _ (List.mem_of_getElem? (i := 9) rfl))⟩)
  have E_3 : Exa s s.heap w_COUNTER32_3 "com/example/oidwright/oidwright/model/BaseType" := Exa.start ev4 hn1
  obtain ⟨w_GAUGE32_5, ev6⟩ := exa_v hn2
  have S_GAUGE32_4 : Sta s s.heap "com/example/oidwright/oidwright/model/BaseType" "GAUGE32" "Lcom/example/oidwright/oidwright/model/BaseType;" (.ref w_GAUGE32_5) := Sta.start ev6 (Or.inr ⟨(hw _ (List.mem_of_getElem? (i := 6) rfl)), (hw _ (List.mem_of_getElem? (i := 16) rfl))⟩)
  have E_5 : Exa s s.heap w_GAUGE32_5 "com/example/oidwright/oidwright/model/BaseType" := Exa.start ev6 hn2
  have F_ordinal_6 : Fld s s.heap w_INTEGER32_1 "java/lang/Enum" "ordinal" "I" (.int (0 : Int32)) := Fld.start ((fld_at ev2).symm.trans (own_eqI hn3))
  have F_ordinal_7 : Fld s s.heap w_GAUGE32_5 "java/lang/Enum" "ordinal" "I" (.int (2 : Int32)) := Fld.start ((fld_at ev6).symm.trans (own_eqI hn4))
  have F_ordinal_8 : Fld s s.heap w_COUNTER32_3 "java/lang/Enum" "ordinal" "I" (.int (3 : Int32)) := Fld.start ((fld_at ev4).symm.trans (own_eqI hn5))
  obtain ⟨w_UNSIGNED32_7, ev8⟩ := exa_v hn6
  have S_UNSIGNED32_9 : Sta s s.heap "com/example/oidwright/oidwright/model/BaseType" "UNSIGNED32" "Lcom/example/oidwright/oidwright/model/BaseType;" (.ref w_UNSIGNED32_7) := Sta.start ev8 (Or.inr ⟨(hw _ (List.mem_of_getElem? (i := 6) rfl)), (hw _ (List.mem_of_getElem? (i := 22) rfl))⟩)
  have E_10 : Exa s s.heap w_UNSIGNED32_7 "com/example/oidwright/oidwright/model/BaseType" := Exa.start ev8 hn6
  have F_ordinal_11 : Fld s s.heap w_UNSIGNED32_7 "java/lang/Enum" "ordinal" "I" (.int (1 : Int32)) := Fld.start ((fld_at ev8).symm.trans (own_eqI hn7))
  obtain ⟨w_BITS_9, ev10⟩ := exa_v hn8
  have S_BITS_12 : Sta s s.heap "com/example/oidwright/oidwright/model/BaseType" "BITS" "Lcom/example/oidwright/oidwright/model/BaseType;" (.ref w_BITS_9) := Sta.start ev10 (Or.inr ⟨(hw _ (List.mem_of_getElem? (i := 6) rfl)), (hw _ (List.mem_of_getElem? (i := 25) rfl))⟩)
  have E_13 : Exa s s.heap w_BITS_9 "com/example/oidwright/oidwright/model/BaseType" := Exa.start ev10 hn8
  have F_ordinal_14 : Fld s s.heap w_BITS_9 "java/lang/Enum" "ordinal" "I" (.int (11 : Int32)) := Fld.start ((fld_at ev10).symm.trans (own_eqI hn9))
  obtain ⟨w_OPAQUE_11, ev12⟩ := exa_v hn10
  have S_OPAQUE_15 : Sta s s.heap "com/example/oidwright/oidwright/model/BaseType" "OPAQUE" "Lcom/example/oidwright/oidwright/model/BaseType;" (.ref w_OPAQUE_11) := Sta.start ev12 (Or.inr ⟨(hw _ (List.mem_of_getElem? (i := 6) rfl)), (hw _ (List.mem_of_getElem? (i := 27) rfl))⟩)
  have E_16 : Exa s s.heap w_OPAQUE_11 "com/example/oidwright/oidwright/model/BaseType" := Exa.start ev12 hn10
  have F_ordinal_17 : Fld s s.heap w_OPAQUE_11 "java/lang/Enum" "ordinal" "I" (.int (8 : Int32)) := Fld.start ((fld_at ev12).symm.trans (own_eqI hn11))
  obtain ⟨w_COUNTER64_13, ev14⟩ := exa_v hn12
  have S_COUNTER64_18 : Sta s s.heap "com/example/oidwright/oidwright/model/BaseType" "COUNTER64" "Lcom/example/oidwright/oidwright/model/BaseType;" (.ref w_COUNTER64_13) := Sta.start ev14 (Or.inr ⟨(hw _ (List.mem_of_getElem? (i := 6) rfl)), (hw _ (List.mem_of_getElem? (i := 29) rfl))⟩)
  have E_19 : Exa s s.heap w_COUNTER64_13 "com/example/oidwright/oidwright/model/BaseType" := Exa.start ev14 hn12
  have F_ordinal_20 : Fld s s.heap w_COUNTER64_13 "java/lang/Enum" "ordinal" "I" (.int (4 : Int32)) := Fld.start ((fld_at ev14).symm.trans (own_eqI hn13))
  obtain ⟨w_IP_ADDRESS_15, ev16⟩ := exa_v hn14
  have S_IP_ADDRESS_21 : Sta s s.heap "com/example/oidwright/oidwright/model/BaseType" "IP_ADDRESS" "Lcom/example/oidwright/oidwright/model/BaseType;" (.ref w_IP_ADDRESS_15) := Sta.start ev16 (Or.inr ⟨(hw _ (List.mem_of_getElem? (i := 6) rfl)), (hw _ (List.mem_of_getElem? (i := 31) rfl))⟩)
  have E_22 : Exa s s.heap w_IP_ADDRESS_15 "com/example/oidwright/oidwright/model/BaseType" := Exa.start ev16 hn14
  have F_ordinal_23 : Fld s s.heap w_IP_ADDRESS_15 "java/lang/Enum" "ordinal" "I" (.int (6 : Int32)) := Fld.start ((fld_at ev16).symm.trans (own_eqI hn15))
  obtain ⟨w_NETWORK_ADDRESS_17, ev18⟩ := exa_v hn16
  have S_NETWORK_ADDRESS_24 : Sta s s.heap "com/example/oidwright/oidwright/model/BaseType" "NETWORK_ADDRESS" "Lcom/example/oidwright/oidwright/model/BaseType;" (.ref w_NETWORK_ADDRESS_17) := Sta.start ev18 (Or.inr ⟨(hw _ (List.mem_of_getElem? (i := 6) rfl)), (hw _ (List.mem_of_getElem? (i := 33) rfl))⟩)
  have E_25 : Exa s s.heap w_NETWORK_ADDRESS_17 "com/example/oidwright/oidwright/model/BaseType" := Exa.start ev18 hn16
  have F_ordinal_26 : Fld s s.heap w_NETWORK_ADDRESS_17 "java/lang/Enum" "ordinal" "I" (.int (7 : Int32)) := Fld.start ((fld_at ev18).symm.trans (own_eqI hn17))
  obtain ⟨w_TIME_TICKS_19, ev20⟩ := exa_v hn18
  have S_TIME_TICKS_27 : Sta s s.heap "com/example/oidwright/oidwright/model/BaseType" "TIME_TICKS" "Lcom/example/oidwright/oidwright/model/BaseType;" (.ref w_TIME_TICKS_19) := Sta.start ev20 (Or.inr ⟨(hw _ (List.mem_of_getElem? (i := 6) rfl)), (hw _ (List.mem_of_getElem? (i := 35) rfl))⟩)
  have E_28 : Exa s s.heap w_TIME_TICKS_19 "com/example/oidwright/oidwright/model/BaseType" := Exa.start ev20 hn18
  have F_ordinal_29 : Fld s s.heap w_TIME_TICKS_19 "java/lang/Enum" "ordinal" "I" (.int (5 : Int32)) := Fld.start ((fld_at ev20).symm.trans (own_eqI hn19))
  obtain ⟨w_OBJECT_IDENTIFIER_21, ev22⟩ := exa_v hn20
  have S_OBJECT_IDENTIFIER_30 : Sta s s.heap "com/example/oidwright/oidwright/model/BaseType" "OBJECT_IDENTIFIER" "Lcom/example/oidwright/oidwright/model/BaseType;" (.ref w_OBJECT_IDENTIFIER_21) := Sta.start ev22 (Or.inr ⟨(hw _ (List.mem_of_getElem? (i := 6) rfl)), (hw _ (List.mem_of_getElem? (i := 37) rfl))⟩)
  have E_31 : Exa s s.heap w_OBJECT_IDENTIFIER_21 "com/example/oidwright/oidwright/model/BaseType" := Exa.start ev22 hn20
  have F_ordinal_32 : Fld s s.heap w_OBJECT_IDENTIFIER_21 "java/lang/Enum" "ordinal" "I" (.int (10 : Int32)) := Fld.start ((fld_at ev22).symm.trans (own_eqI hn21))
  obtain ⟨w_OCTET_STRING_23, ev24⟩ := exa_v hn22
  have S_OCTET_STRING_33 : Sta s s.heap "com/example/oidwright/oidwright/model/BaseType" "OCTET_STRING" "Lcom/example/oidwright/oidwright/model/BaseType;" (.ref w_OCTET_STRING_23) := Sta.start ev24 (Or.inr ⟨(hw _ (List.mem_of_getElem? (i := 6) rfl)), (hw _ (List.mem_of_getElem? (i := 39) rfl))⟩)
  have E_34 : Exa s s.heap w_OCTET_STRING_23 "com/example/oidwright/oidwright/model/BaseType" := Exa.start ev24 hn22
  have F_ordinal_35 : Fld s s.heap w_OCTET_STRING_23 "java/lang/Enum" "ordinal" "I" (.int (9 : Int32)) := Fld.start ((fld_at ev24).symm.trans (own_eqI hr22))
  obtain ⟨n, o, h1, h2, h3, _, L, rfl, ⟨rfl, N, -⟩, hq⟩ := rm0 l s _ hw tables_1 i0 i1 w_INTEGER32_1 w_COUNTER32_3 w_GAUGE32_5 w_UNSIGNED32_7 w_BITS_9 w_OPAQUE_11 w_COUNTER64_13 w_IP_ADDRESS_15 w_NETWORK_ADDRESS_17 w_TIME_TICKS_19 w_OBJECT_IDENTIFIER_21 w_OCTET_STRING_23 s.heap s.heap.size (Nat.le_refl _) S_INTEGER32_0 E_1 S_COUNTER32_2 E_3 S_GAUGE32_4 E_5 F_ordinal_6 F_ordinal_7 F_ordinal_8 S_UNSIGNED32_9 E_10 F_ordinal_11 S_BITS_12 E_13 F_ordinal_14 S_OPAQUE_15 E_16 F_ordinal_17 S_COUNTER64_18 E_19 F_ordinal_20 S_IP_ADDRESS_21 E_22 F_ordinal_23 S_NETWORK_ADDRESS_24 E_25 F_ordinal_26 S_TIME_TICKS_27 E_28 F_ordinal_29 S_OBJECT_IDENTIFIER_30 E_31 F_ordinal_32 S_OCTET_STRING_33 E_34 F_ordinal_35 p e ha hc hk s m _ below hf ((Spec.applies_iff_loose hf).mp happ).1 ⟨rfl, State.Warmed39.refl s, rfl⟩ trivial
  refine ⟨n, _, h1, h2, h3, hpost _ _ _ _ _ _ ⟨Cond.after_iff.mpr rfl, Cond.after_iff.mpr (eq_i res_at (Term.int_eval (1)) rfl), trivial⟩ ⟨hq.1, hq.2.1, (hq.2.2.sift fun y hy => Or.inr (N y hy)).mono (by decide) (by decide)⟩⟩
theorem main_1_1 : Claimed_1_1 := comes_1 fun _ _ _ _ _ _ h hF => ⟨h.1, hF⟩
theorem main_1_2 : Claimed_1_2 := comes_1 fun _ _ _ _ _ _ h hF => ⟨h.2.1, hF⟩
end Jvm.Pilot.@@N@@
namespace Jvm.Pilot.@@N@@
open Jvm Jvm.ClassFile Sem Op Lib Jvm.Free Jvm.Stand Jvm.Pilot.@@N@@.Jvm.D
/-! MADE BY PROGRAM (witnessworld.py) out of the Statement's table words and the real class files: 12 classes; the members and pool entries that the words name. The judged class is class 1, her method 3. -/
namespace start1
open Jvm.ClassFile
def u (s : String) : CpInfo := .utf8 (stringToUtf16 s)
/-- a pool by its gaps: so many unusable entries, then the entry; so many at the end -/
def gap : Nat → List CpInfo → List CpInfo
  | 0, r => r
  | n + 1, r => .unusable :: gap n r
def poolList (es : List (Nat × CpInfo)) (last : Nat) : List CpInfo := es.foldr (fun e r => gap e.1 (e.2 :: r)) (gap last [])
def pool (es : List (Nat × CpInfo)) (last : Nat) : Array CpInfo := ⟨poolList es last⟩
def fileOf (pool : Array CpInfo) (this : Nat) (attrs : Array Attribute := #[]) (ms : Array MethodInfo := #[]) (fl : Nat := 33) (sup : Nat := 0) (ifs : Array Nat := #[]) (fds : Array FieldInfo := #[]) : ClassFile where
  minorVersion := 0
  majorVersion := 65
  constantPool := pool
  accessFlags := fl
  thisClass := this
  superClass := sup
  interfaces := ifs
  fields := fds
  methods := ms
  attributes := attrs
def plain (name : String) (sup : Option ClassId) : Class where
  name := name
  kind := .ordinary
  loader := none
  accessFlags := 33
  super := sup
  interfaces := #[]
  cf := none
  fields := #[]
  methods := #[]
  instanceTypes := #[]
  staticTypes := #[]
  resolved := #[]
  callSites := []
  init := .initialized
  statics := none
  mirror := none

def pool0 : Array CpInfo := pool [(5, u "<init>"), (0, u "()V"), (1, .class_ 10), (1, u "java/lang/Object")] 113

def k0m0 : Method := { name := "<init>", desc := "()V", sig := { parameters := [], returnType := none }, accessFlags := 1, code := none }
/-- java/lang/Object -/
def k0 : Class := { plain "java/lang/Object" none with
  accessFlags := 33
  interfaces := #[]
  cf := some (fileOf pool0 8 #[] #[{ accessFlags := 1, nameIndex := 5, descriptorIndex := 6, attributes := #[] }] 33 0 #[] #[])
  fields := #[]
  methods := #[k0m0]
  instanceTypes := #[]
  staticTypes := #[]
  resolved := Array.replicate 124 none
  statics := none }

def pool1 : Array CpInfo := pool [(2, .class_ 4), (1, u "java/lang/Object"), (0, u "<init>"), (0, u "()V"), (0, .integer 2147483647), (0, .fieldref 9 10), (0, .class_ 11), (0, .nameAndType 12 13), (0, u "com/example/oidwright/oidwright/model/BaseType"), (0, u "INTEGER32"), (0, u "Lcom/example/oidwright/oidwright/model/BaseType;"), (0, .fieldref 9 15), (0, .nameAndType 16 13), (0, u "UNSIGNED32"), (0, .fieldref 9 18), (0, .nameAndType 19 13), (0, u "GAUGE32"), (0, .fieldref 9 21), (0, .nameAndType 22 13), (0, u "COUNTER32"), (0, .fieldref 9 24), (0, .nameAndType 25 13), (0, u "COUNTER64"), (0, .fieldref 9 27), (0, .nameAndType 28 13), (0, u "TIME_TICKS"), (0, .fieldref 9 30), (0, .nameAndType 31 13), (0, u "IP_ADDRESS"), (0, .fieldref 9 33), (0, .nameAndType 34 13), (0, u "NETWORK_ADDRESS"), (0, .fieldref 9 36), (0, .nameAndType 37 13), (0, u "OPAQUE"), (0, .fieldref 9 39), (0, .nameAndType 40 13), (0, u "OCTET_STRING"), (0, .fieldref 9 42), (0, .nameAndType 43 13), (0, u "OBJECT_IDENTIFIER"), (0, .fieldref 9 45), (0, .nameAndType 46 13), (0, u "BITS"), (0, .methodref 48 49), (0, .class_ 50), (0, .nameAndType 51 52), (0, u "com/example/oidwright/oidwright/model/BaseTypeSentAsPinLaw"), (0, u "pick"), (0, u "(I)Lcom/example/oidwright/oidwright/model/BaseType;"), (0, .methodref 9 54), (0, .nameAndType 55 56), (0, u "sentAs"), (0, u "()Lcom/example/oidwright/oidwright/model/BaseType;"), (0, .methodref 48 58), (0, .nameAndType 59 60), (0, u "app2"), (0, u "(Lcom/example/oidwright/oidwright/model/BaseType;)Z"), (3, u "law"), (0, u "(II)Z")] 2

def k1m0 : Method := { name := "<init>", desc := "()V", sig := { parameters := [], returnType := none }, accessFlags := 1, code := none }
def k1c1 : Code := { maxStack := 2, maxLocals := 2, code := method_2_code, exceptionTable := #[], attributes := #[] }
def k1m1 : Method := { name := "pick", desc := "(I)Lcom/example/oidwright/oidwright/model/BaseType;", sig := { parameters := [.int], returnType := some (.object "com/example/oidwright/oidwright/model/BaseType") }, accessFlags := 10, code := some k1c1 }
def k1c2 : Code := { maxStack := 2, maxLocals := 1, code := method_3_code, exceptionTable := #[], attributes := #[] }
def k1m2 : Method := { name := "app2", desc := "(Lcom/example/oidwright/oidwright/model/BaseType;)Z", sig := { parameters := [(.object "com/example/oidwright/oidwright/model/BaseType")], returnType := some .boolean }, accessFlags := 10, code := some k1c2 }
def k1c3 : Code := { maxStack := 2, maxLocals := 11, code := code, exceptionTable := #[], attributes := #[] }
def k1m3 : Method := { name := "law", desc := "(II)Z", sig := { parameters := [.int, .int], returnType := some .boolean }, accessFlags := 9, code := some k1c3 }
/-- com/example/oidwright/oidwright/model/BaseTypeSentAsPinLaw -/
def k1 : Class := { plain "com/example/oidwright/oidwright/model/BaseTypeSentAsPinLaw" (some 0) with
  accessFlags := 49
  interfaces := #[]
  cf := some (fileOf pool1 48 #[] #[{ accessFlags := 1, nameIndex := 5, descriptorIndex := 6, attributes := #[] }, { accessFlags := 10, nameIndex := 51, descriptorIndex := 52, attributes := #[] }, { accessFlags := 10, nameIndex := 59, descriptorIndex := 60, attributes := #[] }, { accessFlags := 9, nameIndex := 64, descriptorIndex := 65, attributes := #[] }] 49 2 #[] #[])
  fields := #[]
  methods := #[k1m0, k1m1, k1m2, k1m3]
  instanceTypes := #[]
  staticTypes := #[]
  resolved := Array.replicate 68 none
  statics := none }

def pool2 : Array CpInfo := pool [(1, .class_ 2), (0, u "java/lang/constant/Constable"), (0, .class_ 4), (0, u "java/lang/Object")] 6

/-- java/lang/constant/Constable -/
def k2 : Class := { plain "java/lang/constant/Constable" (some 0) with
  accessFlags := 1537
  interfaces := #[]
  cf := some (fileOf pool2 1 #[] #[] 1537 3 #[] #[])
  fields := #[]
  methods := #[]
  instanceTypes := #[]
  staticTypes := #[]
  resolved := Array.replicate 11 none
  statics := none }

def pool3 : Array CpInfo := pool [(1, .class_ 2), (0, u "java/lang/Comparable"), (0, .class_ 4), (0, u "java/lang/Object")] 7

/-- java/lang/Comparable -/
def k3 : Class := { plain "java/lang/Comparable" (some 0) with
  accessFlags := 1537
  interfaces := #[]
  cf := some (fileOf pool3 1 #[] #[] 1537 3 #[] #[])
  fields := #[]
  methods := #[]
  instanceTypes := #[]
  staticTypes := #[]
  resolved := Array.replicate 12 none
  statics := none }

def pool4 : Array CpInfo := pool [(1, .class_ 2), (0, u "java/io/Serializable"), (0, .class_ 4), (0, u "java/lang/Object")] 2

/-- java/io/Serializable -/
def k4 : Class := { plain "java/io/Serializable" (some 0) with
  accessFlags := 1537
  interfaces := #[]
  cf := some (fileOf pool4 1 #[] #[] 1537 3 #[] #[])
  fields := #[]
  methods := #[]
  instanceTypes := #[]
  staticTypes := #[]
  resolved := Array.replicate 7 none
  statics := none }

def pool5 : Array CpInfo := pool [(2, .class_ 4), (1, u "java/lang/Enum"), (0, u "name"), (0, u "Ljava/lang/String;"), (2, u "ordinal"), (0, u "I"), (1, .class_ 14), (1, u "java/lang/Object"), (4, u "hash"), (86, .class_ 108), (1, u "java/lang/Enum$EnumDesc"), (2, .class_ 112), (0, u "java/lang/constant/Constable"), (0, .class_ 114), (0, u "java/lang/Comparable"), (0, .class_ 116), (0, u "java/io/Serializable")] 87

/-- java/lang/Enum -/
def k5 : Class := { plain "java/lang/Enum" (some 0) with
  accessFlags := 1057
  interfaces := #[2, 3, 4]
  cf := some (fileOf pool5 2 #[.nestMembers #[106]] #[] 1057 12 #[111, 113, 115] #[{ accessFlags := 18, nameIndex := 5, descriptorIndex := 6, attributes := #[] }, { accessFlags := 18, nameIndex := 9, descriptorIndex := 10, attributes := #[] }, { accessFlags := 2, nameIndex := 19, descriptorIndex := 10, attributes := #[] }])
  fields := #[{ name := "name", type := (.object "java/lang/String"), accessFlags := 18, slot := 0, constantValue := 0 }, { name := "ordinal", type := .int, accessFlags := 18, slot := 1, constantValue := 0 }, { name := "hash", type := .int, accessFlags := 2, slot := 2, constantValue := 0 }]
  methods := #[]
  instanceTypes := #[(.object "java/lang/String"), .int, .int]
  staticTypes := #[]
  resolved := Array.replicate 204 none
  statics := none }

def pool6 : Array CpInfo := pool [(1, .class_ 2), (0, u "com/example/oidwright/oidwright/model/BaseType"), (2, u "INTEGER32"), (0, u "Lcom/example/oidwright/oidwright/model/BaseType;"), (0, .fieldref 1 8), (0, .nameAndType 9 6), (0, u "UNSIGNED32"), (0, .fieldref 1 11), (0, .nameAndType 12 6), (0, u "GAUGE32"), (2, u "COUNTER32"), (2, u "COUNTER64"), (2, u "TIME_TICKS"), (2, u "IP_ADDRESS"), (2, u "NETWORK_ADDRESS"), (2, u "OPAQUE"), (2, u "OCTET_STRING"), (2, u "OBJECT_IDENTIFIER"), (2, u "BITS"), (2, u "$VALUES"), (0, u "[Lcom/example/oidwright/oidwright/model/BaseType;"), (6, .class_ 52), (1, u "java/lang/Enum"), (11, u "text"), (0, u "Ljava/lang/String;"), (2, u "valueRange"), (0, u "Lcom/example/oidwright/oidwright/model/Syntax$Range;"), (2, u "sizeRange"), (96, u "sentAs"), (0, u "()Lcom/example/oidwright/oidwright/model/BaseType;")] 10

def k6c0 : Code := { maxStack := 2, maxLocals := 1, code := prog_21_method_11_code, exceptionTable := #[], attributes := #[] }
def k6m0 : Method := { name := "sentAs", desc := "()Lcom/example/oidwright/oidwright/model/BaseType;", sig := { parameters := [], returnType := some (.object "com/example/oidwright/oidwright/model/BaseType") }, accessFlags := 1, code := some k6c0 }
/-- com/example/oidwright/oidwright/model/BaseType -/
def k6 : Class := { plain "com/example/oidwright/oidwright/model/BaseType" (some 5) with
  accessFlags := 16433
  interfaces := #[]
  cf := some (fileOf pool6 1 #[] #[{ accessFlags := 1, nameIndex := 169, descriptorIndex := 170, attributes := #[] }] 16433 50 #[] #[{ accessFlags := 16409, nameIndex := 5, descriptorIndex := 6, attributes := #[] }, { accessFlags := 16409, nameIndex := 9, descriptorIndex := 6, attributes := #[] }, { accessFlags := 16409, nameIndex := 12, descriptorIndex := 6, attributes := #[] }, { accessFlags := 16409, nameIndex := 15, descriptorIndex := 6, attributes := #[] }, { accessFlags := 16409, nameIndex := 18, descriptorIndex := 6, attributes := #[] }, { accessFlags := 16409, nameIndex := 21, descriptorIndex := 6, attributes := #[] }, { accessFlags := 16409, nameIndex := 24, descriptorIndex := 6, attributes := #[] }, { accessFlags := 16409, nameIndex := 27, descriptorIndex := 6, attributes := #[] }, { accessFlags := 16409, nameIndex := 30, descriptorIndex := 6, attributes := #[] }, { accessFlags := 16409, nameIndex := 33, descriptorIndex := 6, attributes := #[] }, { accessFlags := 16409, nameIndex := 36, descriptorIndex := 6, attributes := #[] }, { accessFlags := 16409, nameIndex := 39, descriptorIndex := 6, attributes := #[] }, { accessFlags := 18, nameIndex := 64, descriptorIndex := 65, attributes := #[] }, { accessFlags := 18, nameIndex := 68, descriptorIndex := 69, attributes := #[] }, { accessFlags := 18, nameIndex := 72, descriptorIndex := 69, attributes := #[] }, { accessFlags := 4122, nameIndex := 42, descriptorIndex := 43, attributes := #[] }])
  fields := #[{ name := "INTEGER32", type := (.object "com/example/oidwright/oidwright/model/BaseType"), accessFlags := 16409, slot := 0, constantValue := 0 }, { name := "UNSIGNED32", type := (.object "com/example/oidwright/oidwright/model/BaseType"), accessFlags := 16409, slot := 1, constantValue := 0 }, { name := "GAUGE32", type := (.object "com/example/oidwright/oidwright/model/BaseType"), accessFlags := 16409, slot := 2, constantValue := 0 }, { name := "COUNTER32", type := (.object "com/example/oidwright/oidwright/model/BaseType"), accessFlags := 16409, slot := 3, constantValue := 0 }, { name := "COUNTER64", type := (.object "com/example/oidwright/oidwright/model/BaseType"), accessFlags := 16409, slot := 4, constantValue := 0 }, { name := "TIME_TICKS", type := (.object "com/example/oidwright/oidwright/model/BaseType"), accessFlags := 16409, slot := 5, constantValue := 0 }, { name := "IP_ADDRESS", type := (.object "com/example/oidwright/oidwright/model/BaseType"), accessFlags := 16409, slot := 6, constantValue := 0 }, { name := "NETWORK_ADDRESS", type := (.object "com/example/oidwright/oidwright/model/BaseType"), accessFlags := 16409, slot := 7, constantValue := 0 }, { name := "OPAQUE", type := (.object "com/example/oidwright/oidwright/model/BaseType"), accessFlags := 16409, slot := 8, constantValue := 0 }, { name := "OCTET_STRING", type := (.object "com/example/oidwright/oidwright/model/BaseType"), accessFlags := 16409, slot := 9, constantValue := 0 }, { name := "OBJECT_IDENTIFIER", type := (.object "com/example/oidwright/oidwright/model/BaseType"), accessFlags := 16409, slot := 10, constantValue := 0 }, { name := "BITS", type := (.object "com/example/oidwright/oidwright/model/BaseType"), accessFlags := 16409, slot := 11, constantValue := 0 }, { name := "text", type := (.object "java/lang/String"), accessFlags := 18, slot := 3, constantValue := 0 }, { name := "valueRange", type := (.object "com/example/oidwright/oidwright/model/Syntax$Range"), accessFlags := 18, slot := 4, constantValue := 0 }, { name := "sizeRange", type := (.object "com/example/oidwright/oidwright/model/Syntax$Range"), accessFlags := 18, slot := 5, constantValue := 0 }, { name := "$VALUES", type := (.array (.object "com/example/oidwright/oidwright/model/BaseType")), accessFlags := 4122, slot := 12, constantValue := 0 }]
  methods := #[k6m0]
  instanceTypes := #[(.object "java/lang/String"), .int, .int, (.object "java/lang/String"), (.object "com/example/oidwright/oidwright/model/Syntax$Range"), (.object "com/example/oidwright/oidwright/model/Syntax$Range")]
  staticTypes := #[(.object "com/example/oidwright/oidwright/model/BaseType"), (.object "com/example/oidwright/oidwright/model/BaseType"), (.object "com/example/oidwright/oidwright/model/BaseType"), (.object "com/example/oidwright/oidwright/model/BaseType"), (.object "com/example/oidwright/oidwright/model/BaseType"), (.object "com/example/oidwright/oidwright/model/BaseType"), (.object "com/example/oidwright/oidwright/model/BaseType"), (.object "com/example/oidwright/oidwright/model/BaseType"), (.object "com/example/oidwright/oidwright/model/BaseType"), (.object "com/example/oidwright/oidwright/model/BaseType"), (.object "com/example/oidwright/oidwright/model/BaseType"), (.object "com/example/oidwright/oidwright/model/BaseType"), (.array (.object "com/example/oidwright/oidwright/model/BaseType"))]
  resolved := Array.replicate 181 none
  statics := some 0 }

def pool7 : Array CpInfo := pool [(1, u "java/lang/Cloneable"), (0, .class_ 1), (0, u "java/lang/Object"), (0, .class_ 3)] 3

/-- java/lang/Cloneable -/
def k7 : Class := { plain "java/lang/Cloneable" (some 0) with
  accessFlags := 1537
  interfaces := #[]
  cf := some (fileOf pool7 2 #[] #[] 1537 4 #[] #[])
  fields := #[]
  methods := #[]
  instanceTypes := #[]
  staticTypes := #[]
  resolved := Array.replicate 8 none
  statics := none }

/-- the primitive byte -/
def k8 : Class := { plain "byte" none with kind := .primitive 'B', accessFlags := 0x411 }
/-- [B -/
def k9 : Class := { plain "[B" (some 0) with kind := .array 8 .byte, interfaces := #[7, 4], accessFlags := 1041 }

/-- the primitive int -/
def k10 : Class := { plain "int" none with kind := .primitive 'I', accessFlags := 0x411 }
/-- [I -/
def k11 : Class := { plain "[I" (some 0) with kind := .array 10 .int, interfaces := #[7, 4], accessFlags := 1041 }

def heap : Heap := #[{ cls := 6, slots := #[.ref 1, .ref 4, .ref 3, .ref 2, .ref 7, .ref 10, .ref 8, .ref 9, .ref 6, .ref 12, .ref 11, .ref 5, .null], vm := .statics 6 },
  { cls := 6, slots := #[.null, .int 0, .int 0, .null, .null, .null], vm := .none },
  { cls := 6, slots := #[.null, .int 3, .int 0, .null, .null, .null], vm := .none },
  { cls := 6, slots := #[.null, .int 2, .int 0, .null, .null, .null], vm := .none },
  { cls := 6, slots := #[.null, .int 1, .int 0, .null, .null, .null], vm := .none },
  { cls := 6, slots := #[.null, .int 11, .int 0, .null, .null, .null], vm := .none },
  { cls := 6, slots := #[.null, .int 8, .int 0, .null, .null, .null], vm := .none },
  { cls := 6, slots := #[.null, .int 4, .int 0, .null, .null, .null], vm := .none },
  { cls := 6, slots := #[.null, .int 6, .int 0, .null, .null, .null], vm := .none },
  { cls := 6, slots := #[.null, .int 7, .int 0, .null, .null, .null], vm := .none },
  { cls := 6, slots := #[.null, .int 5, .int 0, .null, .null, .null], vm := .none },
  { cls := 6, slots := #[.null, .int 10, .int 0, .null, .null, .null], vm := .none },
  { cls := 6, slots := #[.null, .int 9, .int 0, .null, .null, .null], vm := .none }]
def classes : Array Class := #[k0, k1, k2, k3, k4, k5, k6, k7, k8, k9, k10, k11]
def interned : List (Array UInt16 × Addr) := []
def slotsUsed : Nat := 85
def theMethod : MethodId := ⟨1, 3⟩
def args0 : Array Value := #[.int 3, .int 4]
def aboutOver (below : List Frame) : State where
  vm := { classes := classes, interned := interned.toArray }
  heap := heap
  slotsUsed := slotsUsed
  threads := #[{ frames := .invoking theMethod args0 :: below }]
def below0 : List Frame := [.native { method := ⟨0, 0⟩, args := #[] }]
def about1 : State := aboutOver below0
def p0 : Program := .bare "" "" ""
def e0 : Env := launch0.env 0 0 0
theorem w_frames : about1.frames = Frame.invoking theMethod args0 :: below0 := rfl
set_option maxRecDepth 65536 in
theorem w_args : argsFit about1.vm theMethod args0 = true := by decide +kernel
set_option maxRecDepth 65536 in
theorem w_heap : heapFits about1 = true := by decide +kernel
set_option maxRecDepth 65536 in
theorem w_runnable : about1.curStatus? = some .runnable := by decide +kernel
set_option maxRecDepth 65536 in
theorem w_alone : about1.alone = true := by decide +kernel
set_option maxRecDepth 65536 in
theorem w_named : about1.methodNamed? x = some theMethod := by decide +kernel
set_option maxRecDepth 65536 in
theorem w_hears : about1.hears theMethod below0 = true := by decide +kernel
set_option maxRecDepth 65536 in
theorem w_ripe : about1.ripe theMethod args0 below0 = true := by decide +kernel
theorem w_running : about1.status = .running := rfl
set_option maxRecDepth 65536 in
theorem w_room : about1.hasRoom e0.platform room_1 = true :=
  launch0.hasRoom_least _ room_1 (by decide +kernel) (by decide +kernel) (by decide +kernel) (by decide +kernel) (by decide +kernel) (by decide +kernel)
theorem allAtoms_all (ts : List Jvm.Cond) (a : Array Jvm.Value) (st : Jvm.State) : (allAtoms ts).before a st = ts.all (fun c => c.before a st) := by
  induction ts with
  | nil => rfl
  | cons c t ih =>
    show (Jvm.Cond.and c (allAtoms t)).before a st = _
    rw [Jvm.Cond.before_and, ih, List.all_cons]
def words1 : List Jvm.Cond := Jvm.Cond.code x code maxLocals ret :: tables_1
/-- a 'code' word, met by the world's own term for the bytes: nothing is compared byte by byte -/
theorem code_word {y : MethodName} {bytes : ByteArray} {mx : Nat} {rt : Option FieldType} {a : Array Value} {s : State} {m : MethodId} {meth : Method} {c : Code} (h1 : s.methodNamed? y = some m) (h2 : s.vm.method? m = some meth) (h3 : meth.code = some c) (h4 : c.code = bytes)
    (h5 : (c.maxLocals == mx && c.exceptionTable.isEmpty && decide (c.maxStack ≤ mostOperands) && decide (meth.sig.returnType = rt) && !meth.locks && decide (parseMethodDescriptor y.desc = some meth.sig)) = true) : (Jvm.Cond.code y bytes mx rt).before a s = true := by
  simp only [Bool.and_eq_true, beq_iff_eq, Bool.not_eq_true', decide_eq_true_eq] at h5
  obtain ⟨⟨⟨⟨⟨g1, g2⟩, g3⟩, g4⟩, g5⟩, g6⟩ := h5
  simp [Cond.before, Cond.holds, Cond.value, h1, h2, h3, h4, g1, g2, g3, g4, g5, g6]
def isCode : Jvm.Cond → Bool
  | .code _ _ _ _ => true
  | _ => false
theorem all_split {L : List Jvm.Cond} {P : Jvm.Cond → Bool} (h1 : L.all (fun c => isCode c || P c) = true) (h2 : ∀ c ∈ L.filter isCode, P c = true) : L.all P = true := by
  refine List.all_eq_true.mpr fun c hc => ?_
  have h := List.all_eq_true.mp h1 c hc
  rcases Bool.eq_false_or_eq_true (isCode c) with hi | hi
  · exact h2 c (List.mem_filter.mpr ⟨hc, hi⟩)
  · simpa [hi] using h
set_option maxRecDepth 65536 in
theorem w_c0 : (Jvm.Cond.code x code maxLocals ret).before args0 about1 = true := code_word (m := ⟨1, 3⟩) (meth := k1m3) (c := k1c3) (by decide +kernel) rfl rfl rfl (by decide +kernel)
set_option maxRecDepth 65536 in
theorem w_c1 : (Jvm.Cond.code ({ cls := "com/example/oidwright/oidwright/model/BaseTypeSentAsPinLaw", name := "pick", desc := "(I)Lcom/example/oidwright/oidwright/model/BaseType;" } : Jvm.MethodName) method_2_code (2 : Nat) (Option.some (Jvm.ClassFile.FieldType.object "com/example/oidwright/oidwright/model/BaseType"))).before args0 about1 = true := code_word (m := ⟨1, 1⟩) (meth := k1m1) (c := k1c1) (by decide +kernel) rfl rfl rfl (by decide +kernel)
set_option maxRecDepth 65536 in
theorem w_c2 : (Jvm.Cond.code ({ cls := "com/example/oidwright/oidwright/model/BaseType", name := "sentAs", desc := "()Lcom/example/oidwright/oidwright/model/BaseType;" } : Jvm.MethodName) prog_21_method_11_code (1 : Nat) (Option.some (Jvm.ClassFile.FieldType.object "com/example/oidwright/oidwright/model/BaseType"))).before args0 about1 = true := code_word (m := ⟨6, 0⟩) (meth := k6m0) (c := k6c0) (by decide +kernel) rfl rfl rfl (by decide +kernel)
set_option maxRecDepth 65536 in
theorem w_c3 : (Jvm.Cond.code ({ cls := "com/example/oidwright/oidwright/model/BaseTypeSentAsPinLaw", name := "app2", desc := "(Lcom/example/oidwright/oidwright/model/BaseType;)Z" } : Jvm.MethodName) method_3_code (1 : Nat) (Option.some Jvm.ClassFile.FieldType.boolean)).before args0 about1 = true := code_word (m := ⟨1, 2⟩) (meth := k1m2) (c := k1c2) (by decide +kernel) rfl rfl rfl (by decide +kernel)
def codes1 : List Jvm.Cond := [Jvm.Cond.code x code maxLocals ret, Jvm.Cond.code ({ cls := "com/example/oidwright/oidwright/model/BaseTypeSentAsPinLaw", name := "pick", desc := "(I)Lcom/example/oidwright/oidwright/model/BaseType;" } : Jvm.MethodName) method_2_code (2 : Nat) (Option.some (Jvm.ClassFile.FieldType.object "com/example/oidwright/oidwright/model/BaseType")), Jvm.Cond.code ({ cls := "com/example/oidwright/oidwright/model/BaseType", name := "sentAs", desc := "()Lcom/example/oidwright/oidwright/model/BaseType;" } : Jvm.MethodName) prog_21_method_11_code (1 : Nat) (Option.some (Jvm.ClassFile.FieldType.object "com/example/oidwright/oidwright/model/BaseType")), Jvm.Cond.code ({ cls := "com/example/oidwright/oidwright/model/BaseTypeSentAsPinLaw", name := "app2", desc := "(Lcom/example/oidwright/oidwright/model/BaseType;)Z" } : Jvm.MethodName) method_3_code (1 : Nat) (Option.some Jvm.ClassFile.FieldType.boolean)]
set_option maxRecDepth 65536 in
theorem codes_eq : words1.filter isCode = codes1 := rfl
theorem w_codes : ∀ c ∈ words1.filter isCode, c.before args0 about1 = true := by
  rw [codes_eq]
  intro c hc
  simp only [codes1, List.mem_cons, List.not_mem_nil, or_false] at hc
  rcases hc with rfl | rfl | rfl | rfl
  · exact w_c0
  · exact w_c1
  · exact w_c2
  · exact w_c3
set_option maxRecDepth 65536 in
theorem w_t1 : (words1.take 24).all (fun c => isCode c || c.before args0 about1) = true := by decide +kernel
set_option maxRecDepth 65536 in
theorem w_t2 : (words1.drop 24).all (fun c => isCode c || c.before args0 about1) = true := by decide +kernel
theorem w_tables : (allAtoms (Jvm.Cond.code x code maxLocals ret :: tables_1)).before args0 about1 = true := by
  rw [allAtoms_all]
  show words1.all (fun c => c.before args0 about1) = true
  refine all_split ?_ w_codes
  rw [← List.take_append_drop 24 words1, List.all_append, w_t1, w_t2]
  rfl
set_option maxRecDepth 65536 in
theorem w_case : (Jvm.Cond.and given_1 narrow_1).before args0 about1 = true := by decide +kernel
theorem w_applies : (headSpec (Jvm.Cond.code x code maxLocals ret :: tables_1) room_1).applies x e0.platform about1 = true :=
  (Spec.applies_iff w_frames).mpr ⟨w_running, w_runnable, w_alone, w_named, w_hears, w_ripe, w_room, w_tables⟩
theorem atStart : AtStart classFile x code maxLocals ret World_1 tables_1 room_1 Calls_1 rest_1 Pre_1 launch0 p0 e0 about1 theMethod args0 below0 :=
  ⟨lists_1, trivial, launch0.admits_env _ _ _, launch0.least_env, fairChoices_fair.cas, fairChoices_fair.clock, w_frames, w_args, w_heap, w_applies, trivial, trivial, w_case⟩
end start1
theorem witness_1 : WitnessClaimed_1 := ⟨start1.p0, start1.e0, start1.about1, start1.theMethod, start1.args0, start1.below0, start1.atStart⟩
end Jvm.Pilot.@@N@@
