import JvmDerived
import JvmDerived.Pilot.@@N@@Statement
import JvmDerived.Pilot.@@N@@Code
set_option linter.unusedVariables false
set_option linter.unusedSimpArgs false
namespace Jvm.RoadKit
open Sem ClassFile Op Lib Jvm.Stand Jvm.Free Jvm.LawKit
section New
variable {p : Program} {l : Launch} {e : Env} {R : Room} {s : State} {m : MethodId} {args : Array Value} {below : List Frame} {meth : Method} {c : Code} {T : State} {locs : List Loc} {cells slots : Nat}
theorem retI (X : Stand p l e R s m args below meth c T locs cells slots) (hx : p.tables.exec = Jvm.exec) {pc : Nat} {Ls : Array Slot} {z : Int32} {rest : List Value} (hret : meth.sig.returnType = some .int) (hd : decode c.code pc = .ok (.ireturn, 1)) {fs : List Frame}
    (hl : ∀ (f : JFrame) (acts : List Action), f.method = m → f.locked = none → f.entered = [] → (doReturn e (T.setTop f) acts (some (.int z))).1 = T.setFrames fs) : Steps p.tables e below (T.setTop (mkF m pc Ls (.int z :: rest))) (T.setFrames fs) := by
  have hm' : T.vm.method? m = some meth := X.method'
  have hn : narrow .int (.int z) = .int z := rfl
  show Steps p.tables e below (T.setTop { method := m, pc := pc, locals := Ls, stack := _ :: rest, locked := none }) _
  jvm_step X.here [X.here.top, hx, hd, hm', hret, hn]
  first | (intro acts; rw [hl _ acts rfl rfl rfl]) | rw [hl _ _ rfl rfl rfl]
  exact Steps.refl _
end New
end Jvm.RoadKit
namespace Jvm.Pilot.@@N@@
open Jvm Jvm.ClassFile Sem Op Lib Jvm.Free Jvm.Stand Jvm.LawKit Jvm.RoadKit Bundle Jvm.Pilot.@@N@@.Jvm.D
theorem own_eqI {t : Term} {args : Array Value} {first s : State} {o : Option Outcome} {idx : List Nat} {k : Int32} (h : (Jvm.Cond.eq t (.int k)).value args first o s idx = some true) : t.eval args first o idx s = some (.int k) := by
  cases ht : t.eval args first o idx s with
  | none => simp [Cond.value, ht] at h
  | some x => cases x <;> simp [Cond.value, ht, Term.eval] at h ⊢ <;> exact h
theorem own_eqJ {t : Term} {args : Array Value} {first s : State} {o : Option Outcome} {idx : List Nat} {k : Int64} (h : (Jvm.Cond.eq t (.long k)).value args first o s idx = some true) : t.eval args first o idx s = some (.long k) := by
  cases ht : t.eval args first o idx s with
  | none => simp [Cond.value, ht] at h
  | some x => cases x <;> simp [Cond.value, ht, Term.eval] at h ⊢ <;> exact h
theorem own_eqR {t u : Term} {args : Array Value} {first s : State} {o : Option Outcome} {idx : List Nat} {x : Addr} (h : (Jvm.Cond.eq t u).value args first o s idx = some true) (hu : u.eval args first o idx s = some (.ref x)) : t.eval args first o idx s = some (.ref x) := by
  cases ht : t.eval args first o idx s with
  | none => simp [Cond.value, ht] at h
  | some z => cases z <;> simp [Cond.value, ht, hu] at h ⊢ <;> exact h
theorem cat_of {v : Value} (h : v.isRef = true) : v.category = 1 := by rcases ref_cases h with rfl | ⟨a, rfl⟩ <;> rfl
theorem own_fits {n : String} {v : Value} (h : v.isRef = true) : fits (.object n) v = true := by rcases ref_cases h with rfl | ⟨a, rfl⟩ <;> rfl
theorem own_exa_ns {Z : State} {h : Heap} {a : Addr} {C : String} (E : Exa Z h a C) : ∀ c : Cell, h[a]? = some c → c.vm.isStatics = false := fun c hc => by
  obtain ⟨cell, k, h1, -, -, h4, -⟩ := E
  cases h1.symm.trans hc; exact h4
theorem own_sta_keep {Z : State} {h h' : Heap} {ws : List Addr} {C n d : String} {v : Value} (F : Sta Z h C n d v) (K : Keep h h' ws) (q : ∀ x ∈ ws, ∀ c : Cell, h[x]? = some c → c.vm.isStatics = false) : Sta Z h' C n d v := by
  obtain ⟨cf, i, k, f, st, cell, h1, h2, h3, h4, h5, h6, r⟩ := F
  refine ⟨cf, i, k, f, st, cell, h1, h2, h3, h4, K.2.1 st cell h5 (fun hm => ?_), h6, r⟩
  have := q st hm cell h5
  rw [h6] at this; cases this
theorem own_rng (x y : Int32) (d : Int) (hy : y.toInt = d) (hd : 0 < d) : 0 ≤ ((x &&& 2147483647) % y).toInt ∧ ((x &&& 2147483647) % y).toInt < d := by
  have h := c_and x 2147483647 (by decide)
  have g := (c_irem (x &&& 2147483647) y d hy).1 h.1
  rw [g]; exact ⟨Int.emod_nonneg _ (by omega), Int.emod_lt_of_pos _ hd⟩
theorem own_dis {i : Int32} (h : 0 ≤ i.toInt ∧ i.toInt < 34) : (0 : Int32) = i ∨ (1 : Int32) = i ∨ (2 : Int32) = i ∨ (3 : Int32) = i ∨ (4 : Int32) = i ∨ (5 : Int32) = i ∨ (6 : Int32) = i ∨ (7 : Int32) = i ∨ (8 : Int32) = i ∨ (9 : Int32) = i ∨ (10 : Int32) = i ∨ (11 : Int32) = i ∨ (12 : Int32) = i ∨ (13 : Int32) = i ∨ (14 : Int32) = i ∨ (15 : Int32) = i ∨ (16 : Int32) = i ∨ (17 : Int32) = i ∨ (18 : Int32) = i ∨ (19 : Int32) = i ∨ (20 : Int32) = i ∨ (21 : Int32) = i ∨ (22 : Int32) = i ∨ (23 : Int32) = i ∨ (24 : Int32) = i ∨ (25 : Int32) = i ∨ (26 : Int32) = i ∨ (27 : Int32) = i ∨ (28 : Int32) = i ∨ (29 : Int32) = i ∨ (30 : Int32) = i ∨ (31 : Int32) = i ∨ (32 : Int32) = i ∨ (33 : Int32) = i := by
  have hd : ∀ n : Fin 34, ((0 : Int32) = n.val.toInt32 ∨ (1 : Int32) = n.val.toInt32 ∨ (2 : Int32) = n.val.toInt32 ∨ (3 : Int32) = n.val.toInt32 ∨ (4 : Int32) = n.val.toInt32 ∨ (5 : Int32) = n.val.toInt32 ∨ (6 : Int32) = n.val.toInt32 ∨ (7 : Int32) = n.val.toInt32 ∨ (8 : Int32) = n.val.toInt32 ∨ (9 : Int32) = n.val.toInt32 ∨ (10 : Int32) = n.val.toInt32 ∨ (11 : Int32) = n.val.toInt32 ∨ (12 : Int32) = n.val.toInt32 ∨ (13 : Int32) = n.val.toInt32 ∨ (14 : Int32) = n.val.toInt32 ∨ (15 : Int32) = n.val.toInt32 ∨ (16 : Int32) = n.val.toInt32 ∨ (17 : Int32) = n.val.toInt32 ∨ (18 : Int32) = n.val.toInt32 ∨ (19 : Int32) = n.val.toInt32 ∨ (20 : Int32) = n.val.toInt32 ∨ (21 : Int32) = n.val.toInt32 ∨ (22 : Int32) = n.val.toInt32 ∨ (23 : Int32) = n.val.toInt32 ∨ (24 : Int32) = n.val.toInt32 ∨ (25 : Int32) = n.val.toInt32 ∨ (26 : Int32) = n.val.toInt32 ∨ (27 : Int32) = n.val.toInt32 ∨ (28 : Int32) = n.val.toInt32 ∨ (29 : Int32) = n.val.toInt32 ∨ (30 : Int32) = n.val.toInt32 ∨ (31 : Int32) = n.val.toInt32 ∨ (32 : Int32) = n.val.toInt32 ∨ (33 : Int32) = n.val.toInt32) := by decide
  have e : i.toInt.toNat.toInt32 = i := by
    apply Int32.toInt_inj.mp
    rw [len_toInt (by omega)]
    omega
  have g := hd ⟨i.toInt.toNat, by omega⟩
  simp only [e] at g
  exact g
theorem pn_0 : plainName "com/example/token_handoff/tokenhandoff/cli/OptionTakesValuePinLaw" = true := by first | (simp [plainName, overriddenIn]; done) | decide +kernel
theorem d1_0 : decode method_2_code 0 = .ok (.iload_n 0, 1) := by decide +kernel
theorem d1_1 : decode method_2_code 1 = .ok (.tableswitch 345 0 32 #[147, 153, 159, 165, 171, 177, 183, 189, 195, 201, 207, 213, 219, 225, 231, 237, 243, 249, 255, 261, 267, 273, 279, 285, 291, 297, 303, 309, 315, 321, 327, 333, 339], 147) := by decide +kernel
theorem d1_148 : decode method_2_code 148 = .ok (.getstatic 7, 3) := by decide +kernel
theorem d1_151 : decode method_2_code 151 = .ok (.goto 198, 3) := by decide +kernel
theorem d1_154 : decode method_2_code 154 = .ok (.getstatic 13, 3) := by decide +kernel
theorem d1_157 : decode method_2_code 157 = .ok (.goto 192, 3) := by decide +kernel
theorem d1_160 : decode method_2_code 160 = .ok (.getstatic 16, 3) := by decide +kernel
theorem d1_163 : decode method_2_code 163 = .ok (.goto 186, 3) := by decide +kernel
theorem d1_166 : decode method_2_code 166 = .ok (.getstatic 19, 3) := by decide +kernel
theorem d1_169 : decode method_2_code 169 = .ok (.goto 180, 3) := by decide +kernel
theorem d1_172 : decode method_2_code 172 = .ok (.getstatic 22, 3) := by decide +kernel
theorem d1_175 : decode method_2_code 175 = .ok (.goto 174, 3) := by decide +kernel
theorem d1_178 : decode method_2_code 178 = .ok (.getstatic 25, 3) := by decide +kernel
theorem d1_181 : decode method_2_code 181 = .ok (.goto 168, 3) := by decide +kernel
theorem d1_184 : decode method_2_code 184 = .ok (.getstatic 28, 3) := by decide +kernel
theorem d1_187 : decode method_2_code 187 = .ok (.goto 162, 3) := by decide +kernel
theorem d1_190 : decode method_2_code 190 = .ok (.getstatic 31, 3) := by decide +kernel
theorem d1_193 : decode method_2_code 193 = .ok (.goto 156, 3) := by decide +kernel
theorem d1_196 : decode method_2_code 196 = .ok (.getstatic 34, 3) := by decide +kernel
theorem d1_199 : decode method_2_code 199 = .ok (.goto 150, 3) := by decide +kernel
theorem d1_202 : decode method_2_code 202 = .ok (.getstatic 37, 3) := by decide +kernel
theorem d1_205 : decode method_2_code 205 = .ok (.goto 144, 3) := by decide +kernel
theorem d1_208 : decode method_2_code 208 = .ok (.getstatic 40, 3) := by decide +kernel
theorem d1_211 : decode method_2_code 211 = .ok (.goto 138, 3) := by decide +kernel
theorem d1_214 : decode method_2_code 214 = .ok (.getstatic 43, 3) := by decide +kernel
theorem d1_217 : decode method_2_code 217 = .ok (.goto 132, 3) := by decide +kernel
theorem d1_220 : decode method_2_code 220 = .ok (.getstatic 46, 3) := by decide +kernel
theorem d1_223 : decode method_2_code 223 = .ok (.goto 126, 3) := by decide +kernel
theorem d1_226 : decode method_2_code 226 = .ok (.getstatic 49, 3) := by decide +kernel
theorem d1_229 : decode method_2_code 229 = .ok (.goto 120, 3) := by decide +kernel
theorem d1_232 : decode method_2_code 232 = .ok (.getstatic 52, 3) := by decide +kernel
theorem d1_235 : decode method_2_code 235 = .ok (.goto 114, 3) := by decide +kernel
theorem d1_238 : decode method_2_code 238 = .ok (.getstatic 55, 3) := by decide +kernel
theorem d1_241 : decode method_2_code 241 = .ok (.goto 108, 3) := by decide +kernel
theorem d1_244 : decode method_2_code 244 = .ok (.getstatic 58, 3) := by decide +kernel
theorem d1_247 : decode method_2_code 247 = .ok (.goto 102, 3) := by decide +kernel
theorem d1_250 : decode method_2_code 250 = .ok (.getstatic 61, 3) := by decide +kernel
theorem d1_253 : decode method_2_code 253 = .ok (.goto 96, 3) := by decide +kernel
theorem d1_256 : decode method_2_code 256 = .ok (.getstatic 64, 3) := by decide +kernel
theorem d1_259 : decode method_2_code 259 = .ok (.goto 90, 3) := by decide +kernel
theorem d1_262 : decode method_2_code 262 = .ok (.getstatic 67, 3) := by decide +kernel
theorem d1_265 : decode method_2_code 265 = .ok (.goto 84, 3) := by decide +kernel
theorem d1_268 : decode method_2_code 268 = .ok (.getstatic 70, 3) := by decide +kernel
theorem d1_271 : decode method_2_code 271 = .ok (.goto 78, 3) := by decide +kernel
theorem d1_274 : decode method_2_code 274 = .ok (.getstatic 73, 3) := by decide +kernel
theorem d1_277 : decode method_2_code 277 = .ok (.goto 72, 3) := by decide +kernel
theorem d1_280 : decode method_2_code 280 = .ok (.getstatic 76, 3) := by decide +kernel
theorem d1_283 : decode method_2_code 283 = .ok (.goto 66, 3) := by decide +kernel
theorem d1_286 : decode method_2_code 286 = .ok (.getstatic 79, 3) := by decide +kernel
theorem d1_289 : decode method_2_code 289 = .ok (.goto 60, 3) := by decide +kernel
theorem d1_292 : decode method_2_code 292 = .ok (.getstatic 82, 3) := by decide +kernel
theorem d1_295 : decode method_2_code 295 = .ok (.goto 54, 3) := by decide +kernel
theorem d1_298 : decode method_2_code 298 = .ok (.getstatic 85, 3) := by decide +kernel
theorem d1_301 : decode method_2_code 301 = .ok (.goto 48, 3) := by decide +kernel
theorem d1_304 : decode method_2_code 304 = .ok (.getstatic 88, 3) := by decide +kernel
theorem d1_307 : decode method_2_code 307 = .ok (.goto 42, 3) := by decide +kernel
theorem d1_310 : decode method_2_code 310 = .ok (.getstatic 91, 3) := by decide +kernel
theorem d1_313 : decode method_2_code 313 = .ok (.goto 36, 3) := by decide +kernel
theorem d1_316 : decode method_2_code 316 = .ok (.getstatic 94, 3) := by decide +kernel
theorem d1_319 : decode method_2_code 319 = .ok (.goto 30, 3) := by decide +kernel
theorem d1_322 : decode method_2_code 322 = .ok (.getstatic 97, 3) := by decide +kernel
theorem d1_325 : decode method_2_code 325 = .ok (.goto 24, 3) := by decide +kernel
theorem d1_328 : decode method_2_code 328 = .ok (.getstatic 100, 3) := by decide +kernel
theorem d1_331 : decode method_2_code 331 = .ok (.goto 18, 3) := by decide +kernel
theorem d1_334 : decode method_2_code 334 = .ok (.getstatic 103, 3) := by decide +kernel
theorem d1_337 : decode method_2_code 337 = .ok (.goto 12, 3) := by decide +kernel
theorem d1_340 : decode method_2_code 340 = .ok (.getstatic 106, 3) := by decide +kernel
theorem d1_343 : decode method_2_code 343 = .ok (.goto 6, 3) := by decide +kernel
theorem d1_346 : decode method_2_code 346 = .ok (.getstatic 109, 3) := by decide +kernel
theorem d1_349 : decode method_2_code 349 = .ok (.areturn, 1) := by decide +kernel
theorem ef_1 (m : MethodId) (x0 : Int32)  : entryFrame m #[(.int x0)] 1 = mkF m 0 #[.val (.int x0)] [] := by first | (simp [entryFrame, mkF, argsToLocals, Value.category]; done) | rfl
def Q1 (Z : State) (p0 : Int32) (w_KEY_0 : Addr) (w_CERT_1 : Addr) (w_CA_2 : Addr) (w_KNOWN_3 : Addr) (w_LISTEN_4 : Addr) (w_TIMEOUT_MS_5 : Addr) (w_MOVE_RETRIES_6 : Addr) (w_ACK_RETRIES_7 : Addr) (w_COMMIT_RETRIES_8 : Addr) (w_DROP_9 : Addr) (w_DELAY_MS_10 : Addr) (w_SEED_11 : Addr) (w_TRACE_12 : Addr) (w_PEER_13 : Addr) (w_CANDIDATES_14 : Addr) (w_PASS_ON_15 : Addr) (w_CIRCULATE_16 : Addr) (w_SATURATION_17 : Addr) (w_OP_MS_18 : Addr) (w_SKIP_MS_19 : Addr) (w_RUN_20 : Addr) (w_REGENERATE_21 : Addr) (w_STOP_AT_22 : Addr) (w_TO_23 : Addr) (w_ATTEMPTS_24 : Addr) (w_MEMBERS_25 : Addr) (w_OP_26 : Addr) (w_SKIP_27 : Addr) (w_DURATION_28 : Addr) (w_LOSS_EVERY_29 : Addr) (w_UNCOORDINATED_30 : Addr) (w_INTERVAL_31 : Addr) (w_JITTER_32 : Addr) (w_HANDOFFS_33 : Addr) (h0 : Heap) (n0 : Nat) (v : Option Value) (h : Heap) (L : List Loc) : Prop := (∃ r : Addr, v = some (.ref r) ∧ (((0 : Int32) = p0 ∧ w_KEY_0 = r) ∨ ((1 : Int32) = p0 ∧ w_CERT_1 = r) ∨ ((2 : Int32) = p0 ∧ w_CA_2 = r) ∨ ((3 : Int32) = p0 ∧ w_KNOWN_3 = r) ∨ ((4 : Int32) = p0 ∧ w_LISTEN_4 = r) ∨ ((5 : Int32) = p0 ∧ w_TIMEOUT_MS_5 = r) ∨ ((6 : Int32) = p0 ∧ w_MOVE_RETRIES_6 = r) ∨ ((7 : Int32) = p0 ∧ w_ACK_RETRIES_7 = r) ∨ ((8 : Int32) = p0 ∧ w_COMMIT_RETRIES_8 = r) ∨ ((9 : Int32) = p0 ∧ w_DROP_9 = r) ∨ ((10 : Int32) = p0 ∧ w_DELAY_MS_10 = r) ∨ ((11 : Int32) = p0 ∧ w_SEED_11 = r) ∨ ((12 : Int32) = p0 ∧ w_TRACE_12 = r) ∨ ((13 : Int32) = p0 ∧ w_PEER_13 = r) ∨ ((14 : Int32) = p0 ∧ w_CANDIDATES_14 = r) ∨ ((15 : Int32) = p0 ∧ w_PASS_ON_15 = r) ∨ ((16 : Int32) = p0 ∧ w_CIRCULATE_16 = r) ∨ ((17 : Int32) = p0 ∧ w_SATURATION_17 = r) ∨ ((18 : Int32) = p0 ∧ w_OP_MS_18 = r) ∨ ((19 : Int32) = p0 ∧ w_SKIP_MS_19 = r) ∨ ((20 : Int32) = p0 ∧ w_RUN_20 = r) ∨ ((21 : Int32) = p0 ∧ w_REGENERATE_21 = r) ∨ ((22 : Int32) = p0 ∧ w_STOP_AT_22 = r) ∨ ((23 : Int32) = p0 ∧ w_TO_23 = r) ∨ ((24 : Int32) = p0 ∧ w_ATTEMPTS_24 = r) ∨ ((25 : Int32) = p0 ∧ w_MEMBERS_25 = r) ∨ ((26 : Int32) = p0 ∧ w_OP_26 = r) ∨ ((27 : Int32) = p0 ∧ w_SKIP_27 = r) ∨ ((28 : Int32) = p0 ∧ w_DURATION_28 = r) ∨ ((29 : Int32) = p0 ∧ w_LOSS_EVERY_29 = r) ∨ ((30 : Int32) = p0 ∧ w_UNCOORDINATED_30 = r) ∨ ((31 : Int32) = p0 ∧ w_INTERVAL_31 = r) ∨ ((32 : Int32) = p0 ∧ w_JITTER_32 = r) ∨ ((33 : Int32) = p0 ∧ w_HANDOFFS_33 = r))) ∧ Fr n0 L ∧ h = h0
set_option maxRecDepth 65536 in
set_option maxHeartbeats 40000000 in
theorem rm1 (l : Launch) (Z : State) (aw : Array Value) (hw : ∀ d ∈ tables_1, d.before aw Z = true) (ws : List Jvm.Cond) (p0 : Int32) (w_KEY_0 : Addr) (w_CERT_1 : Addr) (w_CA_2 : Addr) (w_KNOWN_3 : Addr) (w_LISTEN_4 : Addr) (w_TIMEOUT_MS_5 : Addr) (w_MOVE_RETRIES_6 : Addr) (w_ACK_RETRIES_7 : Addr) (w_COMMIT_RETRIES_8 : Addr) (w_DROP_9 : Addr) (w_DELAY_MS_10 : Addr) (w_SEED_11 : Addr) (w_TRACE_12 : Addr) (w_PEER_13 : Addr) (w_CANDIDATES_14 : Addr) (w_PASS_ON_15 : Addr) (w_CIRCULATE_16 : Addr) (w_SATURATION_17 : Addr) (w_OP_MS_18 : Addr) (w_SKIP_MS_19 : Addr) (w_RUN_20 : Addr) (w_REGENERATE_21 : Addr) (w_STOP_AT_22 : Addr) (w_TO_23 : Addr) (w_ATTEMPTS_24 : Addr) (w_MEMBERS_25 : Addr) (w_OP_26 : Addr) (w_SKIP_27 : Addr) (w_DURATION_28 : Addr) (w_LOSS_EVERY_29 : Addr) (w_UNCOORDINATED_30 : Addr) (w_INTERVAL_31 : Addr) (w_JITTER_32 : Addr) (w_HANDOFFS_33 : Addr) (h0 : Heap) (n0 : Nat) (Z0 : n0 ≤ h0.size) (hrg : (0 : Int32) = p0 ∨ (1 : Int32) = p0 ∨ (2 : Int32) = p0 ∨ (3 : Int32) = p0 ∨ (4 : Int32) = p0 ∨ (5 : Int32) = p0 ∨ (6 : Int32) = p0 ∨ (7 : Int32) = p0 ∨ (8 : Int32) = p0 ∨ (9 : Int32) = p0 ∨ (10 : Int32) = p0 ∨ (11 : Int32) = p0 ∨ (12 : Int32) = p0 ∨ (13 : Int32) = p0 ∨ (14 : Int32) = p0 ∨ (15 : Int32) = p0 ∨ (16 : Int32) = p0 ∨ (17 : Int32) = p0 ∨ (18 : Int32) = p0 ∨ (19 : Int32) = p0 ∨ (20 : Int32) = p0 ∨ (21 : Int32) = p0 ∨ (22 : Int32) = p0 ∨ (23 : Int32) = p0 ∨ (24 : Int32) = p0 ∨ (25 : Int32) = p0 ∨ (26 : Int32) = p0 ∨ (27 : Int32) = p0 ∨ (28 : Int32) = p0 ∨ (29 : Int32) = p0 ∨ (30 : Int32) = p0 ∨ (31 : Int32) = p0 ∨ (32 : Int32) = p0 ∨ (33 : Int32) = p0) (Sf_KEY_1 : Sta Z h0 "com/example/token_handoff/tokenhandoff/cli/Option" "KEY" "Lcom/example/token_handoff/tokenhandoff/cli/Option;" (.ref w_KEY_0)) (Sf_CERT_2 : Sta Z h0 "com/example/token_handoff/tokenhandoff/cli/Option" "CERT" "Lcom/example/token_handoff/tokenhandoff/cli/Option;" (.ref w_CERT_1)) (Sf_CA_3 : Sta Z h0 "com/example/token_handoff/tokenhandoff/cli/Option" "CA" "Lcom/example/token_handoff/tokenhandoff/cli/Option;" (.ref w_CA_2)) (Sf_KNOWN_4 : Sta Z h0 "com/example/token_handoff/tokenhandoff/cli/Option" "KNOWN" "Lcom/example/token_handoff/tokenhandoff/cli/Option;" (.ref w_KNOWN_3)) (Sf_LISTEN_5 : Sta Z h0 "com/example/token_handoff/tokenhandoff/cli/Option" "LISTEN" "Lcom/example/token_handoff/tokenhandoff/cli/Option;" (.ref w_LISTEN_4)) (Sf_TIMEOUT_MS_6 : Sta Z h0 "com/example/token_handoff/tokenhandoff/cli/Option" "TIMEOUT_MS" "Lcom/example/token_handoff/tokenhandoff/cli/Option;" (.ref w_TIMEOUT_MS_5)) (Sf_MOVE_RETRIES_7 : Sta Z h0 "com/example/token_handoff/tokenhandoff/cli/Option" "MOVE_RETRIES" "Lcom/example/token_handoff/tokenhandoff/cli/Option;" (.ref w_MOVE_RETRIES_6)) (Sf_ACK_RETRIES_8 : Sta Z h0 "com/example/token_handoff/tokenhandoff/cli/Option" "ACK_RETRIES" "Lcom/example/token_handoff/tokenhandoff/cli/Option;" (.ref w_ACK_RETRIES_7)) (Sf_COMMIT_RETRIES_9 : Sta Z h0 "com/example/token_handoff/tokenhandoff/cli/Option" "COMMIT_RETRIES" "Lcom/example/token_handoff/tokenhandoff/cli/Option;" (.ref w_COMMIT_RETRIES_8)) (Sf_DROP_10 : Sta Z h0 "com/example/token_handoff/tokenhandoff/cli/Option" "DROP" "Lcom/example/token_handoff/tokenhandoff/cli/Option;" (.ref w_DROP_9)) (Sf_DELAY_MS_11 : Sta Z h0 "com/example/token_handoff/tokenhandoff/cli/Option" "DELAY_MS" "Lcom/example/token_handoff/tokenhandoff/cli/Option;" (.ref w_DELAY_MS_10)) (Sf_SEED_12 : Sta Z h0 "com/example/token_handoff/tokenhandoff/cli/Option" "SEED" "Lcom/example/token_handoff/tokenhandoff/cli/Option;" (.ref w_SEED_11)) (Sf_TRACE_13 : Sta Z h0 "com/example/token_handoff/tokenhandoff/cli/Option" "TRACE" "Lcom/example/token_handoff/tokenhandoff/cli/Option;" (.ref w_TRACE_12)) (Sf_PEER_14 : Sta Z h0 "com/example/token_handoff/tokenhandoff/cli/Option" "PEER" "Lcom/example/token_handoff/tokenhandoff/cli/Option;" (.ref w_PEER_13)) (Sf_CANDIDATES_15 : Sta Z h0 "com/example/token_handoff/tokenhandoff/cli/Option" "CANDIDATES" "Lcom/example/token_handoff/tokenhandoff/cli/Option;" (.ref w_CANDIDATES_14)) (Sf_PASS_ON_16 : Sta Z h0 "com/example/token_handoff/tokenhandoff/cli/Option" "PASS_ON" "Lcom/example/token_handoff/tokenhandoff/cli/Option;" (.ref w_PASS_ON_15)) (Sf_CIRCULATE_17 : Sta Z h0 "com/example/token_handoff/tokenhandoff/cli/Option" "CIRCULATE" "Lcom/example/token_handoff/tokenhandoff/cli/Option;" (.ref w_CIRCULATE_16)) (Sf_SATURATION_18 : Sta Z h0 "com/example/token_handoff/tokenhandoff/cli/Option" "SATURATION" "Lcom/example/token_handoff/tokenhandoff/cli/Option;" (.ref w_SATURATION_17)) (Sf_OP_MS_19 : Sta Z h0 "com/example/token_handoff/tokenhandoff/cli/Option" "OP_MS" "Lcom/example/token_handoff/tokenhandoff/cli/Option;" (.ref w_OP_MS_18)) (Sf_SKIP_MS_20 : Sta Z h0 "com/example/token_handoff/tokenhandoff/cli/Option" "SKIP_MS" "Lcom/example/token_handoff/tokenhandoff/cli/Option;" (.ref w_SKIP_MS_19)) (Sf_RUN_21 : Sta Z h0 "com/example/token_handoff/tokenhandoff/cli/Option" "RUN" "Lcom/example/token_handoff/tokenhandoff/cli/Option;" (.ref w_RUN_20)) (Sf_REGENERATE_22 : Sta Z h0 "com/example/token_handoff/tokenhandoff/cli/Option" "REGENERATE" "Lcom/example/token_handoff/tokenhandoff/cli/Option;" (.ref w_REGENERATE_21)) (Sf_STOP_AT_23 : Sta Z h0 "com/example/token_handoff/tokenhandoff/cli/Option" "STOP_AT" "Lcom/example/token_handoff/tokenhandoff/cli/Option;" (.ref w_STOP_AT_22)) (Sf_TO_24 : Sta Z h0 "com/example/token_handoff/tokenhandoff/cli/Option" "TO" "Lcom/example/token_handoff/tokenhandoff/cli/Option;" (.ref w_TO_23)) (Sf_ATTEMPTS_25 : Sta Z h0 "com/example/token_handoff/tokenhandoff/cli/Option" "ATTEMPTS" "Lcom/example/token_handoff/tokenhandoff/cli/Option;" (.ref w_ATTEMPTS_24)) (Sf_MEMBERS_26 : Sta Z h0 "com/example/token_handoff/tokenhandoff/cli/Option" "MEMBERS" "Lcom/example/token_handoff/tokenhandoff/cli/Option;" (.ref w_MEMBERS_25)) (Sf_OP_27 : Sta Z h0 "com/example/token_handoff/tokenhandoff/cli/Option" "OP" "Lcom/example/token_handoff/tokenhandoff/cli/Option;" (.ref w_OP_26)) (Sf_SKIP_28 : Sta Z h0 "com/example/token_handoff/tokenhandoff/cli/Option" "SKIP" "Lcom/example/token_handoff/tokenhandoff/cli/Option;" (.ref w_SKIP_27)) (Sf_DURATION_29 : Sta Z h0 "com/example/token_handoff/tokenhandoff/cli/Option" "DURATION" "Lcom/example/token_handoff/tokenhandoff/cli/Option;" (.ref w_DURATION_28)) (Sf_LOSS_EVERY_30 : Sta Z h0 "com/example/token_handoff/tokenhandoff/cli/Option" "LOSS_EVERY" "Lcom/example/token_handoff/tokenhandoff/cli/Option;" (.ref w_LOSS_EVERY_29)) (Sf_UNCOORDINATED_31 : Sta Z h0 "com/example/token_handoff/tokenhandoff/cli/Option" "UNCOORDINATED" "Lcom/example/token_handoff/tokenhandoff/cli/Option;" (.ref w_UNCOORDINATED_30)) (Sf_INTERVAL_32 : Sta Z h0 "com/example/token_handoff/tokenhandoff/cli/Option" "INTERVAL" "Lcom/example/token_handoff/tokenhandoff/cli/Option;" (.ref w_INTERVAL_31)) (Sf_JITTER_33 : Sta Z h0 "com/example/token_handoff/tokenhandoff/cli/Option" "JITTER" "Lcom/example/token_handoff/tokenhandoff/cli/Option;" (.ref w_JITTER_32)) (Sf_HANDOFFS_34 : Sta Z h0 "com/example/token_handoff/tokenhandoff/cli/Option" "HANDOFFS" "Lcom/example/token_handoff/tokenhandoff/cli/Option;" (.ref w_HANDOFFS_33)) :
    MetFree l (⟨"com/example/token_handoff/tokenhandoff/cli/OptionTakesValuePinLaw", "pick", "(I)Lcom/example/token_handoff/tokenhandoff/cli/Option;"⟩ : MethodName) (head1 (Jvm.Cond.code (⟨"com/example/token_handoff/tokenhandoff/cli/OptionTakesValuePinLaw", "pick", "(I)Lcom/example/token_handoff/tokenhandoff/cli/Option;"⟩ : MethodName) method_2_code 1 (some (.object "com/example/token_handoff/tokenhandoff/cli/Option")) :: ws) ({ frames := 0, cells := 0, slots := 0, locals := 0 } : Room)) (fun a U => a = #[(.int p0)] ∧ Z.Warmed39 U.vm ∧ U.heap = h0) (fun _ _ _ _ _ => True) (fun _ U o U' => ∃ v L, o = .returned v ∧ Q1 Z p0 w_KEY_0 w_CERT_1 w_CA_2 w_KNOWN_3 w_LISTEN_4 w_TIMEOUT_MS_5 w_MOVE_RETRIES_6 w_ACK_RETRIES_7 w_COMMIT_RETRIES_8 w_DROP_9 w_DELAY_MS_10 w_SEED_11 w_TRACE_12 w_PEER_13 w_CANDIDATES_14 w_PASS_ON_15 w_CIRCULATE_16 w_SATURATION_17 w_OP_MS_18 w_SKIP_MS_19 w_RUN_20 w_REGENERATE_21 w_STOP_AT_22 w_TO_23 w_ATTEMPTS_24 w_MEMBERS_25 w_OP_26 w_SKIP_27 w_DURATION_28 w_LOSS_EVERY_29 w_UNCOORDINATED_30 w_INTERVAL_31 w_JITTER_32 w_HANDOFFS_33 h0 n0 v U'.heap L ∧ FrameEnd U o U' L ({ frames := 0, cells := 0, slots := 0, locals := 0 } : Room).cells ({ frames := 0, cells := 0, slots := 0, locals := 0 } : Room).slots) := by
  refine MetFree.of_bodySF (plainFor_of_name pn_0) hisR ?_
  intro p e s m args below meth c s₁ Bd hml0 hP hK
  obtain ⟨rfl, hZ, hh⟩ := hP
  have hx := Bd.exec
  have hby := Bd.bytes
  have hml : c.maxLocals = 1 := hml0
  have hown : s.vm.findClass "com/example/token_handoff/tokenhandoff/cli/OptionTakesValuePinLaw" = some m.cls := findClass_of_methodNamed Bd.named
  have hnm := (name_of_methodNamed Bd.named Bd.method).1
  have X0 : Stand p l e ({ frames := 0, cells := 0, slots := 0, locals := 0 } : Room) s m #[(.int p0)] below meth c s₁ [] 0 0 := Stand.of_body Bd
  have e0 : s₁.heap = h0 := by rw [← hh, Bd.state]; rfl
  have N0 := Fr.nil n0
  have pre0 : ∀ t, Steps p.tables e below (s₁.setTop (mkF m 0 #[.val (.int p0)] [])) t → Steps p.tables e below (s₁.setTop (entryFrame m #[(.int p0)] 1)) t := fun t k => castTop (ef_1 m p0 ) k
  rcases hrg with rfl | rfl | rfl | rfl | rfl | rfl | rfl | rfl | rfl | rfl | rfl | rfl | rfl | rfl | rfl | rfl | rfl | rfl | rfl | rfl | rfl | rfl | rfl | rfl | rfl | rfl | rfl | rfl | rfl | rfl | rfl | rfl | rfl | rfl
  · skip
    obtain ⟨T1, X1, e1, st1⟩ := getS2 X0 hx hZ hown (host := "") (Or.inl (hw _ (List.mem_of_getElem? (i := 5) rfl))) Via.refl e0 Sf_KEY_1 (g := (mkF m 148 #[.val (.int (0 : Int32))] [])) rfl (hb hby d1_148)
    have pre2 : ∀ t, Steps p.tables e below (T1.setTop (mkF m 349 #[.val (.int (0 : Int32))] [(.ref w_KEY_0)])) t → Steps p.tables e below (s₁.setTop (entryFrame m #[(.int (0 : Int32))] 1)) t := fun t kt => pre0 t (by
        show Steps p.tables e below (s₁.setTop (mkF m 0 #[.val (.int (0 : Int32))] [])) _
        refine XS.iloadN X0.here hx rfl (hb hby d1_0) rfl ?_
        show Steps p.tables e below (s₁.setTop (mkF m 1 #[.val (.int (0 : Int32))] [(.int (0 : Int32))])) _
        refine XS.tswIn X0.here hx rfl (pc0 := 1) (pc' := 148) rfl (hb hby d1_1) rfl (by decide) (o := 147) rfl (by decide) (by decide) ?_
        show Steps p.tables e below (s₁.setTop (mkF m 148 #[.val (.int (0 : Int32))] [])) _
        refine st1 _ ?_
        show Steps p.tables e below (T1.setTop (mkF m 151 #[.val (.int (0 : Int32))] [(.ref w_KEY_0)])) _
        refine XS.goto X1.here hx rfl (pc0 := 151) (pc' := 349) rfl (hb hby d1_151) (by decide) (by decide) ?_
        exact kt)
    obtain ⟨fs, hr, hrun, hended, hW, hsame⟩ := X1.leave (v := some (.ref w_KEY_0)) (fun h => by rw [Bd.returns] at h; cases h)
    refine ⟨_, _, pre2 _ ?_, hrun, hended, _, _, rfl, ?_, ⟨_, rfl⟩, hW, hsame.mono (by decide) (by decide)⟩
    · show Steps p.tables e below (T1.setTop (mkF m 349 #[.val (.int (0 : Int32))] [(.ref w_KEY_0)])) _
      jvm_step X1.here [X1.here.top, hx, (hb hby d1_349), X1.method', Bd.returns, Value.isRef, FieldType.isReference]
      first | (intro acts; rw [hr _ acts rfl rfl rfl]) | rw [hr _ _ rfl rfl rfl]
      exact Steps.refl _
    · show Q1 Z _ _ _ _ _ _ _ _ _ _ _ _ _ _ _ _ _ _ _ _ _ _ _ _ _ _ _ _ _ _ _ _ _ _ _ h0 n0 _ T1.heap _
      rw [e1]
      exact ⟨⟨_, rfl, Or.inl ⟨rfl, rfl⟩⟩, N0, rfl⟩
  · skip
    obtain ⟨T3, X3, e3, st3⟩ := getS2 X0 hx hZ hown (host := "") (Or.inl (hw _ (List.mem_of_getElem? (i := 31) rfl))) Via.refl e0 Sf_CERT_2 (g := (mkF m 154 #[.val (.int (1 : Int32))] [])) rfl (hb hby d1_154)
    have pre4 : ∀ t, Steps p.tables e below (T3.setTop (mkF m 349 #[.val (.int (1 : Int32))] [(.ref w_CERT_1)])) t → Steps p.tables e below (s₁.setTop (entryFrame m #[(.int (1 : Int32))] 1)) t := fun t kt => pre0 t (by
        show Steps p.tables e below (s₁.setTop (mkF m 0 #[.val (.int (1 : Int32))] [])) _
        refine XS.iloadN X0.here hx rfl (hb hby d1_0) rfl ?_
        show Steps p.tables e below (s₁.setTop (mkF m 1 #[.val (.int (1 : Int32))] [(.int (1 : Int32))])) _
        refine XS.tswIn X0.here hx rfl (pc0 := 1) (pc' := 154) rfl (hb hby d1_1) rfl (by decide) (o := 153) rfl (by decide) (by decide) ?_
        show Steps p.tables e below (s₁.setTop (mkF m 154 #[.val (.int (1 : Int32))] [])) _
        refine st3 _ ?_
        show Steps p.tables e below (T3.setTop (mkF m 157 #[.val (.int (1 : Int32))] [(.ref w_CERT_1)])) _
        refine XS.goto X3.here hx rfl (pc0 := 157) (pc' := 349) rfl (hb hby d1_157) (by decide) (by decide) ?_
        exact kt)
    obtain ⟨fs, hr, hrun, hended, hW, hsame⟩ := X3.leave (v := some (.ref w_CERT_1)) (fun h => by rw [Bd.returns] at h; cases h)
    refine ⟨_, _, pre4 _ ?_, hrun, hended, _, _, rfl, ?_, ⟨_, rfl⟩, hW, hsame.mono (by decide) (by decide)⟩
    · show Steps p.tables e below (T3.setTop (mkF m 349 #[.val (.int (1 : Int32))] [(.ref w_CERT_1)])) _
      jvm_step X3.here [X3.here.top, hx, (hb hby d1_349), X3.method', Bd.returns, Value.isRef, FieldType.isReference]
      first | (intro acts; rw [hr _ acts rfl rfl rfl]) | rw [hr _ _ rfl rfl rfl]
      exact Steps.refl _
    · show Q1 Z _ _ _ _ _ _ _ _ _ _ _ _ _ _ _ _ _ _ _ _ _ _ _ _ _ _ _ _ _ _ _ _ _ _ _ h0 n0 _ T3.heap _
      rw [e3]
      exact ⟨⟨_, rfl, Or.inr (Or.inl ⟨rfl, rfl⟩)⟩, N0, rfl⟩
  · skip
    obtain ⟨T5, X5, e5, st5⟩ := getS2 X0 hx hZ hown (host := "") (Or.inl (hw _ (List.mem_of_getElem? (i := 27) rfl))) Via.refl e0 Sf_CA_3 (g := (mkF m 160 #[.val (.int (2 : Int32))] [])) rfl (hb hby d1_160)
    have pre6 : ∀ t, Steps p.tables e below (T5.setTop (mkF m 349 #[.val (.int (2 : Int32))] [(.ref w_CA_2)])) t → Steps p.tables e below (s₁.setTop (entryFrame m #[(.int (2 : Int32))] 1)) t := fun t kt => pre0 t (by
        show Steps p.tables e below (s₁.setTop (mkF m 0 #[.val (.int (2 : Int32))] [])) _
        refine XS.iloadN X0.here hx rfl (hb hby d1_0) rfl ?_
        show Steps p.tables e below (s₁.setTop (mkF m 1 #[.val (.int (2 : Int32))] [(.int (2 : Int32))])) _
        refine XS.tswIn X0.here hx rfl (pc0 := 1) (pc' := 160) rfl (hb hby d1_1) rfl (by decide) (o := 159) rfl (by decide) (by decide) ?_
        show Steps p.tables e below (s₁.setTop (mkF m 160 #[.val (.int (2 : Int32))] [])) _
        refine st5 _ ?_
        show Steps p.tables e below (T5.setTop (mkF m 163 #[.val (.int (2 : Int32))] [(.ref w_CA_2)])) _
        refine XS.goto X5.here hx rfl (pc0 := 163) (pc' := 349) rfl (hb hby d1_163) (by decide) (by decide) ?_
        exact kt)
    obtain ⟨fs, hr, hrun, hended, hW, hsame⟩ := X5.leave (v := some (.ref w_CA_2)) (fun h => by rw [Bd.returns] at h; cases h)
    refine ⟨_, _, pre6 _ ?_, hrun, hended, _, _, rfl, ?_, ⟨_, rfl⟩, hW, hsame.mono (by decide) (by decide)⟩
    · show Steps p.tables e below (T5.setTop (mkF m 349 #[.val (.int (2 : Int32))] [(.ref w_CA_2)])) _
      jvm_step X5.here [X5.here.top, hx, (hb hby d1_349), X5.method', Bd.returns, Value.isRef, FieldType.isReference]
      first | (intro acts; rw [hr _ acts rfl rfl rfl]) | rw [hr _ _ rfl rfl rfl]
      exact Steps.refl _
    · show Q1 Z _ _ _ _ _ _ _ _ _ _ _ _ _ _ _ _ _ _ _ _ _ _ _ _ _ _ _ _ _ _ _ _ _ _ _ h0 n0 _ T5.heap _
      rw [e5]
      exact ⟨⟨_, rfl, Or.inr (Or.inr (Or.inl ⟨rfl, rfl⟩))⟩, N0, rfl⟩
  · skip
    obtain ⟨T7, X7, e7, st7⟩ := getS2 X0 hx hZ hown (host := "") (Or.inl (hw _ (List.mem_of_getElem? (i := 15) rfl))) Via.refl e0 Sf_KNOWN_4 (g := (mkF m 166 #[.val (.int (3 : Int32))] [])) rfl (hb hby d1_166)
    have pre8 : ∀ t, Steps p.tables e below (T7.setTop (mkF m 349 #[.val (.int (3 : Int32))] [(.ref w_KNOWN_3)])) t → Steps p.tables e below (s₁.setTop (entryFrame m #[(.int (3 : Int32))] 1)) t := fun t kt => pre0 t (by
        show Steps p.tables e below (s₁.setTop (mkF m 0 #[.val (.int (3 : Int32))] [])) _
        refine XS.iloadN X0.here hx rfl (hb hby d1_0) rfl ?_
        show Steps p.tables e below (s₁.setTop (mkF m 1 #[.val (.int (3 : Int32))] [(.int (3 : Int32))])) _
        refine XS.tswIn X0.here hx rfl (pc0 := 1) (pc' := 166) rfl (hb hby d1_1) rfl (by decide) (o := 165) rfl (by decide) (by decide) ?_
        show Steps p.tables e below (s₁.setTop (mkF m 166 #[.val (.int (3 : Int32))] [])) _
        refine st7 _ ?_
        show Steps p.tables e below (T7.setTop (mkF m 169 #[.val (.int (3 : Int32))] [(.ref w_KNOWN_3)])) _
        refine XS.goto X7.here hx rfl (pc0 := 169) (pc' := 349) rfl (hb hby d1_169) (by decide) (by decide) ?_
        exact kt)
    obtain ⟨fs, hr, hrun, hended, hW, hsame⟩ := X7.leave (v := some (.ref w_KNOWN_3)) (fun h => by rw [Bd.returns] at h; cases h)
    refine ⟨_, _, pre8 _ ?_, hrun, hended, _, _, rfl, ?_, ⟨_, rfl⟩, hW, hsame.mono (by decide) (by decide)⟩
    · show Steps p.tables e below (T7.setTop (mkF m 349 #[.val (.int (3 : Int32))] [(.ref w_KNOWN_3)])) _
      jvm_step X7.here [X7.here.top, hx, (hb hby d1_349), X7.method', Bd.returns, Value.isRef, FieldType.isReference]
      first | (intro acts; rw [hr _ acts rfl rfl rfl]) | rw [hr _ _ rfl rfl rfl]
      exact Steps.refl _
    · show Q1 Z _ _ _ _ _ _ _ _ _ _ _ _ _ _ _ _ _ _ _ _ _ _ _ _ _ _ _ _ _ _ _ _ _ _ _ h0 n0 _ T7.heap _
      rw [e7]
      exact ⟨⟨_, rfl, Or.inr (Or.inr (Or.inr (Or.inl ⟨rfl, rfl⟩)))⟩, N0, rfl⟩
  · skip
    obtain ⟨T9, X9, e9, st9⟩ := getS2 X0 hx hZ hown (host := "") (Or.inl (hw _ (List.mem_of_getElem? (i := 37) rfl))) Via.refl e0 Sf_LISTEN_5 (g := (mkF m 172 #[.val (.int (4 : Int32))] [])) rfl (hb hby d1_172)
    have pre10 : ∀ t, Steps p.tables e below (T9.setTop (mkF m 349 #[.val (.int (4 : Int32))] [(.ref w_LISTEN_4)])) t → Steps p.tables e below (s₁.setTop (entryFrame m #[(.int (4 : Int32))] 1)) t := fun t kt => pre0 t (by
        show Steps p.tables e below (s₁.setTop (mkF m 0 #[.val (.int (4 : Int32))] [])) _
        refine XS.iloadN X0.here hx rfl (hb hby d1_0) rfl ?_
        show Steps p.tables e below (s₁.setTop (mkF m 1 #[.val (.int (4 : Int32))] [(.int (4 : Int32))])) _
        refine XS.tswIn X0.here hx rfl (pc0 := 1) (pc' := 172) rfl (hb hby d1_1) rfl (by decide) (o := 171) rfl (by decide) (by decide) ?_
        show Steps p.tables e below (s₁.setTop (mkF m 172 #[.val (.int (4 : Int32))] [])) _
        refine st9 _ ?_
        show Steps p.tables e below (T9.setTop (mkF m 175 #[.val (.int (4 : Int32))] [(.ref w_LISTEN_4)])) _
        refine XS.goto X9.here hx rfl (pc0 := 175) (pc' := 349) rfl (hb hby d1_175) (by decide) (by decide) ?_
        exact kt)
    obtain ⟨fs, hr, hrun, hended, hW, hsame⟩ := X9.leave (v := some (.ref w_LISTEN_4)) (fun h => by rw [Bd.returns] at h; cases h)
    refine ⟨_, _, pre10 _ ?_, hrun, hended, _, _, rfl, ?_, ⟨_, rfl⟩, hW, hsame.mono (by decide) (by decide)⟩
    · show Steps p.tables e below (T9.setTop (mkF m 349 #[.val (.int (4 : Int32))] [(.ref w_LISTEN_4)])) _
      jvm_step X9.here [X9.here.top, hx, (hb hby d1_349), X9.method', Bd.returns, Value.isRef, FieldType.isReference]
      first | (intro acts; rw [hr _ acts rfl rfl rfl]) | rw [hr _ _ rfl rfl rfl]
      exact Steps.refl _
    · show Q1 Z _ _ _ _ _ _ _ _ _ _ _ _ _ _ _ _ _ _ _ _ _ _ _ _ _ _ _ _ _ _ _ _ _ _ _ h0 n0 _ T9.heap _
      rw [e9]
      exact ⟨⟨_, rfl, Or.inr (Or.inr (Or.inr (Or.inr (Or.inl ⟨rfl, rfl⟩))))⟩, N0, rfl⟩
  · skip
    obtain ⟨T11, X11, e11, st11⟩ := getS2 X0 hx hZ hown (host := "") (Or.inl (hw _ (List.mem_of_getElem? (i := 57) rfl))) Via.refl e0 Sf_TIMEOUT_MS_6 (g := (mkF m 178 #[.val (.int (5 : Int32))] [])) rfl (hb hby d1_178)
    have pre12 : ∀ t, Steps p.tables e below (T11.setTop (mkF m 349 #[.val (.int (5 : Int32))] [(.ref w_TIMEOUT_MS_5)])) t → Steps p.tables e below (s₁.setTop (entryFrame m #[(.int (5 : Int32))] 1)) t := fun t kt => pre0 t (by
        show Steps p.tables e below (s₁.setTop (mkF m 0 #[.val (.int (5 : Int32))] [])) _
        refine XS.iloadN X0.here hx rfl (hb hby d1_0) rfl ?_
        show Steps p.tables e below (s₁.setTop (mkF m 1 #[.val (.int (5 : Int32))] [(.int (5 : Int32))])) _
        refine XS.tswIn X0.here hx rfl (pc0 := 1) (pc' := 178) rfl (hb hby d1_1) rfl (by decide) (o := 177) rfl (by decide) (by decide) ?_
        show Steps p.tables e below (s₁.setTop (mkF m 178 #[.val (.int (5 : Int32))] [])) _
        refine st11 _ ?_
        show Steps p.tables e below (T11.setTop (mkF m 181 #[.val (.int (5 : Int32))] [(.ref w_TIMEOUT_MS_5)])) _
        refine XS.goto X11.here hx rfl (pc0 := 181) (pc' := 349) rfl (hb hby d1_181) (by decide) (by decide) ?_
        exact kt)
    obtain ⟨fs, hr, hrun, hended, hW, hsame⟩ := X11.leave (v := some (.ref w_TIMEOUT_MS_5)) (fun h => by rw [Bd.returns] at h; cases h)
    refine ⟨_, _, pre12 _ ?_, hrun, hended, _, _, rfl, ?_, ⟨_, rfl⟩, hW, hsame.mono (by decide) (by decide)⟩
    · show Steps p.tables e below (T11.setTop (mkF m 349 #[.val (.int (5 : Int32))] [(.ref w_TIMEOUT_MS_5)])) _
      jvm_step X11.here [X11.here.top, hx, (hb hby d1_349), X11.method', Bd.returns, Value.isRef, FieldType.isReference]
      first | (intro acts; rw [hr _ acts rfl rfl rfl]) | rw [hr _ _ rfl rfl rfl]
      exact Steps.refl _
    · show Q1 Z _ _ _ _ _ _ _ _ _ _ _ _ _ _ _ _ _ _ _ _ _ _ _ _ _ _ _ _ _ _ _ _ _ _ _ h0 n0 _ T11.heap _
      rw [e11]
      exact ⟨⟨_, rfl, Or.inr (Or.inr (Or.inr (Or.inr (Or.inr (Or.inl ⟨rfl, rfl⟩)))))⟩, N0, rfl⟩
  · skip
    obtain ⟨T13, X13, e13, st13⟩ := getS2 X0 hx hZ hown (host := "") (Or.inl (hw _ (List.mem_of_getElem? (i := 23) rfl))) Via.refl e0 Sf_MOVE_RETRIES_7 (g := (mkF m 184 #[.val (.int (6 : Int32))] [])) rfl (hb hby d1_184)
    have pre14 : ∀ t, Steps p.tables e below (T13.setTop (mkF m 349 #[.val (.int (6 : Int32))] [(.ref w_MOVE_RETRIES_6)])) t → Steps p.tables e below (s₁.setTop (entryFrame m #[(.int (6 : Int32))] 1)) t := fun t kt => pre0 t (by
        show Steps p.tables e below (s₁.setTop (mkF m 0 #[.val (.int (6 : Int32))] [])) _
        refine XS.iloadN X0.here hx rfl (hb hby d1_0) rfl ?_
        show Steps p.tables e below (s₁.setTop (mkF m 1 #[.val (.int (6 : Int32))] [(.int (6 : Int32))])) _
        refine XS.tswIn X0.here hx rfl (pc0 := 1) (pc' := 184) rfl (hb hby d1_1) rfl (by decide) (o := 183) rfl (by decide) (by decide) ?_
        show Steps p.tables e below (s₁.setTop (mkF m 184 #[.val (.int (6 : Int32))] [])) _
        refine st13 _ ?_
        show Steps p.tables e below (T13.setTop (mkF m 187 #[.val (.int (6 : Int32))] [(.ref w_MOVE_RETRIES_6)])) _
        refine XS.goto X13.here hx rfl (pc0 := 187) (pc' := 349) rfl (hb hby d1_187) (by decide) (by decide) ?_
        exact kt)
    obtain ⟨fs, hr, hrun, hended, hW, hsame⟩ := X13.leave (v := some (.ref w_MOVE_RETRIES_6)) (fun h => by rw [Bd.returns] at h; cases h)
    refine ⟨_, _, pre14 _ ?_, hrun, hended, _, _, rfl, ?_, ⟨_, rfl⟩, hW, hsame.mono (by decide) (by decide)⟩
    · show Steps p.tables e below (T13.setTop (mkF m 349 #[.val (.int (6 : Int32))] [(.ref w_MOVE_RETRIES_6)])) _
      jvm_step X13.here [X13.here.top, hx, (hb hby d1_349), X13.method', Bd.returns, Value.isRef, FieldType.isReference]
      first | (intro acts; rw [hr _ acts rfl rfl rfl]) | rw [hr _ _ rfl rfl rfl]
      exact Steps.refl _
    · show Q1 Z _ _ _ _ _ _ _ _ _ _ _ _ _ _ _ _ _ _ _ _ _ _ _ _ _ _ _ _ _ _ _ _ _ _ _ h0 n0 _ T13.heap _
      rw [e13]
      exact ⟨⟨_, rfl, Or.inr (Or.inr (Or.inr (Or.inr (Or.inr (Or.inr (Or.inl ⟨rfl, rfl⟩))))))⟩, N0, rfl⟩
  · skip
    obtain ⟨T15, X15, e15, st15⟩ := getS2 X0 hx hZ hown (host := "") (Or.inl (hw _ (List.mem_of_getElem? (i := 25) rfl))) Via.refl e0 Sf_ACK_RETRIES_8 (g := (mkF m 190 #[.val (.int (7 : Int32))] [])) rfl (hb hby d1_190)
    have pre16 : ∀ t, Steps p.tables e below (T15.setTop (mkF m 349 #[.val (.int (7 : Int32))] [(.ref w_ACK_RETRIES_7)])) t → Steps p.tables e below (s₁.setTop (entryFrame m #[(.int (7 : Int32))] 1)) t := fun t kt => pre0 t (by
        show Steps p.tables e below (s₁.setTop (mkF m 0 #[.val (.int (7 : Int32))] [])) _
        refine XS.iloadN X0.here hx rfl (hb hby d1_0) rfl ?_
        show Steps p.tables e below (s₁.setTop (mkF m 1 #[.val (.int (7 : Int32))] [(.int (7 : Int32))])) _
        refine XS.tswIn X0.here hx rfl (pc0 := 1) (pc' := 190) rfl (hb hby d1_1) rfl (by decide) (o := 189) rfl (by decide) (by decide) ?_
        show Steps p.tables e below (s₁.setTop (mkF m 190 #[.val (.int (7 : Int32))] [])) _
        refine st15 _ ?_
        show Steps p.tables e below (T15.setTop (mkF m 193 #[.val (.int (7 : Int32))] [(.ref w_ACK_RETRIES_7)])) _
        refine XS.goto X15.here hx rfl (pc0 := 193) (pc' := 349) rfl (hb hby d1_193) (by decide) (by decide) ?_
        exact kt)
    obtain ⟨fs, hr, hrun, hended, hW, hsame⟩ := X15.leave (v := some (.ref w_ACK_RETRIES_7)) (fun h => by rw [Bd.returns] at h; cases h)
    refine ⟨_, _, pre16 _ ?_, hrun, hended, _, _, rfl, ?_, ⟨_, rfl⟩, hW, hsame.mono (by decide) (by decide)⟩
    · show Steps p.tables e below (T15.setTop (mkF m 349 #[.val (.int (7 : Int32))] [(.ref w_ACK_RETRIES_7)])) _
      jvm_step X15.here [X15.here.top, hx, (hb hby d1_349), X15.method', Bd.returns, Value.isRef, FieldType.isReference]
      first | (intro acts; rw [hr _ acts rfl rfl rfl]) | rw [hr _ _ rfl rfl rfl]
      exact Steps.refl _
    · show Q1 Z _ _ _ _ _ _ _ _ _ _ _ _ _ _ _ _ _ _ _ _ _ _ _ _ _ _ _ _ _ _ _ _ _ _ _ h0 n0 _ T15.heap _
      rw [e15]
      exact ⟨⟨_, rfl, Or.inr (Or.inr (Or.inr (Or.inr (Or.inr (Or.inr (Or.inr (Or.inl ⟨rfl, rfl⟩)))))))⟩, N0, rfl⟩
  · skip
    obtain ⟨T17, X17, e17, st17⟩ := getS2 X0 hx hZ hown (host := "") (Or.inl (hw _ (List.mem_of_getElem? (i := 17) rfl))) Via.refl e0 Sf_COMMIT_RETRIES_9 (g := (mkF m 196 #[.val (.int (8 : Int32))] [])) rfl (hb hby d1_196)
    have pre18 : ∀ t, Steps p.tables e below (T17.setTop (mkF m 349 #[.val (.int (8 : Int32))] [(.ref w_COMMIT_RETRIES_8)])) t → Steps p.tables e below (s₁.setTop (entryFrame m #[(.int (8 : Int32))] 1)) t := fun t kt => pre0 t (by
        show Steps p.tables e below (s₁.setTop (mkF m 0 #[.val (.int (8 : Int32))] [])) _
        refine XS.iloadN X0.here hx rfl (hb hby d1_0) rfl ?_
        show Steps p.tables e below (s₁.setTop (mkF m 1 #[.val (.int (8 : Int32))] [(.int (8 : Int32))])) _
        refine XS.tswIn X0.here hx rfl (pc0 := 1) (pc' := 196) rfl (hb hby d1_1) rfl (by decide) (o := 195) rfl (by decide) (by decide) ?_
        show Steps p.tables e below (s₁.setTop (mkF m 196 #[.val (.int (8 : Int32))] [])) _
        refine st17 _ ?_
        show Steps p.tables e below (T17.setTop (mkF m 199 #[.val (.int (8 : Int32))] [(.ref w_COMMIT_RETRIES_8)])) _
        refine XS.goto X17.here hx rfl (pc0 := 199) (pc' := 349) rfl (hb hby d1_199) (by decide) (by decide) ?_
        exact kt)
    obtain ⟨fs, hr, hrun, hended, hW, hsame⟩ := X17.leave (v := some (.ref w_COMMIT_RETRIES_8)) (fun h => by rw [Bd.returns] at h; cases h)
    refine ⟨_, _, pre18 _ ?_, hrun, hended, _, _, rfl, ?_, ⟨_, rfl⟩, hW, hsame.mono (by decide) (by decide)⟩
    · show Steps p.tables e below (T17.setTop (mkF m 349 #[.val (.int (8 : Int32))] [(.ref w_COMMIT_RETRIES_8)])) _
      jvm_step X17.here [X17.here.top, hx, (hb hby d1_349), X17.method', Bd.returns, Value.isRef, FieldType.isReference]
      first | (intro acts; rw [hr _ acts rfl rfl rfl]) | rw [hr _ _ rfl rfl rfl]
      exact Steps.refl _
    · show Q1 Z _ _ _ _ _ _ _ _ _ _ _ _ _ _ _ _ _ _ _ _ _ _ _ _ _ _ _ _ _ _ _ _ _ _ _ h0 n0 _ T17.heap _
      rw [e17]
      exact ⟨⟨_, rfl, Or.inr (Or.inr (Or.inr (Or.inr (Or.inr (Or.inr (Or.inr (Or.inr (Or.inl ⟨rfl, rfl⟩))))))))⟩, N0, rfl⟩
  · skip
    obtain ⟨T19, X19, e19, st19⟩ := getS2 X0 hx hZ hown (host := "") (Or.inl (hw _ (List.mem_of_getElem? (i := 21) rfl))) Via.refl e0 Sf_DROP_10 (g := (mkF m 202 #[.val (.int (9 : Int32))] [])) rfl (hb hby d1_202)
    have pre20 : ∀ t, Steps p.tables e below (T19.setTop (mkF m 349 #[.val (.int (9 : Int32))] [(.ref w_DROP_9)])) t → Steps p.tables e below (s₁.setTop (entryFrame m #[(.int (9 : Int32))] 1)) t := fun t kt => pre0 t (by
        show Steps p.tables e below (s₁.setTop (mkF m 0 #[.val (.int (9 : Int32))] [])) _
        refine XS.iloadN X0.here hx rfl (hb hby d1_0) rfl ?_
        show Steps p.tables e below (s₁.setTop (mkF m 1 #[.val (.int (9 : Int32))] [(.int (9 : Int32))])) _
        refine XS.tswIn X0.here hx rfl (pc0 := 1) (pc' := 202) rfl (hb hby d1_1) rfl (by decide) (o := 201) rfl (by decide) (by decide) ?_
        show Steps p.tables e below (s₁.setTop (mkF m 202 #[.val (.int (9 : Int32))] [])) _
        refine st19 _ ?_
        show Steps p.tables e below (T19.setTop (mkF m 205 #[.val (.int (9 : Int32))] [(.ref w_DROP_9)])) _
        refine XS.goto X19.here hx rfl (pc0 := 205) (pc' := 349) rfl (hb hby d1_205) (by decide) (by decide) ?_
        exact kt)
    obtain ⟨fs, hr, hrun, hended, hW, hsame⟩ := X19.leave (v := some (.ref w_DROP_9)) (fun h => by rw [Bd.returns] at h; cases h)
    refine ⟨_, _, pre20 _ ?_, hrun, hended, _, _, rfl, ?_, ⟨_, rfl⟩, hW, hsame.mono (by decide) (by decide)⟩
    · show Steps p.tables e below (T19.setTop (mkF m 349 #[.val (.int (9 : Int32))] [(.ref w_DROP_9)])) _
      jvm_step X19.here [X19.here.top, hx, (hb hby d1_349), X19.method', Bd.returns, Value.isRef, FieldType.isReference]
      first | (intro acts; rw [hr _ acts rfl rfl rfl]) | rw [hr _ _ rfl rfl rfl]
      exact Steps.refl _
    · show Q1 Z _ _ _ _ _ _ _ _ _ _ _ _ _ _ _ _ _ _ _ _ _ _ _ _ _ _ _ _ _ _ _ _ _ _ _ h0 n0 _ T19.heap _
      rw [e19]
      exact ⟨⟨_, rfl, Or.inr (Or.inr (Or.inr (Or.inr (Or.inr (Or.inr (Or.inr (Or.inr (Or.inr (Or.inl ⟨rfl, rfl⟩)))))))))⟩, N0, rfl⟩
  · skip
    obtain ⟨T21, X21, e21, st21⟩ := getS2 X0 hx hZ hown (host := "") (Or.inl (hw _ (List.mem_of_getElem? (i := 39) rfl))) Via.refl e0 Sf_DELAY_MS_11 (g := (mkF m 208 #[.val (.int (10 : Int32))] [])) rfl (hb hby d1_208)
    have pre22 : ∀ t, Steps p.tables e below (T21.setTop (mkF m 349 #[.val (.int (10 : Int32))] [(.ref w_DELAY_MS_10)])) t → Steps p.tables e below (s₁.setTop (entryFrame m #[(.int (10 : Int32))] 1)) t := fun t kt => pre0 t (by
        show Steps p.tables e below (s₁.setTop (mkF m 0 #[.val (.int (10 : Int32))] [])) _
        refine XS.iloadN X0.here hx rfl (hb hby d1_0) rfl ?_
        show Steps p.tables e below (s₁.setTop (mkF m 1 #[.val (.int (10 : Int32))] [(.int (10 : Int32))])) _
        refine XS.tswIn X0.here hx rfl (pc0 := 1) (pc' := 208) rfl (hb hby d1_1) rfl (by decide) (o := 207) rfl (by decide) (by decide) ?_
        show Steps p.tables e below (s₁.setTop (mkF m 208 #[.val (.int (10 : Int32))] [])) _
        refine st21 _ ?_
        show Steps p.tables e below (T21.setTop (mkF m 211 #[.val (.int (10 : Int32))] [(.ref w_DELAY_MS_10)])) _
        refine XS.goto X21.here hx rfl (pc0 := 211) (pc' := 349) rfl (hb hby d1_211) (by decide) (by decide) ?_
        exact kt)
    obtain ⟨fs, hr, hrun, hended, hW, hsame⟩ := X21.leave (v := some (.ref w_DELAY_MS_10)) (fun h => by rw [Bd.returns] at h; cases h)
    refine ⟨_, _, pre22 _ ?_, hrun, hended, _, _, rfl, ?_, ⟨_, rfl⟩, hW, hsame.mono (by decide) (by decide)⟩
    · show Steps p.tables e below (T21.setTop (mkF m 349 #[.val (.int (10 : Int32))] [(.ref w_DELAY_MS_10)])) _
      jvm_step X21.here [X21.here.top, hx, (hb hby d1_349), X21.method', Bd.returns, Value.isRef, FieldType.isReference]
      first | (intro acts; rw [hr _ acts rfl rfl rfl]) | rw [hr _ _ rfl rfl rfl]
      exact Steps.refl _
    · show Q1 Z _ _ _ _ _ _ _ _ _ _ _ _ _ _ _ _ _ _ _ _ _ _ _ _ _ _ _ _ _ _ _ _ _ _ _ h0 n0 _ T21.heap _
      rw [e21]
      exact ⟨⟨_, rfl, Or.inr (Or.inr (Or.inr (Or.inr (Or.inr (Or.inr (Or.inr (Or.inr (Or.inr (Or.inr (Or.inl ⟨rfl, rfl⟩))))))))))⟩, N0, rfl⟩
  · skip
    obtain ⟨T23, X23, e23, st23⟩ := getS2 X0 hx hZ hown (host := "") (Or.inl (hw _ (List.mem_of_getElem? (i := 29) rfl))) Via.refl e0 Sf_SEED_12 (g := (mkF m 214 #[.val (.int (11 : Int32))] [])) rfl (hb hby d1_214)
    have pre24 : ∀ t, Steps p.tables e below (T23.setTop (mkF m 349 #[.val (.int (11 : Int32))] [(.ref w_SEED_11)])) t → Steps p.tables e below (s₁.setTop (entryFrame m #[(.int (11 : Int32))] 1)) t := fun t kt => pre0 t (by
        show Steps p.tables e below (s₁.setTop (mkF m 0 #[.val (.int (11 : Int32))] [])) _
        refine XS.iloadN X0.here hx rfl (hb hby d1_0) rfl ?_
        show Steps p.tables e below (s₁.setTop (mkF m 1 #[.val (.int (11 : Int32))] [(.int (11 : Int32))])) _
        refine XS.tswIn X0.here hx rfl (pc0 := 1) (pc' := 214) rfl (hb hby d1_1) rfl (by decide) (o := 213) rfl (by decide) (by decide) ?_
        show Steps p.tables e below (s₁.setTop (mkF m 214 #[.val (.int (11 : Int32))] [])) _
        refine st23 _ ?_
        show Steps p.tables e below (T23.setTop (mkF m 217 #[.val (.int (11 : Int32))] [(.ref w_SEED_11)])) _
        refine XS.goto X23.here hx rfl (pc0 := 217) (pc' := 349) rfl (hb hby d1_217) (by decide) (by decide) ?_
        exact kt)
    obtain ⟨fs, hr, hrun, hended, hW, hsame⟩ := X23.leave (v := some (.ref w_SEED_11)) (fun h => by rw [Bd.returns] at h; cases h)
    refine ⟨_, _, pre24 _ ?_, hrun, hended, _, _, rfl, ?_, ⟨_, rfl⟩, hW, hsame.mono (by decide) (by decide)⟩
    · show Steps p.tables e below (T23.setTop (mkF m 349 #[.val (.int (11 : Int32))] [(.ref w_SEED_11)])) _
      jvm_step X23.here [X23.here.top, hx, (hb hby d1_349), X23.method', Bd.returns, Value.isRef, FieldType.isReference]
      first | (intro acts; rw [hr _ acts rfl rfl rfl]) | rw [hr _ _ rfl rfl rfl]
      exact Steps.refl _
    · show Q1 Z _ _ _ _ _ _ _ _ _ _ _ _ _ _ _ _ _ _ _ _ _ _ _ _ _ _ _ _ _ _ _ _ _ _ _ h0 n0 _ T23.heap _
      rw [e23]
      exact ⟨⟨_, rfl, Or.inr (Or.inr (Or.inr (Or.inr (Or.inr (Or.inr (Or.inr (Or.inr (Or.inr (Or.inr (Or.inr (Or.inl ⟨rfl, rfl⟩)))))))))))⟩, N0, rfl⟩
  · skip
    obtain ⟨T25, X25, e25, st25⟩ := getS2 X0 hx hZ hown (host := "") (Or.inl (hw _ (List.mem_of_getElem? (i := 61) rfl))) Via.refl e0 Sf_TRACE_13 (g := (mkF m 220 #[.val (.int (12 : Int32))] [])) rfl (hb hby d1_220)
    have pre26 : ∀ t, Steps p.tables e below (T25.setTop (mkF m 349 #[.val (.int (12 : Int32))] [(.ref w_TRACE_12)])) t → Steps p.tables e below (s₁.setTop (entryFrame m #[(.int (12 : Int32))] 1)) t := fun t kt => pre0 t (by
        show Steps p.tables e below (s₁.setTop (mkF m 0 #[.val (.int (12 : Int32))] [])) _
        refine XS.iloadN X0.here hx rfl (hb hby d1_0) rfl ?_
        show Steps p.tables e below (s₁.setTop (mkF m 1 #[.val (.int (12 : Int32))] [(.int (12 : Int32))])) _
        refine XS.tswIn X0.here hx rfl (pc0 := 1) (pc' := 220) rfl (hb hby d1_1) rfl (by decide) (o := 219) rfl (by decide) (by decide) ?_
        show Steps p.tables e below (s₁.setTop (mkF m 220 #[.val (.int (12 : Int32))] [])) _
        refine st25 _ ?_
        show Steps p.tables e below (T25.setTop (mkF m 223 #[.val (.int (12 : Int32))] [(.ref w_TRACE_12)])) _
        refine XS.goto X25.here hx rfl (pc0 := 223) (pc' := 349) rfl (hb hby d1_223) (by decide) (by decide) ?_
        exact kt)
    obtain ⟨fs, hr, hrun, hended, hW, hsame⟩ := X25.leave (v := some (.ref w_TRACE_12)) (fun h => by rw [Bd.returns] at h; cases h)
    refine ⟨_, _, pre26 _ ?_, hrun, hended, _, _, rfl, ?_, ⟨_, rfl⟩, hW, hsame.mono (by decide) (by decide)⟩
    · show Steps p.tables e below (T25.setTop (mkF m 349 #[.val (.int (12 : Int32))] [(.ref w_TRACE_12)])) _
      jvm_step X25.here [X25.here.top, hx, (hb hby d1_349), X25.method', Bd.returns, Value.isRef, FieldType.isReference]
      first | (intro acts; rw [hr _ acts rfl rfl rfl]) | rw [hr _ _ rfl rfl rfl]
      exact Steps.refl _
    · show Q1 Z _ _ _ _ _ _ _ _ _ _ _ _ _ _ _ _ _ _ _ _ _ _ _ _ _ _ _ _ _ _ _ _ _ _ _ h0 n0 _ T25.heap _
      rw [e25]
      exact ⟨⟨_, rfl, Or.inr (Or.inr (Or.inr (Or.inr (Or.inr (Or.inr (Or.inr (Or.inr (Or.inr (Or.inr (Or.inr (Or.inr (Or.inl ⟨rfl, rfl⟩))))))))))))⟩, N0, rfl⟩
  · skip
    obtain ⟨T27, X27, e27, st27⟩ := getS2 X0 hx hZ hown (host := "") (Or.inl (hw _ (List.mem_of_getElem? (i := 33) rfl))) Via.refl e0 Sf_PEER_14 (g := (mkF m 226 #[.val (.int (13 : Int32))] [])) rfl (hb hby d1_226)
    have pre28 : ∀ t, Steps p.tables e below (T27.setTop (mkF m 349 #[.val (.int (13 : Int32))] [(.ref w_PEER_13)])) t → Steps p.tables e below (s₁.setTop (entryFrame m #[(.int (13 : Int32))] 1)) t := fun t kt => pre0 t (by
        show Steps p.tables e below (s₁.setTop (mkF m 0 #[.val (.int (13 : Int32))] [])) _
        refine XS.iloadN X0.here hx rfl (hb hby d1_0) rfl ?_
        show Steps p.tables e below (s₁.setTop (mkF m 1 #[.val (.int (13 : Int32))] [(.int (13 : Int32))])) _
        refine XS.tswIn X0.here hx rfl (pc0 := 1) (pc' := 226) rfl (hb hby d1_1) rfl (by decide) (o := 225) rfl (by decide) (by decide) ?_
        show Steps p.tables e below (s₁.setTop (mkF m 226 #[.val (.int (13 : Int32))] [])) _
        refine st27 _ ?_
        show Steps p.tables e below (T27.setTop (mkF m 229 #[.val (.int (13 : Int32))] [(.ref w_PEER_13)])) _
        refine XS.goto X27.here hx rfl (pc0 := 229) (pc' := 349) rfl (hb hby d1_229) (by decide) (by decide) ?_
        exact kt)
    obtain ⟨fs, hr, hrun, hended, hW, hsame⟩ := X27.leave (v := some (.ref w_PEER_13)) (fun h => by rw [Bd.returns] at h; cases h)
    refine ⟨_, _, pre28 _ ?_, hrun, hended, _, _, rfl, ?_, ⟨_, rfl⟩, hW, hsame.mono (by decide) (by decide)⟩
    · show Steps p.tables e below (T27.setTop (mkF m 349 #[.val (.int (13 : Int32))] [(.ref w_PEER_13)])) _
      jvm_step X27.here [X27.here.top, hx, (hb hby d1_349), X27.method', Bd.returns, Value.isRef, FieldType.isReference]
      first | (intro acts; rw [hr _ acts rfl rfl rfl]) | rw [hr _ _ rfl rfl rfl]
      exact Steps.refl _
    · show Q1 Z _ _ _ _ _ _ _ _ _ _ _ _ _ _ _ _ _ _ _ _ _ _ _ _ _ _ _ _ _ _ _ _ _ _ _ h0 n0 _ T27.heap _
      rw [e27]
      exact ⟨⟨_, rfl, Or.inr (Or.inr (Or.inr (Or.inr (Or.inr (Or.inr (Or.inr (Or.inr (Or.inr (Or.inr (Or.inr (Or.inr (Or.inr (Or.inl ⟨rfl, rfl⟩)))))))))))))⟩, N0, rfl⟩
  · skip
    obtain ⟨T29, X29, e29, st29⟩ := getS2 X0 hx hZ hown (host := "") (Or.inl (hw _ (List.mem_of_getElem? (i := 59) rfl))) Via.refl e0 Sf_CANDIDATES_15 (g := (mkF m 232 #[.val (.int (14 : Int32))] [])) rfl (hb hby d1_232)
    have pre30 : ∀ t, Steps p.tables e below (T29.setTop (mkF m 349 #[.val (.int (14 : Int32))] [(.ref w_CANDIDATES_14)])) t → Steps p.tables e below (s₁.setTop (entryFrame m #[(.int (14 : Int32))] 1)) t := fun t kt => pre0 t (by
        show Steps p.tables e below (s₁.setTop (mkF m 0 #[.val (.int (14 : Int32))] [])) _
        refine XS.iloadN X0.here hx rfl (hb hby d1_0) rfl ?_
        show Steps p.tables e below (s₁.setTop (mkF m 1 #[.val (.int (14 : Int32))] [(.int (14 : Int32))])) _
        refine XS.tswIn X0.here hx rfl (pc0 := 1) (pc' := 232) rfl (hb hby d1_1) rfl (by decide) (o := 231) rfl (by decide) (by decide) ?_
        show Steps p.tables e below (s₁.setTop (mkF m 232 #[.val (.int (14 : Int32))] [])) _
        refine st29 _ ?_
        show Steps p.tables e below (T29.setTop (mkF m 235 #[.val (.int (14 : Int32))] [(.ref w_CANDIDATES_14)])) _
        refine XS.goto X29.here hx rfl (pc0 := 235) (pc' := 349) rfl (hb hby d1_235) (by decide) (by decide) ?_
        exact kt)
    obtain ⟨fs, hr, hrun, hended, hW, hsame⟩ := X29.leave (v := some (.ref w_CANDIDATES_14)) (fun h => by rw [Bd.returns] at h; cases h)
    refine ⟨_, _, pre30 _ ?_, hrun, hended, _, _, rfl, ?_, ⟨_, rfl⟩, hW, hsame.mono (by decide) (by decide)⟩
    · show Steps p.tables e below (T29.setTop (mkF m 349 #[.val (.int (14 : Int32))] [(.ref w_CANDIDATES_14)])) _
      jvm_step X29.here [X29.here.top, hx, (hb hby d1_349), X29.method', Bd.returns, Value.isRef, FieldType.isReference]
      first | (intro acts; rw [hr _ acts rfl rfl rfl]) | rw [hr _ _ rfl rfl rfl]
      exact Steps.refl _
    · show Q1 Z _ _ _ _ _ _ _ _ _ _ _ _ _ _ _ _ _ _ _ _ _ _ _ _ _ _ _ _ _ _ _ _ _ _ _ h0 n0 _ T29.heap _
      rw [e29]
      exact ⟨⟨_, rfl, Or.inr (Or.inr (Or.inr (Or.inr (Or.inr (Or.inr (Or.inr (Or.inr (Or.inr (Or.inr (Or.inr (Or.inr (Or.inr (Or.inr (Or.inl ⟨rfl, rfl⟩))))))))))))))⟩, N0, rfl⟩
  · skip
    obtain ⟨T31, X31, e31, st31⟩ := getS2 X0 hx hZ hown (host := "") (Or.inl (hw _ (List.mem_of_getElem? (i := 49) rfl))) Via.refl e0 Sf_PASS_ON_16 (g := (mkF m 238 #[.val (.int (15 : Int32))] [])) rfl (hb hby d1_238)
    have pre32 : ∀ t, Steps p.tables e below (T31.setTop (mkF m 349 #[.val (.int (15 : Int32))] [(.ref w_PASS_ON_15)])) t → Steps p.tables e below (s₁.setTop (entryFrame m #[(.int (15 : Int32))] 1)) t := fun t kt => pre0 t (by
        show Steps p.tables e below (s₁.setTop (mkF m 0 #[.val (.int (15 : Int32))] [])) _
        refine XS.iloadN X0.here hx rfl (hb hby d1_0) rfl ?_
        show Steps p.tables e below (s₁.setTop (mkF m 1 #[.val (.int (15 : Int32))] [(.int (15 : Int32))])) _
        refine XS.tswIn X0.here hx rfl (pc0 := 1) (pc' := 238) rfl (hb hby d1_1) rfl (by decide) (o := 237) rfl (by decide) (by decide) ?_
        show Steps p.tables e below (s₁.setTop (mkF m 238 #[.val (.int (15 : Int32))] [])) _
        refine st31 _ ?_
        show Steps p.tables e below (T31.setTop (mkF m 241 #[.val (.int (15 : Int32))] [(.ref w_PASS_ON_15)])) _
        refine XS.goto X31.here hx rfl (pc0 := 241) (pc' := 349) rfl (hb hby d1_241) (by decide) (by decide) ?_
        exact kt)
    obtain ⟨fs, hr, hrun, hended, hW, hsame⟩ := X31.leave (v := some (.ref w_PASS_ON_15)) (fun h => by rw [Bd.returns] at h; cases h)
    refine ⟨_, _, pre32 _ ?_, hrun, hended, _, _, rfl, ?_, ⟨_, rfl⟩, hW, hsame.mono (by decide) (by decide)⟩
    · show Steps p.tables e below (T31.setTop (mkF m 349 #[.val (.int (15 : Int32))] [(.ref w_PASS_ON_15)])) _
      jvm_step X31.here [X31.here.top, hx, (hb hby d1_349), X31.method', Bd.returns, Value.isRef, FieldType.isReference]
      first | (intro acts; rw [hr _ acts rfl rfl rfl]) | rw [hr _ _ rfl rfl rfl]
      exact Steps.refl _
    · show Q1 Z _ _ _ _ _ _ _ _ _ _ _ _ _ _ _ _ _ _ _ _ _ _ _ _ _ _ _ _ _ _ _ _ _ _ _ h0 n0 _ T31.heap _
      rw [e31]
      exact ⟨⟨_, rfl, Or.inr (Or.inr (Or.inr (Or.inr (Or.inr (Or.inr (Or.inr (Or.inr (Or.inr (Or.inr (Or.inr (Or.inr (Or.inr (Or.inr (Or.inr (Or.inl ⟨rfl, rfl⟩)))))))))))))))⟩, N0, rfl⟩
  · skip
    obtain ⟨T33, X33, e33, st33⟩ := getS2 X0 hx hZ hown (host := "") (Or.inl (hw _ (List.mem_of_getElem? (i := 41) rfl))) Via.refl e0 Sf_CIRCULATE_17 (g := (mkF m 244 #[.val (.int (16 : Int32))] [])) rfl (hb hby d1_244)
    have pre34 : ∀ t, Steps p.tables e below (T33.setTop (mkF m 349 #[.val (.int (16 : Int32))] [(.ref w_CIRCULATE_16)])) t → Steps p.tables e below (s₁.setTop (entryFrame m #[(.int (16 : Int32))] 1)) t := fun t kt => pre0 t (by
        show Steps p.tables e below (s₁.setTop (mkF m 0 #[.val (.int (16 : Int32))] [])) _
        refine XS.iloadN X0.here hx rfl (hb hby d1_0) rfl ?_
        show Steps p.tables e below (s₁.setTop (mkF m 1 #[.val (.int (16 : Int32))] [(.int (16 : Int32))])) _
        refine XS.tswIn X0.here hx rfl (pc0 := 1) (pc' := 244) rfl (hb hby d1_1) rfl (by decide) (o := 243) rfl (by decide) (by decide) ?_
        show Steps p.tables e below (s₁.setTop (mkF m 244 #[.val (.int (16 : Int32))] [])) _
        refine st33 _ ?_
        show Steps p.tables e below (T33.setTop (mkF m 247 #[.val (.int (16 : Int32))] [(.ref w_CIRCULATE_16)])) _
        refine XS.goto X33.here hx rfl (pc0 := 247) (pc' := 349) rfl (hb hby d1_247) (by decide) (by decide) ?_
        exact kt)
    obtain ⟨fs, hr, hrun, hended, hW, hsame⟩ := X33.leave (v := some (.ref w_CIRCULATE_16)) (fun h => by rw [Bd.returns] at h; cases h)
    refine ⟨_, _, pre34 _ ?_, hrun, hended, _, _, rfl, ?_, ⟨_, rfl⟩, hW, hsame.mono (by decide) (by decide)⟩
    · show Steps p.tables e below (T33.setTop (mkF m 349 #[.val (.int (16 : Int32))] [(.ref w_CIRCULATE_16)])) _
      jvm_step X33.here [X33.here.top, hx, (hb hby d1_349), X33.method', Bd.returns, Value.isRef, FieldType.isReference]
      first | (intro acts; rw [hr _ acts rfl rfl rfl]) | rw [hr _ _ rfl rfl rfl]
      exact Steps.refl _
    · show Q1 Z _ _ _ _ _ _ _ _ _ _ _ _ _ _ _ _ _ _ _ _ _ _ _ _ _ _ _ _ _ _ _ _ _ _ _ h0 n0 _ T33.heap _
      rw [e33]
      exact ⟨⟨_, rfl, Or.inr (Or.inr (Or.inr (Or.inr (Or.inr (Or.inr (Or.inr (Or.inr (Or.inr (Or.inr (Or.inr (Or.inr (Or.inr (Or.inr (Or.inr (Or.inr (Or.inl ⟨rfl, rfl⟩))))))))))))))))⟩, N0, rfl⟩
  · skip
    obtain ⟨T35, X35, e35, st35⟩ := getS2 X0 hx hZ hown (host := "") (Or.inl (hw _ (List.mem_of_getElem? (i := 19) rfl))) Via.refl e0 Sf_SATURATION_18 (g := (mkF m 250 #[.val (.int (17 : Int32))] [])) rfl (hb hby d1_250)
    have pre36 : ∀ t, Steps p.tables e below (T35.setTop (mkF m 349 #[.val (.int (17 : Int32))] [(.ref w_SATURATION_17)])) t → Steps p.tables e below (s₁.setTop (entryFrame m #[(.int (17 : Int32))] 1)) t := fun t kt => pre0 t (by
        show Steps p.tables e below (s₁.setTop (mkF m 0 #[.val (.int (17 : Int32))] [])) _
        refine XS.iloadN X0.here hx rfl (hb hby d1_0) rfl ?_
        show Steps p.tables e below (s₁.setTop (mkF m 1 #[.val (.int (17 : Int32))] [(.int (17 : Int32))])) _
        refine XS.tswIn X0.here hx rfl (pc0 := 1) (pc' := 250) rfl (hb hby d1_1) rfl (by decide) (o := 249) rfl (by decide) (by decide) ?_
        show Steps p.tables e below (s₁.setTop (mkF m 250 #[.val (.int (17 : Int32))] [])) _
        refine st35 _ ?_
        show Steps p.tables e below (T35.setTop (mkF m 253 #[.val (.int (17 : Int32))] [(.ref w_SATURATION_17)])) _
        refine XS.goto X35.here hx rfl (pc0 := 253) (pc' := 349) rfl (hb hby d1_253) (by decide) (by decide) ?_
        exact kt)
    obtain ⟨fs, hr, hrun, hended, hW, hsame⟩ := X35.leave (v := some (.ref w_SATURATION_17)) (fun h => by rw [Bd.returns] at h; cases h)
    refine ⟨_, _, pre36 _ ?_, hrun, hended, _, _, rfl, ?_, ⟨_, rfl⟩, hW, hsame.mono (by decide) (by decide)⟩
    · show Steps p.tables e below (T35.setTop (mkF m 349 #[.val (.int (17 : Int32))] [(.ref w_SATURATION_17)])) _
      jvm_step X35.here [X35.here.top, hx, (hb hby d1_349), X35.method', Bd.returns, Value.isRef, FieldType.isReference]
      first | (intro acts; rw [hr _ acts rfl rfl rfl]) | rw [hr _ _ rfl rfl rfl]
      exact Steps.refl _
    · show Q1 Z _ _ _ _ _ _ _ _ _ _ _ _ _ _ _ _ _ _ _ _ _ _ _ _ _ _ _ _ _ _ _ _ _ _ _ h0 n0 _ T35.heap _
      rw [e35]
      exact ⟨⟨_, rfl, Or.inr (Or.inr (Or.inr (Or.inr (Or.inr (Or.inr (Or.inr (Or.inr (Or.inr (Or.inr (Or.inr (Or.inr (Or.inr (Or.inr (Or.inr (Or.inr (Or.inr (Or.inl ⟨rfl, rfl⟩)))))))))))))))))⟩, N0, rfl⟩
  · skip
    obtain ⟨T37, X37, e37, st37⟩ := getS2 X0 hx hZ hown (host := "") (Or.inl (hw _ (List.mem_of_getElem? (i := 35) rfl))) Via.refl e0 Sf_OP_MS_19 (g := (mkF m 256 #[.val (.int (18 : Int32))] [])) rfl (hb hby d1_256)
    have pre38 : ∀ t, Steps p.tables e below (T37.setTop (mkF m 349 #[.val (.int (18 : Int32))] [(.ref w_OP_MS_18)])) t → Steps p.tables e below (s₁.setTop (entryFrame m #[(.int (18 : Int32))] 1)) t := fun t kt => pre0 t (by
        show Steps p.tables e below (s₁.setTop (mkF m 0 #[.val (.int (18 : Int32))] [])) _
        refine XS.iloadN X0.here hx rfl (hb hby d1_0) rfl ?_
        show Steps p.tables e below (s₁.setTop (mkF m 1 #[.val (.int (18 : Int32))] [(.int (18 : Int32))])) _
        refine XS.tswIn X0.here hx rfl (pc0 := 1) (pc' := 256) rfl (hb hby d1_1) rfl (by decide) (o := 255) rfl (by decide) (by decide) ?_
        show Steps p.tables e below (s₁.setTop (mkF m 256 #[.val (.int (18 : Int32))] [])) _
        refine st37 _ ?_
        show Steps p.tables e below (T37.setTop (mkF m 259 #[.val (.int (18 : Int32))] [(.ref w_OP_MS_18)])) _
        refine XS.goto X37.here hx rfl (pc0 := 259) (pc' := 349) rfl (hb hby d1_259) (by decide) (by decide) ?_
        exact kt)
    obtain ⟨fs, hr, hrun, hended, hW, hsame⟩ := X37.leave (v := some (.ref w_OP_MS_18)) (fun h => by rw [Bd.returns] at h; cases h)
    refine ⟨_, _, pre38 _ ?_, hrun, hended, _, _, rfl, ?_, ⟨_, rfl⟩, hW, hsame.mono (by decide) (by decide)⟩
    · show Steps p.tables e below (T37.setTop (mkF m 349 #[.val (.int (18 : Int32))] [(.ref w_OP_MS_18)])) _
      jvm_step X37.here [X37.here.top, hx, (hb hby d1_349), X37.method', Bd.returns, Value.isRef, FieldType.isReference]
      first | (intro acts; rw [hr _ acts rfl rfl rfl]) | rw [hr _ _ rfl rfl rfl]
      exact Steps.refl _
    · show Q1 Z _ _ _ _ _ _ _ _ _ _ _ _ _ _ _ _ _ _ _ _ _ _ _ _ _ _ _ _ _ _ _ _ _ _ _ h0 n0 _ T37.heap _
      rw [e37]
      exact ⟨⟨_, rfl, Or.inr (Or.inr (Or.inr (Or.inr (Or.inr (Or.inr (Or.inr (Or.inr (Or.inr (Or.inr (Or.inr (Or.inr (Or.inr (Or.inr (Or.inr (Or.inr (Or.inr (Or.inr (Or.inl ⟨rfl, rfl⟩))))))))))))))))))⟩, N0, rfl⟩
  · skip
    obtain ⟨T39, X39, e39, st39⟩ := getS2 X0 hx hZ hown (host := "") (Or.inl (hw _ (List.mem_of_getElem? (i := 47) rfl))) Via.refl e0 Sf_SKIP_MS_20 (g := (mkF m 262 #[.val (.int (19 : Int32))] [])) rfl (hb hby d1_262)
    have pre40 : ∀ t, Steps p.tables e below (T39.setTop (mkF m 349 #[.val (.int (19 : Int32))] [(.ref w_SKIP_MS_19)])) t → Steps p.tables e below (s₁.setTop (entryFrame m #[(.int (19 : Int32))] 1)) t := fun t kt => pre0 t (by
        show Steps p.tables e below (s₁.setTop (mkF m 0 #[.val (.int (19 : Int32))] [])) _
        refine XS.iloadN X0.here hx rfl (hb hby d1_0) rfl ?_
        show Steps p.tables e below (s₁.setTop (mkF m 1 #[.val (.int (19 : Int32))] [(.int (19 : Int32))])) _
        refine XS.tswIn X0.here hx rfl (pc0 := 1) (pc' := 262) rfl (hb hby d1_1) rfl (by decide) (o := 261) rfl (by decide) (by decide) ?_
        show Steps p.tables e below (s₁.setTop (mkF m 262 #[.val (.int (19 : Int32))] [])) _
        refine st39 _ ?_
        show Steps p.tables e below (T39.setTop (mkF m 265 #[.val (.int (19 : Int32))] [(.ref w_SKIP_MS_19)])) _
        refine XS.goto X39.here hx rfl (pc0 := 265) (pc' := 349) rfl (hb hby d1_265) (by decide) (by decide) ?_
        exact kt)
    obtain ⟨fs, hr, hrun, hended, hW, hsame⟩ := X39.leave (v := some (.ref w_SKIP_MS_19)) (fun h => by rw [Bd.returns] at h; cases h)
    refine ⟨_, _, pre40 _ ?_, hrun, hended, _, _, rfl, ?_, ⟨_, rfl⟩, hW, hsame.mono (by decide) (by decide)⟩
    · show Steps p.tables e below (T39.setTop (mkF m 349 #[.val (.int (19 : Int32))] [(.ref w_SKIP_MS_19)])) _
      jvm_step X39.here [X39.here.top, hx, (hb hby d1_349), X39.method', Bd.returns, Value.isRef, FieldType.isReference]
      first | (intro acts; rw [hr _ acts rfl rfl rfl]) | rw [hr _ _ rfl rfl rfl]
      exact Steps.refl _
    · show Q1 Z _ _ _ _ _ _ _ _ _ _ _ _ _ _ _ _ _ _ _ _ _ _ _ _ _ _ _ _ _ _ _ _ _ _ _ h0 n0 _ T39.heap _
      rw [e39]
      exact ⟨⟨_, rfl, Or.inr (Or.inr (Or.inr (Or.inr (Or.inr (Or.inr (Or.inr (Or.inr (Or.inr (Or.inr (Or.inr (Or.inr (Or.inr (Or.inr (Or.inr (Or.inr (Or.inr (Or.inr (Or.inr (Or.inl ⟨rfl, rfl⟩)))))))))))))))))))⟩, N0, rfl⟩
  · skip
    obtain ⟨T41, X41, e41, st41⟩ := getS2 X0 hx hZ hown (host := "") (Or.inl (hw _ (List.mem_of_getElem? (i := 65) rfl))) Via.refl e0 Sf_RUN_21 (g := (mkF m 268 #[.val (.int (20 : Int32))] [])) rfl (hb hby d1_268)
    have pre42 : ∀ t, Steps p.tables e below (T41.setTop (mkF m 349 #[.val (.int (20 : Int32))] [(.ref w_RUN_20)])) t → Steps p.tables e below (s₁.setTop (entryFrame m #[(.int (20 : Int32))] 1)) t := fun t kt => pre0 t (by
        show Steps p.tables e below (s₁.setTop (mkF m 0 #[.val (.int (20 : Int32))] [])) _
        refine XS.iloadN X0.here hx rfl (hb hby d1_0) rfl ?_
        show Steps p.tables e below (s₁.setTop (mkF m 1 #[.val (.int (20 : Int32))] [(.int (20 : Int32))])) _
        refine XS.tswIn X0.here hx rfl (pc0 := 1) (pc' := 268) rfl (hb hby d1_1) rfl (by decide) (o := 267) rfl (by decide) (by decide) ?_
        show Steps p.tables e below (s₁.setTop (mkF m 268 #[.val (.int (20 : Int32))] [])) _
        refine st41 _ ?_
        show Steps p.tables e below (T41.setTop (mkF m 271 #[.val (.int (20 : Int32))] [(.ref w_RUN_20)])) _
        refine XS.goto X41.here hx rfl (pc0 := 271) (pc' := 349) rfl (hb hby d1_271) (by decide) (by decide) ?_
        exact kt)
    obtain ⟨fs, hr, hrun, hended, hW, hsame⟩ := X41.leave (v := some (.ref w_RUN_20)) (fun h => by rw [Bd.returns] at h; cases h)
    refine ⟨_, _, pre42 _ ?_, hrun, hended, _, _, rfl, ?_, ⟨_, rfl⟩, hW, hsame.mono (by decide) (by decide)⟩
    · show Steps p.tables e below (T41.setTop (mkF m 349 #[.val (.int (20 : Int32))] [(.ref w_RUN_20)])) _
      jvm_step X41.here [X41.here.top, hx, (hb hby d1_349), X41.method', Bd.returns, Value.isRef, FieldType.isReference]
      first | (intro acts; rw [hr _ acts rfl rfl rfl]) | rw [hr _ _ rfl rfl rfl]
      exact Steps.refl _
    · show Q1 Z _ _ _ _ _ _ _ _ _ _ _ _ _ _ _ _ _ _ _ _ _ _ _ _ _ _ _ _ _ _ _ _ _ _ _ h0 n0 _ T41.heap _
      rw [e41]
      exact ⟨⟨_, rfl, Or.inr (Or.inr (Or.inr (Or.inr (Or.inr (Or.inr (Or.inr (Or.inr (Or.inr (Or.inr (Or.inr (Or.inr (Or.inr (Or.inr (Or.inr (Or.inr (Or.inr (Or.inr (Or.inr (Or.inr (Or.inl ⟨rfl, rfl⟩))))))))))))))))))))⟩, N0, rfl⟩
  · skip
    obtain ⟨T43, X43, e43, st43⟩ := getS2 X0 hx hZ hown (host := "") (Or.inl (hw _ (List.mem_of_getElem? (i := 73) rfl))) Via.refl e0 Sf_REGENERATE_22 (g := (mkF m 274 #[.val (.int (21 : Int32))] [])) rfl (hb hby d1_274)
    have pre44 : ∀ t, Steps p.tables e below (T43.setTop (mkF m 349 #[.val (.int (21 : Int32))] [(.ref w_REGENERATE_21)])) t → Steps p.tables e below (s₁.setTop (entryFrame m #[(.int (21 : Int32))] 1)) t := fun t kt => pre0 t (by
        show Steps p.tables e below (s₁.setTop (mkF m 0 #[.val (.int (21 : Int32))] [])) _
        refine XS.iloadN X0.here hx rfl (hb hby d1_0) rfl ?_
        show Steps p.tables e below (s₁.setTop (mkF m 1 #[.val (.int (21 : Int32))] [(.int (21 : Int32))])) _
        refine XS.tswIn X0.here hx rfl (pc0 := 1) (pc' := 274) rfl (hb hby d1_1) rfl (by decide) (o := 273) rfl (by decide) (by decide) ?_
        show Steps p.tables e below (s₁.setTop (mkF m 274 #[.val (.int (21 : Int32))] [])) _
        refine st43 _ ?_
        show Steps p.tables e below (T43.setTop (mkF m 277 #[.val (.int (21 : Int32))] [(.ref w_REGENERATE_21)])) _
        refine XS.goto X43.here hx rfl (pc0 := 277) (pc' := 349) rfl (hb hby d1_277) (by decide) (by decide) ?_
        exact kt)
    obtain ⟨fs, hr, hrun, hended, hW, hsame⟩ := X43.leave (v := some (.ref w_REGENERATE_21)) (fun h => by rw [Bd.returns] at h; cases h)
    refine ⟨_, _, pre44 _ ?_, hrun, hended, _, _, rfl, ?_, ⟨_, rfl⟩, hW, hsame.mono (by decide) (by decide)⟩
    · show Steps p.tables e below (T43.setTop (mkF m 349 #[.val (.int (21 : Int32))] [(.ref w_REGENERATE_21)])) _
      jvm_step X43.here [X43.here.top, hx, (hb hby d1_349), X43.method', Bd.returns, Value.isRef, FieldType.isReference]
      first | (intro acts; rw [hr _ acts rfl rfl rfl]) | rw [hr _ _ rfl rfl rfl]
      exact Steps.refl _
    · show Q1 Z _ _ _ _ _ _ _ _ _ _ _ _ _ _ _ _ _ _ _ _ _ _ _ _ _ _ _ _ _ _ _ _ _ _ _ h0 n0 _ T43.heap _
      rw [e43]
      exact ⟨⟨_, rfl, Or.inr (Or.inr (Or.inr (Or.inr (Or.inr (Or.inr (Or.inr (Or.inr (Or.inr (Or.inr (Or.inr (Or.inr (Or.inr (Or.inr (Or.inr (Or.inr (Or.inr (Or.inr (Or.inr (Or.inr (Or.inr (Or.inl ⟨rfl, rfl⟩)))))))))))))))))))))⟩, N0, rfl⟩
  · skip
    obtain ⟨T45, X45, e45, st45⟩ := getS2 X0 hx hZ hown (host := "") (Or.inl (hw _ (List.mem_of_getElem? (i := 55) rfl))) Via.refl e0 Sf_STOP_AT_23 (g := (mkF m 280 #[.val (.int (22 : Int32))] [])) rfl (hb hby d1_280)
    have pre46 : ∀ t, Steps p.tables e below (T45.setTop (mkF m 349 #[.val (.int (22 : Int32))] [(.ref w_STOP_AT_22)])) t → Steps p.tables e below (s₁.setTop (entryFrame m #[(.int (22 : Int32))] 1)) t := fun t kt => pre0 t (by
        show Steps p.tables e below (s₁.setTop (mkF m 0 #[.val (.int (22 : Int32))] [])) _
        refine XS.iloadN X0.here hx rfl (hb hby d1_0) rfl ?_
        show Steps p.tables e below (s₁.setTop (mkF m 1 #[.val (.int (22 : Int32))] [(.int (22 : Int32))])) _
        refine XS.tswIn X0.here hx rfl (pc0 := 1) (pc' := 280) rfl (hb hby d1_1) rfl (by decide) (o := 279) rfl (by decide) (by decide) ?_
        show Steps p.tables e below (s₁.setTop (mkF m 280 #[.val (.int (22 : Int32))] [])) _
        refine st45 _ ?_
        show Steps p.tables e below (T45.setTop (mkF m 283 #[.val (.int (22 : Int32))] [(.ref w_STOP_AT_22)])) _
        refine XS.goto X45.here hx rfl (pc0 := 283) (pc' := 349) rfl (hb hby d1_283) (by decide) (by decide) ?_
        exact kt)
    obtain ⟨fs, hr, hrun, hended, hW, hsame⟩ := X45.leave (v := some (.ref w_STOP_AT_22)) (fun h => by rw [Bd.returns] at h; cases h)
    refine ⟨_, _, pre46 _ ?_, hrun, hended, _, _, rfl, ?_, ⟨_, rfl⟩, hW, hsame.mono (by decide) (by decide)⟩
    · show Steps p.tables e below (T45.setTop (mkF m 349 #[.val (.int (22 : Int32))] [(.ref w_STOP_AT_22)])) _
      jvm_step X45.here [X45.here.top, hx, (hb hby d1_349), X45.method', Bd.returns, Value.isRef, FieldType.isReference]
      first | (intro acts; rw [hr _ acts rfl rfl rfl]) | rw [hr _ _ rfl rfl rfl]
      exact Steps.refl _
    · show Q1 Z _ _ _ _ _ _ _ _ _ _ _ _ _ _ _ _ _ _ _ _ _ _ _ _ _ _ _ _ _ _ _ _ _ _ _ h0 n0 _ T45.heap _
      rw [e45]
      exact ⟨⟨_, rfl, Or.inr (Or.inr (Or.inr (Or.inr (Or.inr (Or.inr (Or.inr (Or.inr (Or.inr (Or.inr (Or.inr (Or.inr (Or.inr (Or.inr (Or.inr (Or.inr (Or.inr (Or.inr (Or.inr (Or.inr (Or.inr (Or.inr (Or.inl ⟨rfl, rfl⟩))))))))))))))))))))))⟩, N0, rfl⟩
  · skip
    obtain ⟨T47, X47, e47, st47⟩ := getS2 X0 hx hZ hown (host := "") (Or.inl (hw _ (List.mem_of_getElem? (i := 53) rfl))) Via.refl e0 Sf_TO_24 (g := (mkF m 286 #[.val (.int (23 : Int32))] [])) rfl (hb hby d1_286)
    have pre48 : ∀ t, Steps p.tables e below (T47.setTop (mkF m 349 #[.val (.int (23 : Int32))] [(.ref w_TO_23)])) t → Steps p.tables e below (s₁.setTop (entryFrame m #[(.int (23 : Int32))] 1)) t := fun t kt => pre0 t (by
        show Steps p.tables e below (s₁.setTop (mkF m 0 #[.val (.int (23 : Int32))] [])) _
        refine XS.iloadN X0.here hx rfl (hb hby d1_0) rfl ?_
        show Steps p.tables e below (s₁.setTop (mkF m 1 #[.val (.int (23 : Int32))] [(.int (23 : Int32))])) _
        refine XS.tswIn X0.here hx rfl (pc0 := 1) (pc' := 286) rfl (hb hby d1_1) rfl (by decide) (o := 285) rfl (by decide) (by decide) ?_
        show Steps p.tables e below (s₁.setTop (mkF m 286 #[.val (.int (23 : Int32))] [])) _
        refine st47 _ ?_
        show Steps p.tables e below (T47.setTop (mkF m 289 #[.val (.int (23 : Int32))] [(.ref w_TO_23)])) _
        refine XS.goto X47.here hx rfl (pc0 := 289) (pc' := 349) rfl (hb hby d1_289) (by decide) (by decide) ?_
        exact kt)
    obtain ⟨fs, hr, hrun, hended, hW, hsame⟩ := X47.leave (v := some (.ref w_TO_23)) (fun h => by rw [Bd.returns] at h; cases h)
    refine ⟨_, _, pre48 _ ?_, hrun, hended, _, _, rfl, ?_, ⟨_, rfl⟩, hW, hsame.mono (by decide) (by decide)⟩
    · show Steps p.tables e below (T47.setTop (mkF m 349 #[.val (.int (23 : Int32))] [(.ref w_TO_23)])) _
      jvm_step X47.here [X47.here.top, hx, (hb hby d1_349), X47.method', Bd.returns, Value.isRef, FieldType.isReference]
      first | (intro acts; rw [hr _ acts rfl rfl rfl]) | rw [hr _ _ rfl rfl rfl]
      exact Steps.refl _
    · show Q1 Z _ _ _ _ _ _ _ _ _ _ _ _ _ _ _ _ _ _ _ _ _ _ _ _ _ _ _ _ _ _ _ _ _ _ _ h0 n0 _ T47.heap _
      rw [e47]
      exact ⟨⟨_, rfl, Or.inr (Or.inr (Or.inr (Or.inr (Or.inr (Or.inr (Or.inr (Or.inr (Or.inr (Or.inr (Or.inr (Or.inr (Or.inr (Or.inr (Or.inr (Or.inr (Or.inr (Or.inr (Or.inr (Or.inr (Or.inr (Or.inr (Or.inr (Or.inl ⟨rfl, rfl⟩)))))))))))))))))))))))⟩, N0, rfl⟩
  · skip
    obtain ⟨T49, X49, e49, st49⟩ := getS2 X0 hx hZ hown (host := "") (Or.inl (hw _ (List.mem_of_getElem? (i := 51) rfl))) Via.refl e0 Sf_ATTEMPTS_25 (g := (mkF m 292 #[.val (.int (24 : Int32))] [])) rfl (hb hby d1_292)
    have pre50 : ∀ t, Steps p.tables e below (T49.setTop (mkF m 349 #[.val (.int (24 : Int32))] [(.ref w_ATTEMPTS_24)])) t → Steps p.tables e below (s₁.setTop (entryFrame m #[(.int (24 : Int32))] 1)) t := fun t kt => pre0 t (by
        show Steps p.tables e below (s₁.setTop (mkF m 0 #[.val (.int (24 : Int32))] [])) _
        refine XS.iloadN X0.here hx rfl (hb hby d1_0) rfl ?_
        show Steps p.tables e below (s₁.setTop (mkF m 1 #[.val (.int (24 : Int32))] [(.int (24 : Int32))])) _
        refine XS.tswIn X0.here hx rfl (pc0 := 1) (pc' := 292) rfl (hb hby d1_1) rfl (by decide) (o := 291) rfl (by decide) (by decide) ?_
        show Steps p.tables e below (s₁.setTop (mkF m 292 #[.val (.int (24 : Int32))] [])) _
        refine st49 _ ?_
        show Steps p.tables e below (T49.setTop (mkF m 295 #[.val (.int (24 : Int32))] [(.ref w_ATTEMPTS_24)])) _
        refine XS.goto X49.here hx rfl (pc0 := 295) (pc' := 349) rfl (hb hby d1_295) (by decide) (by decide) ?_
        exact kt)
    obtain ⟨fs, hr, hrun, hended, hW, hsame⟩ := X49.leave (v := some (.ref w_ATTEMPTS_24)) (fun h => by rw [Bd.returns] at h; cases h)
    refine ⟨_, _, pre50 _ ?_, hrun, hended, _, _, rfl, ?_, ⟨_, rfl⟩, hW, hsame.mono (by decide) (by decide)⟩
    · show Steps p.tables e below (T49.setTop (mkF m 349 #[.val (.int (24 : Int32))] [(.ref w_ATTEMPTS_24)])) _
      jvm_step X49.here [X49.here.top, hx, (hb hby d1_349), X49.method', Bd.returns, Value.isRef, FieldType.isReference]
      first | (intro acts; rw [hr _ acts rfl rfl rfl]) | rw [hr _ _ rfl rfl rfl]
      exact Steps.refl _
    · show Q1 Z _ _ _ _ _ _ _ _ _ _ _ _ _ _ _ _ _ _ _ _ _ _ _ _ _ _ _ _ _ _ _ _ _ _ _ h0 n0 _ T49.heap _
      rw [e49]
      exact ⟨⟨_, rfl, Or.inr (Or.inr (Or.inr (Or.inr (Or.inr (Or.inr (Or.inr (Or.inr (Or.inr (Or.inr (Or.inr (Or.inr (Or.inr (Or.inr (Or.inr (Or.inr (Or.inr (Or.inr (Or.inr (Or.inr (Or.inr (Or.inr (Or.inr (Or.inr (Or.inl ⟨rfl, rfl⟩))))))))))))))))))))))))⟩, N0, rfl⟩
  · skip
    obtain ⟨T51, X51, e51, st51⟩ := getS2 X0 hx hZ hown (host := "") (Or.inl (hw _ (List.mem_of_getElem? (i := 67) rfl))) Via.refl e0 Sf_MEMBERS_26 (g := (mkF m 298 #[.val (.int (25 : Int32))] [])) rfl (hb hby d1_298)
    have pre52 : ∀ t, Steps p.tables e below (T51.setTop (mkF m 349 #[.val (.int (25 : Int32))] [(.ref w_MEMBERS_25)])) t → Steps p.tables e below (s₁.setTop (entryFrame m #[(.int (25 : Int32))] 1)) t := fun t kt => pre0 t (by
        show Steps p.tables e below (s₁.setTop (mkF m 0 #[.val (.int (25 : Int32))] [])) _
        refine XS.iloadN X0.here hx rfl (hb hby d1_0) rfl ?_
        show Steps p.tables e below (s₁.setTop (mkF m 1 #[.val (.int (25 : Int32))] [(.int (25 : Int32))])) _
        refine XS.tswIn X0.here hx rfl (pc0 := 1) (pc' := 298) rfl (hb hby d1_1) rfl (by decide) (o := 297) rfl (by decide) (by decide) ?_
        show Steps p.tables e below (s₁.setTop (mkF m 298 #[.val (.int (25 : Int32))] [])) _
        refine st51 _ ?_
        show Steps p.tables e below (T51.setTop (mkF m 301 #[.val (.int (25 : Int32))] [(.ref w_MEMBERS_25)])) _
        refine XS.goto X51.here hx rfl (pc0 := 301) (pc' := 349) rfl (hb hby d1_301) (by decide) (by decide) ?_
        exact kt)
    obtain ⟨fs, hr, hrun, hended, hW, hsame⟩ := X51.leave (v := some (.ref w_MEMBERS_25)) (fun h => by rw [Bd.returns] at h; cases h)
    refine ⟨_, _, pre52 _ ?_, hrun, hended, _, _, rfl, ?_, ⟨_, rfl⟩, hW, hsame.mono (by decide) (by decide)⟩
    · show Steps p.tables e below (T51.setTop (mkF m 349 #[.val (.int (25 : Int32))] [(.ref w_MEMBERS_25)])) _
      jvm_step X51.here [X51.here.top, hx, (hb hby d1_349), X51.method', Bd.returns, Value.isRef, FieldType.isReference]
      first | (intro acts; rw [hr _ acts rfl rfl rfl]) | rw [hr _ _ rfl rfl rfl]
      exact Steps.refl _
    · show Q1 Z _ _ _ _ _ _ _ _ _ _ _ _ _ _ _ _ _ _ _ _ _ _ _ _ _ _ _ _ _ _ _ _ _ _ _ h0 n0 _ T51.heap _
      rw [e51]
      exact ⟨⟨_, rfl, Or.inr (Or.inr (Or.inr (Or.inr (Or.inr (Or.inr (Or.inr (Or.inr (Or.inr (Or.inr (Or.inr (Or.inr (Or.inr (Or.inr (Or.inr (Or.inr (Or.inr (Or.inr (Or.inr (Or.inr (Or.inr (Or.inr (Or.inr (Or.inr (Or.inr (Or.inl ⟨rfl, rfl⟩)))))))))))))))))))))))))⟩, N0, rfl⟩
  · skip
    obtain ⟨T53, X53, e53, st53⟩ := getS2 X0 hx hZ hown (host := "") (Or.inl (hw _ (List.mem_of_getElem? (i := 79) rfl))) Via.refl e0 Sf_OP_27 (g := (mkF m 304 #[.val (.int (26 : Int32))] [])) rfl (hb hby d1_304)
    have pre54 : ∀ t, Steps p.tables e below (T53.setTop (mkF m 349 #[.val (.int (26 : Int32))] [(.ref w_OP_26)])) t → Steps p.tables e below (s₁.setTop (entryFrame m #[(.int (26 : Int32))] 1)) t := fun t kt => pre0 t (by
        show Steps p.tables e below (s₁.setTop (mkF m 0 #[.val (.int (26 : Int32))] [])) _
        refine XS.iloadN X0.here hx rfl (hb hby d1_0) rfl ?_
        show Steps p.tables e below (s₁.setTop (mkF m 1 #[.val (.int (26 : Int32))] [(.int (26 : Int32))])) _
        refine XS.tswIn X0.here hx rfl (pc0 := 1) (pc' := 304) rfl (hb hby d1_1) rfl (by decide) (o := 303) rfl (by decide) (by decide) ?_
        show Steps p.tables e below (s₁.setTop (mkF m 304 #[.val (.int (26 : Int32))] [])) _
        refine st53 _ ?_
        show Steps p.tables e below (T53.setTop (mkF m 307 #[.val (.int (26 : Int32))] [(.ref w_OP_26)])) _
        refine XS.goto X53.here hx rfl (pc0 := 307) (pc' := 349) rfl (hb hby d1_307) (by decide) (by decide) ?_
        exact kt)
    obtain ⟨fs, hr, hrun, hended, hW, hsame⟩ := X53.leave (v := some (.ref w_OP_26)) (fun h => by rw [Bd.returns] at h; cases h)
    refine ⟨_, _, pre54 _ ?_, hrun, hended, _, _, rfl, ?_, ⟨_, rfl⟩, hW, hsame.mono (by decide) (by decide)⟩
    · show Steps p.tables e below (T53.setTop (mkF m 349 #[.val (.int (26 : Int32))] [(.ref w_OP_26)])) _
      jvm_step X53.here [X53.here.top, hx, (hb hby d1_349), X53.method', Bd.returns, Value.isRef, FieldType.isReference]
      first | (intro acts; rw [hr _ acts rfl rfl rfl]) | rw [hr _ _ rfl rfl rfl]
      exact Steps.refl _
    · show Q1 Z _ _ _ _ _ _ _ _ _ _ _ _ _ _ _ _ _ _ _ _ _ _ _ _ _ _ _ _ _ _ _ _ _ _ _ h0 n0 _ T53.heap _
      rw [e53]
      exact ⟨⟨_, rfl, Or.inr (Or.inr (Or.inr (Or.inr (Or.inr (Or.inr (Or.inr (Or.inr (Or.inr (Or.inr (Or.inr (Or.inr (Or.inr (Or.inr (Or.inr (Or.inr (Or.inr (Or.inr (Or.inr (Or.inr (Or.inr (Or.inr (Or.inr (Or.inr (Or.inr (Or.inr (Or.inl ⟨rfl, rfl⟩))))))))))))))))))))))))))⟩, N0, rfl⟩
  · skip
    obtain ⟨T55, X55, e55, st55⟩ := getS2 X0 hx hZ hown (host := "") (Or.inl (hw _ (List.mem_of_getElem? (i := 71) rfl))) Via.refl e0 Sf_SKIP_28 (g := (mkF m 310 #[.val (.int (27 : Int32))] [])) rfl (hb hby d1_310)
    have pre56 : ∀ t, Steps p.tables e below (T55.setTop (mkF m 349 #[.val (.int (27 : Int32))] [(.ref w_SKIP_27)])) t → Steps p.tables e below (s₁.setTop (entryFrame m #[(.int (27 : Int32))] 1)) t := fun t kt => pre0 t (by
        show Steps p.tables e below (s₁.setTop (mkF m 0 #[.val (.int (27 : Int32))] [])) _
        refine XS.iloadN X0.here hx rfl (hb hby d1_0) rfl ?_
        show Steps p.tables e below (s₁.setTop (mkF m 1 #[.val (.int (27 : Int32))] [(.int (27 : Int32))])) _
        refine XS.tswIn X0.here hx rfl (pc0 := 1) (pc' := 310) rfl (hb hby d1_1) rfl (by decide) (o := 309) rfl (by decide) (by decide) ?_
        show Steps p.tables e below (s₁.setTop (mkF m 310 #[.val (.int (27 : Int32))] [])) _
        refine st55 _ ?_
        show Steps p.tables e below (T55.setTop (mkF m 313 #[.val (.int (27 : Int32))] [(.ref w_SKIP_27)])) _
        refine XS.goto X55.here hx rfl (pc0 := 313) (pc' := 349) rfl (hb hby d1_313) (by decide) (by decide) ?_
        exact kt)
    obtain ⟨fs, hr, hrun, hended, hW, hsame⟩ := X55.leave (v := some (.ref w_SKIP_27)) (fun h => by rw [Bd.returns] at h; cases h)
    refine ⟨_, _, pre56 _ ?_, hrun, hended, _, _, rfl, ?_, ⟨_, rfl⟩, hW, hsame.mono (by decide) (by decide)⟩
    · show Steps p.tables e below (T55.setTop (mkF m 349 #[.val (.int (27 : Int32))] [(.ref w_SKIP_27)])) _
      jvm_step X55.here [X55.here.top, hx, (hb hby d1_349), X55.method', Bd.returns, Value.isRef, FieldType.isReference]
      first | (intro acts; rw [hr _ acts rfl rfl rfl]) | rw [hr _ _ rfl rfl rfl]
      exact Steps.refl _
    · show Q1 Z _ _ _ _ _ _ _ _ _ _ _ _ _ _ _ _ _ _ _ _ _ _ _ _ _ _ _ _ _ _ _ _ _ _ _ h0 n0 _ T55.heap _
      rw [e55]
      exact ⟨⟨_, rfl, Or.inr (Or.inr (Or.inr (Or.inr (Or.inr (Or.inr (Or.inr (Or.inr (Or.inr (Or.inr (Or.inr (Or.inr (Or.inr (Or.inr (Or.inr (Or.inr (Or.inr (Or.inr (Or.inr (Or.inr (Or.inr (Or.inr (Or.inr (Or.inr (Or.inr (Or.inr (Or.inr (Or.inl ⟨rfl, rfl⟩)))))))))))))))))))))))))))⟩, N0, rfl⟩
  · skip
    obtain ⟨T57, X57, e57, st57⟩ := getS2 X0 hx hZ hown (host := "") (Or.inl (hw _ (List.mem_of_getElem? (i := 45) rfl))) Via.refl e0 Sf_DURATION_29 (g := (mkF m 316 #[.val (.int (28 : Int32))] [])) rfl (hb hby d1_316)
    have pre58 : ∀ t, Steps p.tables e below (T57.setTop (mkF m 349 #[.val (.int (28 : Int32))] [(.ref w_DURATION_28)])) t → Steps p.tables e below (s₁.setTop (entryFrame m #[(.int (28 : Int32))] 1)) t := fun t kt => pre0 t (by
        show Steps p.tables e below (s₁.setTop (mkF m 0 #[.val (.int (28 : Int32))] [])) _
        refine XS.iloadN X0.here hx rfl (hb hby d1_0) rfl ?_
        show Steps p.tables e below (s₁.setTop (mkF m 1 #[.val (.int (28 : Int32))] [(.int (28 : Int32))])) _
        refine XS.tswIn X0.here hx rfl (pc0 := 1) (pc' := 316) rfl (hb hby d1_1) rfl (by decide) (o := 315) rfl (by decide) (by decide) ?_
        show Steps p.tables e below (s₁.setTop (mkF m 316 #[.val (.int (28 : Int32))] [])) _
        refine st57 _ ?_
        show Steps p.tables e below (T57.setTop (mkF m 319 #[.val (.int (28 : Int32))] [(.ref w_DURATION_28)])) _
        refine XS.goto X57.here hx rfl (pc0 := 319) (pc' := 349) rfl (hb hby d1_319) (by decide) (by decide) ?_
        exact kt)
    obtain ⟨fs, hr, hrun, hended, hW, hsame⟩ := X57.leave (v := some (.ref w_DURATION_28)) (fun h => by rw [Bd.returns] at h; cases h)
    refine ⟨_, _, pre58 _ ?_, hrun, hended, _, _, rfl, ?_, ⟨_, rfl⟩, hW, hsame.mono (by decide) (by decide)⟩
    · show Steps p.tables e below (T57.setTop (mkF m 349 #[.val (.int (28 : Int32))] [(.ref w_DURATION_28)])) _
      jvm_step X57.here [X57.here.top, hx, (hb hby d1_349), X57.method', Bd.returns, Value.isRef, FieldType.isReference]
      first | (intro acts; rw [hr _ acts rfl rfl rfl]) | rw [hr _ _ rfl rfl rfl]
      exact Steps.refl _
    · show Q1 Z _ _ _ _ _ _ _ _ _ _ _ _ _ _ _ _ _ _ _ _ _ _ _ _ _ _ _ _ _ _ _ _ _ _ _ h0 n0 _ T57.heap _
      rw [e57]
      exact ⟨⟨_, rfl, Or.inr (Or.inr (Or.inr (Or.inr (Or.inr (Or.inr (Or.inr (Or.inr (Or.inr (Or.inr (Or.inr (Or.inr (Or.inr (Or.inr (Or.inr (Or.inr (Or.inr (Or.inr (Or.inr (Or.inr (Or.inr (Or.inr (Or.inr (Or.inr (Or.inr (Or.inr (Or.inr (Or.inr (Or.inl ⟨rfl, rfl⟩))))))))))))))))))))))))))))⟩, N0, rfl⟩
  · skip
    obtain ⟨T59, X59, e59, st59⟩ := getS2 X0 hx hZ hown (host := "") (Or.inl (hw _ (List.mem_of_getElem? (i := 77) rfl))) Via.refl e0 Sf_LOSS_EVERY_30 (g := (mkF m 322 #[.val (.int (29 : Int32))] [])) rfl (hb hby d1_322)
    have pre60 : ∀ t, Steps p.tables e below (T59.setTop (mkF m 349 #[.val (.int (29 : Int32))] [(.ref w_LOSS_EVERY_29)])) t → Steps p.tables e below (s₁.setTop (entryFrame m #[(.int (29 : Int32))] 1)) t := fun t kt => pre0 t (by
        show Steps p.tables e below (s₁.setTop (mkF m 0 #[.val (.int (29 : Int32))] [])) _
        refine XS.iloadN X0.here hx rfl (hb hby d1_0) rfl ?_
        show Steps p.tables e below (s₁.setTop (mkF m 1 #[.val (.int (29 : Int32))] [(.int (29 : Int32))])) _
        refine XS.tswIn X0.here hx rfl (pc0 := 1) (pc' := 322) rfl (hb hby d1_1) rfl (by decide) (o := 321) rfl (by decide) (by decide) ?_
        show Steps p.tables e below (s₁.setTop (mkF m 322 #[.val (.int (29 : Int32))] [])) _
        refine st59 _ ?_
        show Steps p.tables e below (T59.setTop (mkF m 325 #[.val (.int (29 : Int32))] [(.ref w_LOSS_EVERY_29)])) _
        refine XS.goto X59.here hx rfl (pc0 := 325) (pc' := 349) rfl (hb hby d1_325) (by decide) (by decide) ?_
        exact kt)
    obtain ⟨fs, hr, hrun, hended, hW, hsame⟩ := X59.leave (v := some (.ref w_LOSS_EVERY_29)) (fun h => by rw [Bd.returns] at h; cases h)
    refine ⟨_, _, pre60 _ ?_, hrun, hended, _, _, rfl, ?_, ⟨_, rfl⟩, hW, hsame.mono (by decide) (by decide)⟩
    · show Steps p.tables e below (T59.setTop (mkF m 349 #[.val (.int (29 : Int32))] [(.ref w_LOSS_EVERY_29)])) _
      jvm_step X59.here [X59.here.top, hx, (hb hby d1_349), X59.method', Bd.returns, Value.isRef, FieldType.isReference]
      first | (intro acts; rw [hr _ acts rfl rfl rfl]) | rw [hr _ _ rfl rfl rfl]
      exact Steps.refl _
    · show Q1 Z _ _ _ _ _ _ _ _ _ _ _ _ _ _ _ _ _ _ _ _ _ _ _ _ _ _ _ _ _ _ _ _ _ _ _ h0 n0 _ T59.heap _
      rw [e59]
      exact ⟨⟨_, rfl, Or.inr (Or.inr (Or.inr (Or.inr (Or.inr (Or.inr (Or.inr (Or.inr (Or.inr (Or.inr (Or.inr (Or.inr (Or.inr (Or.inr (Or.inr (Or.inr (Or.inr (Or.inr (Or.inr (Or.inr (Or.inr (Or.inr (Or.inr (Or.inr (Or.inr (Or.inr (Or.inr (Or.inr (Or.inr (Or.inl ⟨rfl, rfl⟩)))))))))))))))))))))))))))))⟩, N0, rfl⟩
  · skip
    obtain ⟨T61, X61, e61, st61⟩ := getS2 X0 hx hZ hown (host := "") (Or.inl (hw _ (List.mem_of_getElem? (i := 69) rfl))) Via.refl e0 Sf_UNCOORDINATED_31 (g := (mkF m 328 #[.val (.int (30 : Int32))] [])) rfl (hb hby d1_328)
    have pre62 : ∀ t, Steps p.tables e below (T61.setTop (mkF m 349 #[.val (.int (30 : Int32))] [(.ref w_UNCOORDINATED_30)])) t → Steps p.tables e below (s₁.setTop (entryFrame m #[(.int (30 : Int32))] 1)) t := fun t kt => pre0 t (by
        show Steps p.tables e below (s₁.setTop (mkF m 0 #[.val (.int (30 : Int32))] [])) _
        refine XS.iloadN X0.here hx rfl (hb hby d1_0) rfl ?_
        show Steps p.tables e below (s₁.setTop (mkF m 1 #[.val (.int (30 : Int32))] [(.int (30 : Int32))])) _
        refine XS.tswIn X0.here hx rfl (pc0 := 1) (pc' := 328) rfl (hb hby d1_1) rfl (by decide) (o := 327) rfl (by decide) (by decide) ?_
        show Steps p.tables e below (s₁.setTop (mkF m 328 #[.val (.int (30 : Int32))] [])) _
        refine st61 _ ?_
        show Steps p.tables e below (T61.setTop (mkF m 331 #[.val (.int (30 : Int32))] [(.ref w_UNCOORDINATED_30)])) _
        refine XS.goto X61.here hx rfl (pc0 := 331) (pc' := 349) rfl (hb hby d1_331) (by decide) (by decide) ?_
        exact kt)
    obtain ⟨fs, hr, hrun, hended, hW, hsame⟩ := X61.leave (v := some (.ref w_UNCOORDINATED_30)) (fun h => by rw [Bd.returns] at h; cases h)
    refine ⟨_, _, pre62 _ ?_, hrun, hended, _, _, rfl, ?_, ⟨_, rfl⟩, hW, hsame.mono (by decide) (by decide)⟩
    · show Steps p.tables e below (T61.setTop (mkF m 349 #[.val (.int (30 : Int32))] [(.ref w_UNCOORDINATED_30)])) _
      jvm_step X61.here [X61.here.top, hx, (hb hby d1_349), X61.method', Bd.returns, Value.isRef, FieldType.isReference]
      first | (intro acts; rw [hr _ acts rfl rfl rfl]) | rw [hr _ _ rfl rfl rfl]
      exact Steps.refl _
    · show Q1 Z _ _ _ _ _ _ _ _ _ _ _ _ _ _ _ _ _ _ _ _ _ _ _ _ _ _ _ _ _ _ _ _ _ _ _ h0 n0 _ T61.heap _
      rw [e61]
      exact ⟨⟨_, rfl, Or.inr (Or.inr (Or.inr (Or.inr (Or.inr (Or.inr (Or.inr (Or.inr (Or.inr (Or.inr (Or.inr (Or.inr (Or.inr (Or.inr (Or.inr (Or.inr (Or.inr (Or.inr (Or.inr (Or.inr (Or.inr (Or.inr (Or.inr (Or.inr (Or.inr (Or.inr (Or.inr (Or.inr (Or.inr (Or.inr (Or.inl ⟨rfl, rfl⟩))))))))))))))))))))))))))))))⟩, N0, rfl⟩
  · skip
    obtain ⟨T63, X63, e63, st63⟩ := getS2 X0 hx hZ hown (host := "") (Or.inl (hw _ (List.mem_of_getElem? (i := 75) rfl))) Via.refl e0 Sf_INTERVAL_32 (g := (mkF m 334 #[.val (.int (31 : Int32))] [])) rfl (hb hby d1_334)
    have pre64 : ∀ t, Steps p.tables e below (T63.setTop (mkF m 349 #[.val (.int (31 : Int32))] [(.ref w_INTERVAL_31)])) t → Steps p.tables e below (s₁.setTop (entryFrame m #[(.int (31 : Int32))] 1)) t := fun t kt => pre0 t (by
        show Steps p.tables e below (s₁.setTop (mkF m 0 #[.val (.int (31 : Int32))] [])) _
        refine XS.iloadN X0.here hx rfl (hb hby d1_0) rfl ?_
        show Steps p.tables e below (s₁.setTop (mkF m 1 #[.val (.int (31 : Int32))] [(.int (31 : Int32))])) _
        refine XS.tswIn X0.here hx rfl (pc0 := 1) (pc' := 334) rfl (hb hby d1_1) rfl (by decide) (o := 333) rfl (by decide) (by decide) ?_
        show Steps p.tables e below (s₁.setTop (mkF m 334 #[.val (.int (31 : Int32))] [])) _
        refine st63 _ ?_
        show Steps p.tables e below (T63.setTop (mkF m 337 #[.val (.int (31 : Int32))] [(.ref w_INTERVAL_31)])) _
        refine XS.goto X63.here hx rfl (pc0 := 337) (pc' := 349) rfl (hb hby d1_337) (by decide) (by decide) ?_
        exact kt)
    obtain ⟨fs, hr, hrun, hended, hW, hsame⟩ := X63.leave (v := some (.ref w_INTERVAL_31)) (fun h => by rw [Bd.returns] at h; cases h)
    refine ⟨_, _, pre64 _ ?_, hrun, hended, _, _, rfl, ?_, ⟨_, rfl⟩, hW, hsame.mono (by decide) (by decide)⟩
    · show Steps p.tables e below (T63.setTop (mkF m 349 #[.val (.int (31 : Int32))] [(.ref w_INTERVAL_31)])) _
      jvm_step X63.here [X63.here.top, hx, (hb hby d1_349), X63.method', Bd.returns, Value.isRef, FieldType.isReference]
      first | (intro acts; rw [hr _ acts rfl rfl rfl]) | rw [hr _ _ rfl rfl rfl]
      exact Steps.refl _
    · show Q1 Z _ _ _ _ _ _ _ _ _ _ _ _ _ _ _ _ _ _ _ _ _ _ _ _ _ _ _ _ _ _ _ _ _ _ _ h0 n0 _ T63.heap _
      rw [e63]
      exact ⟨⟨_, rfl, Or.inr (Or.inr (Or.inr (Or.inr (Or.inr (Or.inr (Or.inr (Or.inr (Or.inr (Or.inr (Or.inr (Or.inr (Or.inr (Or.inr (Or.inr (Or.inr (Or.inr (Or.inr (Or.inr (Or.inr (Or.inr (Or.inr (Or.inr (Or.inr (Or.inr (Or.inr (Or.inr (Or.inr (Or.inr (Or.inr (Or.inr (Or.inl ⟨rfl, rfl⟩)))))))))))))))))))))))))))))))⟩, N0, rfl⟩
  · skip
    obtain ⟨T65, X65, e65, st65⟩ := getS2 X0 hx hZ hown (host := "") (Or.inl (hw _ (List.mem_of_getElem? (i := 43) rfl))) Via.refl e0 Sf_JITTER_33 (g := (mkF m 340 #[.val (.int (32 : Int32))] [])) rfl (hb hby d1_340)
    have pre66 : ∀ t, Steps p.tables e below (T65.setTop (mkF m 349 #[.val (.int (32 : Int32))] [(.ref w_JITTER_32)])) t → Steps p.tables e below (s₁.setTop (entryFrame m #[(.int (32 : Int32))] 1)) t := fun t kt => pre0 t (by
        show Steps p.tables e below (s₁.setTop (mkF m 0 #[.val (.int (32 : Int32))] [])) _
        refine XS.iloadN X0.here hx rfl (hb hby d1_0) rfl ?_
        show Steps p.tables e below (s₁.setTop (mkF m 1 #[.val (.int (32 : Int32))] [(.int (32 : Int32))])) _
        refine XS.tswIn X0.here hx rfl (pc0 := 1) (pc' := 340) rfl (hb hby d1_1) rfl (by decide) (o := 339) rfl (by decide) (by decide) ?_
        show Steps p.tables e below (s₁.setTop (mkF m 340 #[.val (.int (32 : Int32))] [])) _
        refine st65 _ ?_
        show Steps p.tables e below (T65.setTop (mkF m 343 #[.val (.int (32 : Int32))] [(.ref w_JITTER_32)])) _
        refine XS.goto X65.here hx rfl (pc0 := 343) (pc' := 349) rfl (hb hby d1_343) (by decide) (by decide) ?_
        exact kt)
    obtain ⟨fs, hr, hrun, hended, hW, hsame⟩ := X65.leave (v := some (.ref w_JITTER_32)) (fun h => by rw [Bd.returns] at h; cases h)
    refine ⟨_, _, pre66 _ ?_, hrun, hended, _, _, rfl, ?_, ⟨_, rfl⟩, hW, hsame.mono (by decide) (by decide)⟩
    · show Steps p.tables e below (T65.setTop (mkF m 349 #[.val (.int (32 : Int32))] [(.ref w_JITTER_32)])) _
      jvm_step X65.here [X65.here.top, hx, (hb hby d1_349), X65.method', Bd.returns, Value.isRef, FieldType.isReference]
      first | (intro acts; rw [hr _ acts rfl rfl rfl]) | rw [hr _ _ rfl rfl rfl]
      exact Steps.refl _
    · show Q1 Z _ _ _ _ _ _ _ _ _ _ _ _ _ _ _ _ _ _ _ _ _ _ _ _ _ _ _ _ _ _ _ _ _ _ _ h0 n0 _ T65.heap _
      rw [e65]
      exact ⟨⟨_, rfl, Or.inr (Or.inr (Or.inr (Or.inr (Or.inr (Or.inr (Or.inr (Or.inr (Or.inr (Or.inr (Or.inr (Or.inr (Or.inr (Or.inr (Or.inr (Or.inr (Or.inr (Or.inr (Or.inr (Or.inr (Or.inr (Or.inr (Or.inr (Or.inr (Or.inr (Or.inr (Or.inr (Or.inr (Or.inr (Or.inr (Or.inr (Or.inr (Or.inl ⟨rfl, rfl⟩))))))))))))))))))))))))))))))))⟩, N0, rfl⟩
  · skip
    obtain ⟨T67, X67, e67, st67⟩ := getS2 X0 hx hZ hown (host := "") (Or.inl (hw _ (List.mem_of_getElem? (i := 63) rfl))) Via.refl e0 Sf_HANDOFFS_34 (g := (mkF m 346 #[.val (.int (33 : Int32))] [])) rfl (hb hby d1_346)
    have pre68 : ∀ t, Steps p.tables e below (T67.setTop (mkF m 349 #[.val (.int (33 : Int32))] [(.ref w_HANDOFFS_33)])) t → Steps p.tables e below (s₁.setTop (entryFrame m #[(.int (33 : Int32))] 1)) t := fun t kt => pre0 t (by
        show Steps p.tables e below (s₁.setTop (mkF m 0 #[.val (.int (33 : Int32))] [])) _
        refine XS.iloadN X0.here hx rfl (hb hby d1_0) rfl ?_
        show Steps p.tables e below (s₁.setTop (mkF m 1 #[.val (.int (33 : Int32))] [(.int (33 : Int32))])) _
        refine XS.tswOut X0.here hx rfl (pc0 := 1) (pc' := 346) rfl (hb hby d1_1) rfl (by decide) (by decide) (by decide) ?_
        show Steps p.tables e below (s₁.setTop (mkF m 346 #[.val (.int (33 : Int32))] [])) _
        refine st67 _ ?_
        exact kt)
    obtain ⟨fs, hr, hrun, hended, hW, hsame⟩ := X67.leave (v := some (.ref w_HANDOFFS_33)) (fun h => by rw [Bd.returns] at h; cases h)
    refine ⟨_, _, pre68 _ ?_, hrun, hended, _, _, rfl, ?_, ⟨_, rfl⟩, hW, hsame.mono (by decide) (by decide)⟩
    · show Steps p.tables e below (T67.setTop (mkF m 349 #[.val (.int (33 : Int32))] [(.ref w_HANDOFFS_33)])) _
      jvm_step X67.here [X67.here.top, hx, (hb hby d1_349), X67.method', Bd.returns, Value.isRef, FieldType.isReference]
      first | (intro acts; rw [hr _ acts rfl rfl rfl]) | rw [hr _ _ rfl rfl rfl]
      exact Steps.refl _
    · show Q1 Z _ _ _ _ _ _ _ _ _ _ _ _ _ _ _ _ _ _ _ _ _ _ _ _ _ _ _ _ _ _ _ _ _ _ _ h0 n0 _ T67.heap _
      rw [e67]
      exact ⟨⟨_, rfl, Or.inr (Or.inr (Or.inr (Or.inr (Or.inr (Or.inr (Or.inr (Or.inr (Or.inr (Or.inr (Or.inr (Or.inr (Or.inr (Or.inr (Or.inr (Or.inr (Or.inr (Or.inr (Or.inr (Or.inr (Or.inr (Or.inr (Or.inr (Or.inr (Or.inr (Or.inr (Or.inr (Or.inr (Or.inr (Or.inr (Or.inr (Or.inr (Or.inr (⟨rfl, rfl⟩)))))))))))))))))))))))))))))))))⟩, N0, rfl⟩
theorem pn_1 : plainName "com/example/token_handoff/tokenhandoff/cli/Option" = true := by first | (simp [plainName, overriddenIn]; done) | decide +kernel
theorem d2_0 : decode prog_34_method_6_code 0 = .ok (.aload_n 0, 1) := by decide +kernel
theorem d2_1 : decode prog_34_method_6_code 1 = .ok (.getfield 129, 3) := by decide +kernel
theorem d2_4 : decode prog_34_method_6_code 4 = .ok (.ifnull 7, 3) := by decide +kernel
theorem d2_7 : decode prog_34_method_6_code 7 = .ok (.iconst 1, 1) := by decide +kernel
theorem d2_8 : decode prog_34_method_6_code 8 = .ok (.goto 4, 3) := by decide +kernel
theorem d2_11 : decode prog_34_method_6_code 11 = .ok (.iconst 0, 1) := by decide +kernel
theorem d2_12 : decode prog_34_method_6_code 12 = .ok (.ireturn, 1) := by decide +kernel
theorem ef_2 (m : MethodId) (x0 : Addr)  : entryFrame m #[(.ref x0)] 1 = mkF m 0 #[.val (.ref x0)] [] := by first | (simp [entryFrame, mkF, argsToLocals, Value.category]; done) | rfl
def Q2 (Z : State) (a0 : Addr) (u_value_0 : Value) (h0 : Heap) (n0 : Nat) (v : Option Value) (h : Heap) (L : List Loc) : Prop := (∃ r : Int32, v = some (.int r) ∧ ((u_value_0 = .null → (0 : Int32) = r) ∧ (¬ u_value_0 = .null → (1 : Int32) = r))) ∧ Fr n0 L ∧ h = h0
set_option maxRecDepth 65536 in
set_option maxHeartbeats 40000000 in
theorem rm2 (l : Launch) (Z : State) (aw : Array Value) (hw : ∀ d ∈ tables_1, d.before aw Z = true) (ws : List Jvm.Cond) (a0 : Addr) (u_value_0 : Value) (h0 : Heap) (n0 : Nat) (Z0 : n0 ≤ h0.size) (hu_u_value_0 : u_value_0.isRef = true) (Ff_value_1 : Fld Z h0 a0 "com/example/token_handoff/tokenhandoff/cli/Option" "value" "Ljava/lang/String;" u_value_0) :
    MetFree l (⟨"com/example/token_handoff/tokenhandoff/cli/Option", "takesValue", "()Z"⟩ : MethodName) (head1 (Jvm.Cond.code (⟨"com/example/token_handoff/tokenhandoff/cli/Option", "takesValue", "()Z"⟩ : MethodName) prog_34_method_6_code 1 (some .boolean) :: ws) ({ frames := 0, cells := 0, slots := 0, locals := 0 } : Room)) (fun a U => a = #[(.ref a0)] ∧ Z.Warmed39 U.vm ∧ U.heap = h0) (fun _ _ _ _ _ => True) (fun _ U o U' => ∃ v L, o = .returned v ∧ Q2 Z a0 u_value_0 h0 n0 v U'.heap L ∧ FrameEnd U o U' L ({ frames := 0, cells := 0, slots := 0, locals := 0 } : Room).cells ({ frames := 0, cells := 0, slots := 0, locals := 0 } : Room).slots) := by
  refine MetFree.of_bodySF (plainFor_of_name pn_1) hisR ?_
  intro p e s m args below meth c s₁ Bd hml0 hP hK
  obtain ⟨rfl, hZ, hh⟩ := hP
  have hx := Bd.exec
  have hby := Bd.bytes
  have hml : c.maxLocals = 1 := hml0
  have hown : s.vm.findClass "com/example/token_handoff/tokenhandoff/cli/Option" = some m.cls := findClass_of_methodNamed Bd.named
  have hnm := (name_of_methodNamed Bd.named Bd.method).1
  have X0 : Stand p l e ({ frames := 0, cells := 0, slots := 0, locals := 0 } : Room) s m #[(.ref a0)] below meth c s₁ [] 0 0 := Stand.of_body Bd
  have e0 : s₁.heap = h0 := by rw [← hh, Bd.state]; rfl
  have N0 := Fr.nil n0
  have pre0 : ∀ t, Steps p.tables e below (s₁.setTop (mkF m 0 #[.val (.ref a0)] [])) t → Steps p.tables e below (s₁.setTop (entryFrame m #[(.ref a0)] 1)) t := fun t k => castTop (ef_2 m a0 ) k
  obtain ⟨T1, X1, e1, st1⟩ := getF X0 hx hZ hown (host := "") (Or.inl (hw _ (List.mem_of_getElem? (i := 13) rfl))) Via.refl e0 Ff_value_1 (g := (mkF m 1 #[.val (.ref a0)] [(.ref a0)])) rfl rfl (hb hby d2_1)
  have pre2 : ∀ t, Steps p.tables e below (T1.setTop (mkF m 4 #[.val (.ref a0)] [u_value_0])) t → Steps p.tables e below (s₁.setTop (entryFrame m #[(.ref a0)] 1)) t := fun t kt => pre0 t (by
      show Steps p.tables e below (s₁.setTop (mkF m 0 #[.val (.ref a0)] [])) _
      refine XS.aloadN X0.here hx rfl (hb hby d2_0) rfl rfl ?_
      show Steps p.tables e below (s₁.setTop (mkF m 1 #[.val (.ref a0)] [(.ref a0)])) _
      refine st1 _ ?_
      exact kt)
  rcases ref_cases hu_u_value_0 with rfl | ⟨u3, rfl⟩
  · skip
    have pre4 : ∀ t, Steps p.tables e below (T1.setTop (mkF m 12 #[.val (.ref a0)] [(.int (0 : Int32))])) t → Steps p.tables e below (s₁.setTop (entryFrame m #[(.ref a0)] 1)) t := fun t kt => pre2 t (by
        show Steps p.tables e below (T1.setTop (mkF m 4 #[.val (.ref a0)] [.null])) _
        refine XS.ifnullYes X1.here hx rfl (pc0 := 4) (pc' := 11) rfl (hb hby d2_4) rfl (by decide) (by decide) ?_
        show Steps p.tables e below (T1.setTop (mkF m 11 #[.val (.ref a0)] [])) _
        refine XS.iconst X1.here hx rfl (hb hby d2_11) ?_
        exact kt)
    obtain ⟨fs, hr, hrun, hended, hW, hsame⟩ := X1.leave (v := some (.int (0 : Int32))) (fun h => by rw [Bd.returns] at h; cases h)
    refine ⟨_, _, pre4 _ ?_, hrun, hended, _, _, rfl, ?_, ⟨_, rfl⟩, hW, hsame.mono (by decide) (by decide)⟩
    · show Steps p.tables e below (T1.setTop (mkF m 12 #[.val (.ref a0)] [(.int (0 : Int32))])) _
      exact retN X1 hx (t := .boolean) Bd.returns (by simp) (hb hby d2_12) hr
    · show Q2 Z _ _ h0 n0 _ T1.heap _
      rw [e1]
      exact ⟨⟨_, rfl, by simp⟩, N0, rfl⟩
  · skip
    have pre5 : ∀ t, Steps p.tables e below (T1.setTop (mkF m 12 #[.val (.ref a0)] [(.int (1 : Int32))])) t → Steps p.tables e below (s₁.setTop (entryFrame m #[(.ref a0)] 1)) t := fun t kt => pre2 t (by
        show Steps p.tables e below (T1.setTop (mkF m 4 #[.val (.ref a0)] [(.ref u3)])) _
        refine XS.ifnullNo X1.here hx rfl (hb hby d2_4) rfl ?_
        show Steps p.tables e below (T1.setTop (mkF m 7 #[.val (.ref a0)] [])) _
        refine XS.iconst X1.here hx rfl (hb hby d2_7) ?_
        show Steps p.tables e below (T1.setTop (mkF m 8 #[.val (.ref a0)] [(.int (1 : Int32))])) _
        refine XS.goto X1.here hx rfl (pc0 := 8) (pc' := 12) rfl (hb hby d2_8) (by decide) (by decide) ?_
        exact kt)
    obtain ⟨fs, hr, hrun, hended, hW, hsame⟩ := X1.leave (v := some (.int (1 : Int32))) (fun h => by rw [Bd.returns] at h; cases h)
    refine ⟨_, _, pre5 _ ?_, hrun, hended, _, _, rfl, ?_, ⟨_, rfl⟩, hW, hsame.mono (by decide) (by decide)⟩
    · show Steps p.tables e below (T1.setTop (mkF m 12 #[.val (.ref a0)] [(.int (1 : Int32))])) _
      exact retN X1 hx (t := .boolean) Bd.returns (by simp) (hb hby d2_12) hr
    · show Q2 Z _ _ h0 n0 _ T1.heap _
      rw [e1]
      exact ⟨⟨_, rfl, by simp⟩, N0, rfl⟩
theorem pd_0 : parseMethodDescriptor "(I)Lcom/example/token_handoff/tokenhandoff/cli/Option;" = some ⟨[.int], some (.object "com/example/token_handoff/tokenhandoff/cli/Option")⟩ := by decide +kernel
theorem pd_1 : parseMethodDescriptor "()Z" = some ⟨[], some .boolean⟩ := by decide +kernel
theorem ef_0 (m : MethodId) (x0 : Int32)  : entryFrame m #[(.int x0)] maxLocals = mkF m 0 #[.val (.int x0), .unset, .unset, .unset] [] := by first | (simp [entryFrame, mkF, argsToLocals, Value.category, maxLocals]; done) | rfl
def Q0 (Z : State) (p0 : Int32) (w_KEY_1 : Addr) (w_value_3 : Addr) (w_KNOWN_5 : Addr) (w_COMMIT_RETRIES_7 : Addr) (w_value_9 : Addr) (w_SATURATION_11 : Addr) (w_DROP_13 : Addr) (w_value_15 : Addr) (w_MOVE_RETRIES_17 : Addr) (w_ACK_RETRIES_19 : Addr) (w_CA_21 : Addr) (w_SEED_23 : Addr) (w_value_25 : Addr) (w_CERT_27 : Addr) (w_PEER_29 : Addr) (w_value_31 : Addr) (w_OP_MS_33 : Addr) (w_LISTEN_35 : Addr) (w_DELAY_MS_37 : Addr) (w_CIRCULATE_39 : Addr) (w_JITTER_41 : Addr) (w_value_43 : Addr) (w_DURATION_45 : Addr) (w_SKIP_MS_47 : Addr) (w_PASS_ON_49 : Addr) (w_ATTEMPTS_51 : Addr) (w_TO_53 : Addr) (w_STOP_AT_55 : Addr) (w_TIMEOUT_MS_57 : Addr) (w_CANDIDATES_59 : Addr) (w_value_61 : Addr) (w_TRACE_63 : Addr) (w_HANDOFFS_65 : Addr) (w_RUN_67 : Addr) (w_value_69 : Addr) (w_MEMBERS_71 : Addr) (w_value_73 : Addr) (w_UNCOORDINATED_75 : Addr) (w_SKIP_77 : Addr) (w_REGENERATE_79 : Addr) (w_value_81 : Addr) (w_INTERVAL_83 : Addr) (w_LOSS_EVERY_85 : Addr) (w_OP_87 : Addr) (h0 : Heap) (n0 : Nat) (v : Option Value) (h : Heap) (L : List Loc) : Prop := v = some (.int (1 : Int32)) ∧ Fr n0 L ∧ h = h0
set_option maxRecDepth 65536 in
set_option maxHeartbeats 40000000 in
theorem rm0 (l : Launch) (Z : State) (aw : Array Value) (hw : ∀ d ∈ tables_1, d.before aw Z = true) (ws : List Jvm.Cond) (p0 : Int32) (w_KEY_1 : Addr) (w_value_3 : Addr) (w_KNOWN_5 : Addr) (w_COMMIT_RETRIES_7 : Addr) (w_value_9 : Addr) (w_SATURATION_11 : Addr) (w_DROP_13 : Addr) (w_value_15 : Addr) (w_MOVE_RETRIES_17 : Addr) (w_ACK_RETRIES_19 : Addr) (w_CA_21 : Addr) (w_SEED_23 : Addr) (w_value_25 : Addr) (w_CERT_27 : Addr) (w_PEER_29 : Addr) (w_value_31 : Addr) (w_OP_MS_33 : Addr) (w_LISTEN_35 : Addr) (w_DELAY_MS_37 : Addr) (w_CIRCULATE_39 : Addr) (w_JITTER_41 : Addr) (w_value_43 : Addr) (w_DURATION_45 : Addr) (w_SKIP_MS_47 : Addr) (w_PASS_ON_49 : Addr) (w_ATTEMPTS_51 : Addr) (w_TO_53 : Addr) (w_STOP_AT_55 : Addr) (w_TIMEOUT_MS_57 : Addr) (w_CANDIDATES_59 : Addr) (w_value_61 : Addr) (w_TRACE_63 : Addr) (w_HANDOFFS_65 : Addr) (w_RUN_67 : Addr) (w_value_69 : Addr) (w_MEMBERS_71 : Addr) (w_value_73 : Addr) (w_UNCOORDINATED_75 : Addr) (w_SKIP_77 : Addr) (w_REGENERATE_79 : Addr) (w_value_81 : Addr) (w_INTERVAL_83 : Addr) (w_LOSS_EVERY_85 : Addr) (w_OP_87 : Addr) (h0 : Heap) (n0 : Nat) (Z0 : n0 ≤ h0.size) (S_KEY_0 : Sta Z h0 "com/example/token_handoff/tokenhandoff/cli/Option" "KEY" "Lcom/example/token_handoff/tokenhandoff/cli/Option;" (.ref w_KEY_1)) (E_1 : Exa Z h0 w_KEY_1 "com/example/token_handoff/tokenhandoff/cli/Option") (F_value_2 : Fld Z h0 w_KEY_1 "com/example/token_handoff/tokenhandoff/cli/Option" "value" "Ljava/lang/String;" (.ref w_value_3)) (E_3 : Exa Z h0 w_value_3 "java/lang/String") (S_KNOWN_4 : Sta Z h0 "com/example/token_handoff/tokenhandoff/cli/Option" "KNOWN" "Lcom/example/token_handoff/tokenhandoff/cli/Option;" (.ref w_KNOWN_5)) (E_5 : Exa Z h0 w_KNOWN_5 "com/example/token_handoff/tokenhandoff/cli/Option") (F_value_6 : Fld Z h0 w_KNOWN_5 "com/example/token_handoff/tokenhandoff/cli/Option" "value" "Ljava/lang/String;" (.ref w_value_3)) (S_COMMIT_RETRIES_7 : Sta Z h0 "com/example/token_handoff/tokenhandoff/cli/Option" "COMMIT_RETRIES" "Lcom/example/token_handoff/tokenhandoff/cli/Option;" (.ref w_COMMIT_RETRIES_7)) (E_8 : Exa Z h0 w_COMMIT_RETRIES_7 "com/example/token_handoff/tokenhandoff/cli/Option") (F_value_9 : Fld Z h0 w_COMMIT_RETRIES_7 "com/example/token_handoff/tokenhandoff/cli/Option" "value" "Ljava/lang/String;" (.ref w_value_9)) (E_10 : Exa Z h0 w_value_9 "java/lang/String") (S_SATURATION_11 : Sta Z h0 "com/example/token_handoff/tokenhandoff/cli/Option" "SATURATION" "Lcom/example/token_handoff/tokenhandoff/cli/Option;" (.ref w_SATURATION_11)) (E_12 : Exa Z h0 w_SATURATION_11 "com/example/token_handoff/tokenhandoff/cli/Option") (F_value_13 : Fld Z h0 w_SATURATION_11 "com/example/token_handoff/tokenhandoff/cli/Option" "value" "Ljava/lang/String;" (.ref w_value_9)) (S_DROP_14 : Sta Z h0 "com/example/token_handoff/tokenhandoff/cli/Option" "DROP" "Lcom/example/token_handoff/tokenhandoff/cli/Option;" (.ref w_DROP_13)) (E_15 : Exa Z h0 w_DROP_13 "com/example/token_handoff/tokenhandoff/cli/Option") (F_value_16 : Fld Z h0 w_DROP_13 "com/example/token_handoff/tokenhandoff/cli/Option" "value" "Ljava/lang/String;" (.ref w_value_15)) (E_17 : Exa Z h0 w_value_15 "java/lang/String") (S_MOVE_RETRIES_18 : Sta Z h0 "com/example/token_handoff/tokenhandoff/cli/Option" "MOVE_RETRIES" "Lcom/example/token_handoff/tokenhandoff/cli/Option;" (.ref w_MOVE_RETRIES_17)) (E_19 : Exa Z h0 w_MOVE_RETRIES_17 "com/example/token_handoff/tokenhandoff/cli/Option") (F_value_20 : Fld Z h0 w_MOVE_RETRIES_17 "com/example/token_handoff/tokenhandoff/cli/Option" "value" "Ljava/lang/String;" (.ref w_value_9)) (S_ACK_RETRIES_21 : Sta Z h0 "com/example/token_handoff/tokenhandoff/cli/Option" "ACK_RETRIES" "Lcom/example/token_handoff/tokenhandoff/cli/Option;" (.ref w_ACK_RETRIES_19)) (E_22 : Exa Z h0 w_ACK_RETRIES_19 "com/example/token_handoff/tokenhandoff/cli/Option") (F_value_23 : Fld Z h0 w_ACK_RETRIES_19 "com/example/token_handoff/tokenhandoff/cli/Option" "value" "Ljava/lang/String;" (.ref w_value_9)) (S_CA_24 : Sta Z h0 "com/example/token_handoff/tokenhandoff/cli/Option" "CA" "Lcom/example/token_handoff/tokenhandoff/cli/Option;" (.ref w_CA_21)) (E_25 : Exa Z h0 w_CA_21 "com/example/token_handoff/tokenhandoff/cli/Option") (F_value_26 : Fld Z h0 w_CA_21 "com/example/token_handoff/tokenhandoff/cli/Option" "value" "Ljava/lang/String;" (.ref w_value_3)) (S_SEED_27 : Sta Z h0 "com/example/token_handoff/tokenhandoff/cli/Option" "SEED" "Lcom/example/token_handoff/tokenhandoff/cli/Option;" (.ref w_SEED_23)) (E_28 : Exa Z h0 w_SEED_23 "com/example/token_handoff/tokenhandoff/cli/Option") (F_value_29 : Fld Z h0 w_SEED_23 "com/example/token_handoff/tokenhandoff/cli/Option" "value" "Ljava/lang/String;" (.ref w_value_25)) (E_30 : Exa Z h0 w_value_25 "java/lang/String") (S_CERT_31 : Sta Z h0 "com/example/token_handoff/tokenhandoff/cli/Option" "CERT" "Lcom/example/token_handoff/tokenhandoff/cli/Option;" (.ref w_CERT_27)) (E_32 : Exa Z h0 w_CERT_27 "com/example/token_handoff/tokenhandoff/cli/Option") (F_value_33 : Fld Z h0 w_CERT_27 "com/example/token_handoff/tokenhandoff/cli/Option" "value" "Ljava/lang/String;" (.ref w_value_3)) (S_PEER_34 : Sta Z h0 "com/example/token_handoff/tokenhandoff/cli/Option" "PEER" "Lcom/example/token_handoff/tokenhandoff/cli/Option;" (.ref w_PEER_29)) (E_35 : Exa Z h0 w_PEER_29 "com/example/token_handoff/tokenhandoff/cli/Option") (F_value_36 : Fld Z h0 w_PEER_29 "com/example/token_handoff/tokenhandoff/cli/Option" "value" "Ljava/lang/String;" (.ref w_value_31)) (E_37 : Exa Z h0 w_value_31 "java/lang/String") (S_OP_MS_38 : Sta Z h0 "com/example/token_handoff/tokenhandoff/cli/Option" "OP_MS" "Lcom/example/token_handoff/tokenhandoff/cli/Option;" (.ref w_OP_MS_33)) (E_39 : Exa Z h0 w_OP_MS_33 "com/example/token_handoff/tokenhandoff/cli/Option") (F_value_40 : Fld Z h0 w_OP_MS_33 "com/example/token_handoff/tokenhandoff/cli/Option" "value" "Ljava/lang/String;" (.ref w_value_9)) (S_LISTEN_41 : Sta Z h0 "com/example/token_handoff/tokenhandoff/cli/Option" "LISTEN" "Lcom/example/token_handoff/tokenhandoff/cli/Option;" (.ref w_LISTEN_35)) (E_42 : Exa Z h0 w_LISTEN_35 "com/example/token_handoff/tokenhandoff/cli/Option") (F_value_43 : Fld Z h0 w_LISTEN_35 "com/example/token_handoff/tokenhandoff/cli/Option" "value" "Ljava/lang/String;" (.ref w_value_31)) (S_DELAY_MS_44 : Sta Z h0 "com/example/token_handoff/tokenhandoff/cli/Option" "DELAY_MS" "Lcom/example/token_handoff/tokenhandoff/cli/Option;" (.ref w_DELAY_MS_37)) (E_45 : Exa Z h0 w_DELAY_MS_37 "com/example/token_handoff/tokenhandoff/cli/Option") (F_value_46 : Fld Z h0 w_DELAY_MS_37 "com/example/token_handoff/tokenhandoff/cli/Option" "value" "Ljava/lang/String;" (.ref w_value_9)) (S_CIRCULATE_47 : Sta Z h0 "com/example/token_handoff/tokenhandoff/cli/Option" "CIRCULATE" "Lcom/example/token_handoff/tokenhandoff/cli/Option;" (.ref w_CIRCULATE_39)) (E_48 : Exa Z h0 w_CIRCULATE_39 "com/example/token_handoff/tokenhandoff/cli/Option") (F_value_49 : Fld Z h0 w_CIRCULATE_39 "com/example/token_handoff/tokenhandoff/cli/Option" "value" "Ljava/lang/String;" .null) (S_JITTER_50 : Sta Z h0 "com/example/token_handoff/tokenhandoff/cli/Option" "JITTER" "Lcom/example/token_handoff/tokenhandoff/cli/Option;" (.ref w_JITTER_41)) (E_51 : Exa Z h0 w_JITTER_41 "com/example/token_handoff/tokenhandoff/cli/Option") (F_value_52 : Fld Z h0 w_JITTER_41 "com/example/token_handoff/tokenhandoff/cli/Option" "value" "Ljava/lang/String;" (.ref w_value_43)) (E_53 : Exa Z h0 w_value_43 "java/lang/String") (S_DURATION_54 : Sta Z h0 "com/example/token_handoff/tokenhandoff/cli/Option" "DURATION" "Lcom/example/token_handoff/tokenhandoff/cli/Option;" (.ref w_DURATION_45)) (E_55 : Exa Z h0 w_DURATION_45 "com/example/token_handoff/tokenhandoff/cli/Option") (F_value_56 : Fld Z h0 w_DURATION_45 "com/example/token_handoff/tokenhandoff/cli/Option" "value" "Ljava/lang/String;" (.ref w_value_43)) (S_SKIP_MS_57 : Sta Z h0 "com/example/token_handoff/tokenhandoff/cli/Option" "SKIP_MS" "Lcom/example/token_handoff/tokenhandoff/cli/Option;" (.ref w_SKIP_MS_47)) (E_58 : Exa Z h0 w_SKIP_MS_47 "com/example/token_handoff/tokenhandoff/cli/Option") (F_value_59 : Fld Z h0 w_SKIP_MS_47 "com/example/token_handoff/tokenhandoff/cli/Option" "value" "Ljava/lang/String;" (.ref w_value_9)) (S_PASS_ON_60 : Sta Z h0 "com/example/token_handoff/tokenhandoff/cli/Option" "PASS_ON" "Lcom/example/token_handoff/tokenhandoff/cli/Option;" (.ref w_PASS_ON_49)) (E_61 : Exa Z h0 w_PASS_ON_49 "com/example/token_handoff/tokenhandoff/cli/Option") (F_value_62 : Fld Z h0 w_PASS_ON_49 "com/example/token_handoff/tokenhandoff/cli/Option" "value" "Ljava/lang/String;" .null) (S_ATTEMPTS_63 : Sta Z h0 "com/example/token_handoff/tokenhandoff/cli/Option" "ATTEMPTS" "Lcom/example/token_handoff/tokenhandoff/cli/Option;" (.ref w_ATTEMPTS_51)) (E_64 : Exa Z h0 w_ATTEMPTS_51 "com/example/token_handoff/tokenhandoff/cli/Option") (F_value_65 : Fld Z h0 w_ATTEMPTS_51 "com/example/token_handoff/tokenhandoff/cli/Option" "value" "Ljava/lang/String;" (.ref w_value_9)) (S_TO_66 : Sta Z h0 "com/example/token_handoff/tokenhandoff/cli/Option" "TO" "Lcom/example/token_handoff/tokenhandoff/cli/Option;" (.ref w_TO_53)) (E_67 : Exa Z h0 w_TO_53 "com/example/token_handoff/tokenhandoff/cli/Option") (F_value_68 : Fld Z h0 w_TO_53 "com/example/token_handoff/tokenhandoff/cli/Option" "value" "Ljava/lang/String;" (.ref w_value_31)) (S_STOP_AT_69 : Sta Z h0 "com/example/token_handoff/tokenhandoff/cli/Option" "STOP_AT" "Lcom/example/token_handoff/tokenhandoff/cli/Option;" (.ref w_STOP_AT_55)) (E_70 : Exa Z h0 w_STOP_AT_55 "com/example/token_handoff/tokenhandoff/cli/Option") (F_value_71 : Fld Z h0 w_STOP_AT_55 "com/example/token_handoff/tokenhandoff/cli/Option" "value" "Ljava/lang/String;" (.ref w_value_9)) (S_TIMEOUT_MS_72 : Sta Z h0 "com/example/token_handoff/tokenhandoff/cli/Option" "TIMEOUT_MS" "Lcom/example/token_handoff/tokenhandoff/cli/Option;" (.ref w_TIMEOUT_MS_57)) (E_73 : Exa Z h0 w_TIMEOUT_MS_57 "com/example/token_handoff/tokenhandoff/cli/Option") (F_value_74 : Fld Z h0 w_TIMEOUT_MS_57 "com/example/token_handoff/tokenhandoff/cli/Option" "value" "Ljava/lang/String;" (.ref w_value_9)) (S_CANDIDATES_75 : Sta Z h0 "com/example/token_handoff/tokenhandoff/cli/Option" "CANDIDATES" "Lcom/example/token_handoff/tokenhandoff/cli/Option;" (.ref w_CANDIDATES_59)) (E_76 : Exa Z h0 w_CANDIDATES_59 "com/example/token_handoff/tokenhandoff/cli/Option") (F_value_77 : Fld Z h0 w_CANDIDATES_59 "com/example/token_handoff/tokenhandoff/cli/Option" "value" "Ljava/lang/String;" (.ref w_value_61)) (E_78 : Exa Z h0 w_value_61 "java/lang/String") (S_TRACE_79 : Sta Z h0 "com/example/token_handoff/tokenhandoff/cli/Option" "TRACE" "Lcom/example/token_handoff/tokenhandoff/cli/Option;" (.ref w_TRACE_63)) (E_80 : Exa Z h0 w_TRACE_63 "com/example/token_handoff/tokenhandoff/cli/Option") (F_value_81 : Fld Z h0 w_TRACE_63 "com/example/token_handoff/tokenhandoff/cli/Option" "value" "Ljava/lang/String;" (.ref w_value_3)) (S_HANDOFFS_82 : Sta Z h0 "com/example/token_handoff/tokenhandoff/cli/Option" "HANDOFFS" "Lcom/example/token_handoff/tokenhandoff/cli/Option;" (.ref w_HANDOFFS_65)) (E_83 : Exa Z h0 w_HANDOFFS_65 "com/example/token_handoff/tokenhandoff/cli/Option") (F_value_84 : Fld Z h0 w_HANDOFFS_65 "com/example/token_handoff/tokenhandoff/cli/Option" "value" "Ljava/lang/String;" (.ref w_value_61)) (S_RUN_85 : Sta Z h0 "com/example/token_handoff/tokenhandoff/cli/Option" "RUN" "Lcom/example/token_handoff/tokenhandoff/cli/Option;" (.ref w_RUN_67)) (E_86 : Exa Z h0 w_RUN_67 "com/example/token_handoff/tokenhandoff/cli/Option") (F_value_87 : Fld Z h0 w_RUN_67 "com/example/token_handoff/tokenhandoff/cli/Option" "value" "Ljava/lang/String;" (.ref w_value_69)) (E_88 : Exa Z h0 w_value_69 "java/lang/String") (S_MEMBERS_89 : Sta Z h0 "com/example/token_handoff/tokenhandoff/cli/Option" "MEMBERS" "Lcom/example/token_handoff/tokenhandoff/cli/Option;" (.ref w_MEMBERS_71)) (E_90 : Exa Z h0 w_MEMBERS_71 "com/example/token_handoff/tokenhandoff/cli/Option") (F_value_91 : Fld Z h0 w_MEMBERS_71 "com/example/token_handoff/tokenhandoff/cli/Option" "value" "Ljava/lang/String;" (.ref w_value_73)) (E_92 : Exa Z h0 w_value_73 "java/lang/String") (S_UNCOORDINATED_93 : Sta Z h0 "com/example/token_handoff/tokenhandoff/cli/Option" "UNCOORDINATED" "Lcom/example/token_handoff/tokenhandoff/cli/Option;" (.ref w_UNCOORDINATED_75)) (E_94 : Exa Z h0 w_UNCOORDINATED_75 "com/example/token_handoff/tokenhandoff/cli/Option") (F_value_95 : Fld Z h0 w_UNCOORDINATED_75 "com/example/token_handoff/tokenhandoff/cli/Option" "value" "Ljava/lang/String;" .null) (S_SKIP_96 : Sta Z h0 "com/example/token_handoff/tokenhandoff/cli/Option" "SKIP" "Lcom/example/token_handoff/tokenhandoff/cli/Option;" (.ref w_SKIP_77)) (E_97 : Exa Z h0 w_SKIP_77 "com/example/token_handoff/tokenhandoff/cli/Option") (F_value_98 : Fld Z h0 w_SKIP_77 "com/example/token_handoff/tokenhandoff/cli/Option" "value" "Ljava/lang/String;" (.ref w_value_43)) (S_REGENERATE_99 : Sta Z h0 "com/example/token_handoff/tokenhandoff/cli/Option" "REGENERATE" "Lcom/example/token_handoff/tokenhandoff/cli/Option;" (.ref w_REGENERATE_79)) (E_100 : Exa Z h0 w_REGENERATE_79 "com/example/token_handoff/tokenhandoff/cli/Option") (F_value_101 : Fld Z h0 w_REGENERATE_79 "com/example/token_handoff/tokenhandoff/cli/Option" "value" "Ljava/lang/String;" (.ref w_value_81)) (E_102 : Exa Z h0 w_value_81 "java/lang/String") (S_INTERVAL_103 : Sta Z h0 "com/example/token_handoff/tokenhandoff/cli/Option" "INTERVAL" "Lcom/example/token_handoff/tokenhandoff/cli/Option;" (.ref w_INTERVAL_83)) (E_104 : Exa Z h0 w_INTERVAL_83 "com/example/token_handoff/tokenhandoff/cli/Option") (F_value_105 : Fld Z h0 w_INTERVAL_83 "com/example/token_handoff/tokenhandoff/cli/Option" "value" "Ljava/lang/String;" (.ref w_value_43)) (S_LOSS_EVERY_106 : Sta Z h0 "com/example/token_handoff/tokenhandoff/cli/Option" "LOSS_EVERY" "Lcom/example/token_handoff/tokenhandoff/cli/Option;" (.ref w_LOSS_EVERY_85)) (E_107 : Exa Z h0 w_LOSS_EVERY_85 "com/example/token_handoff/tokenhandoff/cli/Option") (F_value_108 : Fld Z h0 w_LOSS_EVERY_85 "com/example/token_handoff/tokenhandoff/cli/Option" "value" "Ljava/lang/String;" (.ref w_value_43)) (S_OP_109 : Sta Z h0 "com/example/token_handoff/tokenhandoff/cli/Option" "OP" "Lcom/example/token_handoff/tokenhandoff/cli/Option;" (.ref w_OP_87)) (E_110 : Exa Z h0 w_OP_87 "com/example/token_handoff/tokenhandoff/cli/Option") (F_value_111 : Fld Z h0 w_OP_87 "com/example/token_handoff/tokenhandoff/cli/Option" "value" "Ljava/lang/String;" (.ref w_value_43)) :
    MetFree l x (head1 (Jvm.Cond.code x code maxLocals ret :: ws) room_1) (fun a U => a = #[(.int p0)] ∧ Z.Warmed39 U.vm ∧ U.heap = h0) (fun _ _ _ _ _ => True) (fun _ U o U' => ∃ v L, o = .returned v ∧ Q0 Z p0 w_KEY_1 w_value_3 w_KNOWN_5 w_COMMIT_RETRIES_7 w_value_9 w_SATURATION_11 w_DROP_13 w_value_15 w_MOVE_RETRIES_17 w_ACK_RETRIES_19 w_CA_21 w_SEED_23 w_value_25 w_CERT_27 w_PEER_29 w_value_31 w_OP_MS_33 w_LISTEN_35 w_DELAY_MS_37 w_CIRCULATE_39 w_JITTER_41 w_value_43 w_DURATION_45 w_SKIP_MS_47 w_PASS_ON_49 w_ATTEMPTS_51 w_TO_53 w_STOP_AT_55 w_TIMEOUT_MS_57 w_CANDIDATES_59 w_value_61 w_TRACE_63 w_HANDOFFS_65 w_RUN_67 w_value_69 w_MEMBERS_71 w_value_73 w_UNCOORDINATED_75 w_SKIP_77 w_REGENERATE_79 w_value_81 w_INTERVAL_83 w_LOSS_EVERY_85 w_OP_87 h0 n0 v U'.heap L ∧ FrameEnd U o U' L room_1.cells room_1.slots) := by
  refine MetFree.of_bodySF (plainFor_of_name pn_0) hisR ?_
  intro p e s m args below meth c s₁ Bd hml0 hP hK
  obtain ⟨rfl, hZ, hh⟩ := hP
  have hx := Bd.exec
  have hby := Bd.bytes
  have hml : c.maxLocals = 4 := hml0
  have hown : s.vm.findClass "com/example/token_handoff/tokenhandoff/cli/OptionTakesValuePinLaw" = some m.cls := findClass_of_methodNamed Bd.named
  have hnm := (name_of_methodNamed Bd.named Bd.method).1
  have X0 : Stand p l e room_1 s m #[(.int p0)] below meth c s₁ [] 0 0 := Stand.of_body Bd
  have e0 : s₁.heap = h0 := by rw [← hh, Bd.state]; rfl
  have N0 := Fr.nil n0
  have pre0 : ∀ t, Steps p.tables e below (s₁.setTop (mkF m 0 #[.val (.int p0), .unset, .unset, .unset] [])) t → Steps p.tables e below (s₁.setTop (entryFrame m #[(.int p0)] maxLocals)) t := fun t k => castTop (ef_0 m p0 ) k
  obtain ⟨_, _, ⟨T1, L1, k1, n1⟩, -, X1, ⟨Lc1, hQ1, l1, y1, z1⟩, st1⟩ := Jvm.LawKit.callS X0 hx (y := (⟨"com/example/token_handoff/tokenhandoff/cli/OptionTakesValuePinLaw", "pick", "(I)Lcom/example/token_handoff/tokenhandoff/cli/Option;"⟩ : MethodName)) hown (mvT hZ (hw _ (List.mem_of_getElem? (i := 1) rfl))) (mvT hZ (hw _ (List.mem_of_getElem? (i := 2) rfl))) (mvT hZ (hw _ (List.mem_of_getElem? (i := 3) rfl))) (mvT hZ (hw _ (List.mem_of_getElem? (i := 4) rfl))) (by decide) (backOf (W := 0) (rm1 l Z aw hw [] ((p0 &&& (2147483647 : Int32)) % (34 : Int32)) w_KEY_1 w_CERT_27 w_CA_21 w_KNOWN_5 w_LISTEN_35 w_TIMEOUT_MS_57 w_MOVE_RETRIES_17 w_ACK_RETRIES_19 w_COMMIT_RETRIES_7 w_DROP_13 w_DELAY_MS_37 w_SEED_23 w_TRACE_63 w_PEER_29 w_CANDIDATES_59 w_PASS_ON_49 w_CIRCULATE_39 w_SATURATION_11 w_OP_MS_33 w_SKIP_MS_47 w_RUN_67 w_REGENERATE_79 w_STOP_AT_55 w_TO_53 w_ATTEMPTS_51 w_MEMBERS_71 w_OP_87 w_SKIP_77 w_DURATION_45 w_LOSS_EVERY_85 w_UNCOORDINATED_75 w_INTERVAL_83 w_JITTER_41 w_HANDOFFS_65 h0 n0 Z0 (own_dis (own_rng _ _ 34 rfl (by decide))) S_KEY_0 S_CERT_31 S_CA_24 S_KNOWN_4 S_LISTEN_41 S_TIMEOUT_MS_72 S_MOVE_RETRIES_18 S_ACK_RETRIES_21 S_COMMIT_RETRIES_7 S_DROP_14 S_DELAY_MS_44 S_SEED_27 S_TRACE_79 S_PEER_34 S_CANDIDATES_75 S_PASS_ON_60 S_CIRCULATE_47 S_SATURATION_11 S_OP_MS_38 S_SKIP_MS_57 S_RUN_85 S_REGENERATE_99 S_STOP_AT_69 S_TO_66 S_ATTEMPTS_63 S_MEMBERS_89 S_OP_109 S_SKIP_96 S_DURATION_54 S_LOSS_EVERY_106 S_UNCOORDINATED_93 S_INTERVAL_103 S_JITTER_50 S_HANDOFFS_82) hZ (hw _ (List.mem_of_getElem? (i := 4) rfl)) (hw _ (List.mem_of_getElem? (i := 3) rfl)) (by decide) (by decide)) (g := (mkF m 9 #[.val (.int p0), .val (.int ((p0 &&& (2147483647 : Int32)) % (34 : Int32))), .unset, .unset] [(.int ((p0 &&& (2147483647 : Int32)) % (34 : Int32)))])) rfl (by rw [hml]; rfl) (argsL := [(.int ((p0 &&& (2147483647 : Int32)) % (34 : Int32)))]) (rest := []) (lenOf pd_0 rfl) rfl (by show 2 * 0 + _ ≤ _; exact Nat.le_of_eq rfl) (hb hby at_9) (fun _ _ => ⟨rfl, e0, (by decide : 0 + 0 ≤ _), (by decide : 0 + 0 ≤ _)⟩)
  dsimp only [Pt.U, Pt.locs, Pt.cells, Pt.slots] at X1 l1 y1 z1 st1 hQ1
  subst l1 y1 z1
  obtain ⟨⟨r2, rfl, Pr2⟩, Nq1, e1⟩ := hQ1
  have N1 := Fr.app N0 Nq1
  have pre3 : ∀ t, Steps p.tables e below (T1.setTop (mkF m 12 #[.val (.int p0), .val (.int ((p0 &&& (2147483647 : Int32)) % (34 : Int32))), .unset, .unset] [(.ref r2)])) t → Steps p.tables e below (s₁.setTop (entryFrame m #[(.int p0)] maxLocals)) t := fun t kt => pre0 t (by
      show Steps p.tables e below (s₁.setTop (mkF m 0 #[.val (.int p0), .unset, .unset, .unset] [])) _
      refine XS.iloadN X0.here hx rfl (hb hby at_0) rfl ?_
      show Steps p.tables e below (s₁.setTop (mkF m 1 #[.val (.int p0), .unset, .unset, .unset] [(.int p0)])) _
      refine X0.ldcInt hx hown (mvT hZ (hw _ (List.mem_of_getElem? (i := 0) rfl))) (g := (mkF m 1 #[.val (.int p0), .unset, .unset, .unset] [(.int p0)])) rfl (hb hby at_1) _ ?_
      show Steps p.tables e below (s₁.setTop (mkF m 3 #[.val (.int p0), .unset, .unset, .unset] [(.int (2147483647 : Int32)), (.int p0)])) _
      refine XS.iand X0.here hx rfl (hb hby at_3) rfl ?_
      show Steps p.tables e below (s₁.setTop (mkF m 4 #[.val (.int p0), .unset, .unset, .unset] [(.int (p0 &&& (2147483647 : Int32)))])) _
      refine XS.bipush X0.here hx rfl (hb hby at_4) ?_
      show Steps p.tables e below (s₁.setTop (mkF m 6 #[.val (.int p0), .unset, .unset, .unset] [(.int (34 : Int32)), (.int (p0 &&& (2147483647 : Int32)))])) _
      refine iremM X0 hx rfl (hb hby at_6) rfl (by decide) ?_
      show Steps p.tables e below (s₁.setTop (mkF m 7 #[.val (.int p0), .unset, .unset, .unset] [(.int ((p0 &&& (2147483647 : Int32)) % (34 : Int32)))])) _
      refine XS.istoreN X0.here hx rfl (hb hby at_7) rfl (l' := #[.val (.int p0), .val (.int ((p0 &&& (2147483647 : Int32)) % (34 : Int32))), .unset, .unset]) rfl ?_
      show Steps p.tables e below (s₁.setTop (mkF m 8 #[.val (.int p0), .val (.int ((p0 &&& (2147483647 : Int32)) % (34 : Int32))), .unset, .unset] [])) _
      refine XS.iloadN X0.here hx rfl (hb hby at_8) rfl ?_
      show Steps p.tables e below (s₁.setTop (mkF m 9 #[.val (.int p0), .val (.int ((p0 &&& (2147483647 : Int32)) % (34 : Int32))), .unset, .unset] [(.int ((p0 &&& (2147483647 : Int32)) % (34 : Int32)))])) _
      refine st1 _ ?_
      exact kt)
  obtain ⟨i, hi⟩ : ∃ z, z = ((p0 &&& (2147483647 : Int32)) % (34 : Int32)) := ⟨_, rfl⟩
  rw [← hi] at pre3 Pr2
  rcases Pr2 with ⟨rfl, rfl⟩ | ⟨rfl, rfl⟩ | ⟨rfl, rfl⟩ | ⟨rfl, rfl⟩ | ⟨rfl, rfl⟩ | ⟨rfl, rfl⟩ | ⟨rfl, rfl⟩ | ⟨rfl, rfl⟩ | ⟨rfl, rfl⟩ | ⟨rfl, rfl⟩ | ⟨rfl, rfl⟩ | ⟨rfl, rfl⟩ | ⟨rfl, rfl⟩ | ⟨rfl, rfl⟩ | ⟨rfl, rfl⟩ | ⟨rfl, rfl⟩ | ⟨rfl, rfl⟩ | ⟨rfl, rfl⟩ | ⟨rfl, rfl⟩ | ⟨rfl, rfl⟩ | ⟨rfl, rfl⟩ | ⟨rfl, rfl⟩ | ⟨rfl, rfl⟩ | ⟨rfl, rfl⟩ | ⟨rfl, rfl⟩ | ⟨rfl, rfl⟩ | ⟨rfl, rfl⟩ | ⟨rfl, rfl⟩ | ⟨rfl, rfl⟩ | ⟨rfl, rfl⟩ | ⟨rfl, rfl⟩ | ⟨rfl, rfl⟩ | ⟨rfl, rfl⟩ | ⟨rfl, rfl⟩
  · skip
    obtain ⟨cq4, kq4, q4a, q4b, q4c⟩ := isOf hZ e1 E_1
    obtain ⟨_, _, ⟨T4, L4, k4, n4⟩, -, X4, ⟨Lc4, hQ4, l4, y4, z4⟩, st4⟩ := X1.virtualBack hx (y := (⟨"com/example/token_handoff/tokenhandoff/cli/Option", "takesValue", "()Z"⟩ : MethodName)) (z := (⟨"com/example/token_handoff/tokenhandoff/cli/Option", "takesValue", "()Z"⟩ : MethodName)) hown (mvT hZ (hw _ (List.mem_of_getElem? (i := 8) rfl))) (mvT hZ (hw _ (List.mem_of_getElem? (i := 9) rfl))) (notFace_of_selects (args := #[]) (mvT hZ (hw _ (List.mem_of_getElem? (i := 11) rfl)))) (mvT hZ (hw _ (List.mem_of_getElem? (i := 11) rfl))) (mvT hZ (hw _ (List.mem_of_getElem? (i := 10) rfl))) (by decide) (backOf (W := 0) (rm2 l Z aw hw [] w_KEY_1 (.ref w_value_3) h0 n0 Z0 rfl F_value_2) hZ (hw _ (List.mem_of_getElem? (i := 12) rfl)) (hw _ (List.mem_of_getElem? (i := 6) rfl)) (by decide) (by decide)) q4a q4c (g := (mkF m 38 #[.val (.int p0), .val (.int (0 : Int32)), .val (.ref w_KEY_1), .val (.int (0 : Int32))] [(.ref w_KEY_1)])) rfl (by rw [hml]; rfl) (Steps.refl _) (argsL := []) (rest := []) (lenOf pd_1 rfl) rfl (by show 2 * 0 + _ ≤ _; exact Nat.le_of_eq rfl) (hb hby at_38) (fun _ _ => ⟨rfl, e1, (by decide : 0 + 0 ≤ _), (by decide : 0 + 0 ≤ _)⟩)
    dsimp only [Pt.U, Pt.locs, Pt.cells, Pt.slots] at X4 l4 y4 z4 st4 hQ4
    subst l4 y4 z4
    obtain ⟨⟨r5, rfl, Pr5⟩, Nq4, e4⟩ := hQ4
    have N4 := Fr.app N1 Nq4
    have pre6 : ∀ t, Steps p.tables e below (T4.setTop (mkF m 41 #[.val (.int p0), .val (.int (0 : Int32)), .val (.ref w_KEY_1), .val (.int (0 : Int32))] [(.int r5)])) t → Steps p.tables e below (s₁.setTop (entryFrame m #[(.int p0)] maxLocals)) t := fun t kt => pre3 t (by
        show Steps p.tables e below (T1.setTop (mkF m 12 #[.val (.int p0), .val (.int (0 : Int32)), .unset, .unset] [(.ref w_KEY_1)])) _
        refine XS.astoreN X1.here hx rfl (hb hby at_12) rfl rfl (l' := #[.val (.int p0), .val (.int (0 : Int32)), .val (.ref w_KEY_1), .unset]) rfl ?_
        show Steps p.tables e below (T1.setTop (mkF m 13 #[.val (.int p0), .val (.int (0 : Int32)), .val (.ref w_KEY_1), .unset] [])) _
        refine XS.iloadN X1.here hx rfl (hb hby at_13) rfl ?_
        show Steps p.tables e below (T1.setTop (mkF m 14 #[.val (.int p0), .val (.int (0 : Int32)), .val (.ref w_KEY_1), .unset] [(.int (0 : Int32))])) _
        refine XS.bipush X1.here hx rfl (hb hby at_14) ?_
        show Steps p.tables e below (T1.setTop (mkF m 16 #[.val (.int p0), .val (.int (0 : Int32)), .val (.ref w_KEY_1), .unset] [(.int (15 : Int32)), (.int (0 : Int32))])) _
        refine XS.icmpNo X1.here hx rfl (hb hby at_16) rfl (feq (by decide : ¬ ((0 : Int32) = (15 : Int32)))).1 ?_
        show Steps p.tables e below (T1.setTop (mkF m 19 #[.val (.int p0), .val (.int (0 : Int32)), .val (.ref w_KEY_1), .unset] [])) _
        refine XS.iloadN X1.here hx rfl (hb hby at_19) rfl ?_
        show Steps p.tables e below (T1.setTop (mkF m 20 #[.val (.int p0), .val (.int (0 : Int32)), .val (.ref w_KEY_1), .unset] [(.int (0 : Int32))])) _
        refine XS.bipush X1.here hx rfl (hb hby at_20) ?_
        show Steps p.tables e below (T1.setTop (mkF m 22 #[.val (.int p0), .val (.int (0 : Int32)), .val (.ref w_KEY_1), .unset] [(.int (16 : Int32)), (.int (0 : Int32))])) _
        refine XS.icmpNo X1.here hx rfl (hb hby at_22) rfl (feq (by decide : ¬ ((0 : Int32) = (16 : Int32)))).1 ?_
        show Steps p.tables e below (T1.setTop (mkF m 25 #[.val (.int p0), .val (.int (0 : Int32)), .val (.ref w_KEY_1), .unset] [])) _
        refine XS.iloadN X1.here hx rfl (hb hby at_25) rfl ?_
        show Steps p.tables e below (T1.setTop (mkF m 26 #[.val (.int p0), .val (.int (0 : Int32)), .val (.ref w_KEY_1), .unset] [(.int (0 : Int32))])) _
        refine XS.bipush X1.here hx rfl (hb hby at_26) ?_
        show Steps p.tables e below (T1.setTop (mkF m 28 #[.val (.int p0), .val (.int (0 : Int32)), .val (.ref w_KEY_1), .unset] [(.int (30 : Int32)), (.int (0 : Int32))])) _
        refine XS.icmpYes X1.here hx rfl (pc0 := 28) (pc' := 35) rfl (hb hby at_28) rfl (feq (by decide : ¬ ((0 : Int32) = (30 : Int32)))).2 (by decide) (by decide) ?_
        show Steps p.tables e below (T1.setTop (mkF m 35 #[.val (.int p0), .val (.int (0 : Int32)), .val (.ref w_KEY_1), .unset] [])) _
        refine XS.iconst X1.here hx rfl (hb hby at_35) ?_
        show Steps p.tables e below (T1.setTop (mkF m 36 #[.val (.int p0), .val (.int (0 : Int32)), .val (.ref w_KEY_1), .unset] [(.int (0 : Int32))])) _
        refine XS.istoreN X1.here hx rfl (hb hby at_36) rfl (l' := #[.val (.int p0), .val (.int (0 : Int32)), .val (.ref w_KEY_1), .val (.int (0 : Int32))]) rfl ?_
        show Steps p.tables e below (T1.setTop (mkF m 37 #[.val (.int p0), .val (.int (0 : Int32)), .val (.ref w_KEY_1), .val (.int (0 : Int32))] [])) _
        refine XS.aloadN X1.here hx rfl (hb hby at_37) rfl rfl ?_
        show Steps p.tables e below (T1.setTop (mkF m 38 #[.val (.int p0), .val (.int (0 : Int32)), .val (.ref w_KEY_1), .val (.int (0 : Int32))] [(.ref w_KEY_1)])) _
        refine st4.trans ?_
        exact kt)
    obtain rfl : (1 : Int32) = r5 := Pr5.2 nofun
    have pre7 : ∀ t, Steps p.tables e below (T4.setTop (mkF m 58 #[.val (.int p0), .val (.int (0 : Int32)), .val (.ref w_KEY_1), .val (.int (0 : Int32))] [(.int (1 : Int32))])) t → Steps p.tables e below (s₁.setTop (entryFrame m #[(.int p0)] maxLocals)) t := fun t kt => pre6 t (by
        show Steps p.tables e below (T4.setTop (mkF m 41 #[.val (.int p0), .val (.int (0 : Int32)), .val (.ref w_KEY_1), .val (.int (0 : Int32))] [(.int (1 : Int32))])) _
        refine XS.iloadN X4.here hx rfl (hb hby at_41) rfl ?_
        show Steps p.tables e below (T4.setTop (mkF m 42 #[.val (.int p0), .val (.int (0 : Int32)), .val (.ref w_KEY_1), .val (.int (0 : Int32))] [(.int (0 : Int32)), (.int (1 : Int32))])) _
        refine XS.ifNo X4.here hx rfl (hb hby at_42) rfl ((if0 _ _).trans (teq (rfl : (0 : Int32) = (0 : Int32))).2) ?_
        show Steps p.tables e below (T4.setTop (mkF m 45 #[.val (.int p0), .val (.int (0 : Int32)), .val (.ref w_KEY_1), .val (.int (0 : Int32))] [(.int (1 : Int32))])) _
        refine XS.iconst X4.here hx rfl (hb hby at_45) ?_
        show Steps p.tables e below (T4.setTop (mkF m 46 #[.val (.int p0), .val (.int (0 : Int32)), .val (.ref w_KEY_1), .val (.int (0 : Int32))] [(.int (1 : Int32)), (.int (1 : Int32))])) _
        refine XS.goto X4.here hx rfl (pc0 := 46) (pc' := 50) rfl (hb hby at_46) (by decide) (by decide) ?_
        show Steps p.tables e below (T4.setTop (mkF m 50 #[.val (.int p0), .val (.int (0 : Int32)), .val (.ref w_KEY_1), .val (.int (0 : Int32))] [(.int (1 : Int32)), (.int (1 : Int32))])) _
        refine XS.icmpNo X4.here hx rfl (hb hby at_50) rfl (teq (rfl : (1 : Int32) = (1 : Int32))).2 ?_
        show Steps p.tables e below (T4.setTop (mkF m 53 #[.val (.int p0), .val (.int (0 : Int32)), .val (.ref w_KEY_1), .val (.int (0 : Int32))] [])) _
        refine XS.iconst X4.here hx rfl (hb hby at_53) ?_
        show Steps p.tables e below (T4.setTop (mkF m 54 #[.val (.int p0), .val (.int (0 : Int32)), .val (.ref w_KEY_1), .val (.int (0 : Int32))] [(.int (1 : Int32))])) _
        refine XS.goto X4.here hx rfl (pc0 := 54) (pc' := 58) rfl (hb hby at_54) (by decide) (by decide) ?_
        exact kt)
    obtain ⟨fs, hr, hrun, hended, hW, hsame⟩ := X4.leave (v := some (.int (1 : Int32))) (fun h => by rw [Bd.returns] at h; cases h)
    refine ⟨_, _, pre7 _ ?_, hrun, hended, _, _, rfl, ?_, ⟨_, rfl⟩, hW, hsame.mono (by decide) (by decide)⟩
    · show Steps p.tables e below (T4.setTop (mkF m 58 #[.val (.int p0), .val (.int (0 : Int32)), .val (.ref w_KEY_1), .val (.int (0 : Int32))] [(.int (1 : Int32))])) _
      exact retN X4 hx (t := .boolean) Bd.returns (by simp) (hb hby at_58) hr
    · show Q0 Z _ _ _ _ _ _ _ _ _ _ _ _ _ _ _ _ _ _ _ _ _ _ _ _ _ _ _ _ _ _ _ _ _ _ _ _ _ _ _ _ _ _ _ _ _ h0 n0 _ T4.heap _
      rw [e4]
      exact ⟨rfl, N4, rfl⟩
  · skip
    obtain ⟨cq8, kq8, q8a, q8b, q8c⟩ := isOf hZ e1 E_32
    obtain ⟨_, _, ⟨T8, L8, k8, n8⟩, -, X8, ⟨Lc8, hQ8, l8, y8, z8⟩, st8⟩ := X1.virtualBack hx (y := (⟨"com/example/token_handoff/tokenhandoff/cli/Option", "takesValue", "()Z"⟩ : MethodName)) (z := (⟨"com/example/token_handoff/tokenhandoff/cli/Option", "takesValue", "()Z"⟩ : MethodName)) hown (mvT hZ (hw _ (List.mem_of_getElem? (i := 8) rfl))) (mvT hZ (hw _ (List.mem_of_getElem? (i := 9) rfl))) (notFace_of_selects (args := #[]) (mvT hZ (hw _ (List.mem_of_getElem? (i := 11) rfl)))) (mvT hZ (hw _ (List.mem_of_getElem? (i := 11) rfl))) (mvT hZ (hw _ (List.mem_of_getElem? (i := 10) rfl))) (by decide) (backOf (W := 0) (rm2 l Z aw hw [] w_CERT_27 (.ref w_value_3) h0 n0 Z0 rfl F_value_33) hZ (hw _ (List.mem_of_getElem? (i := 12) rfl)) (hw _ (List.mem_of_getElem? (i := 6) rfl)) (by decide) (by decide)) q8a q8c (g := (mkF m 38 #[.val (.int p0), .val (.int (1 : Int32)), .val (.ref w_CERT_27), .val (.int (0 : Int32))] [(.ref w_CERT_27)])) rfl (by rw [hml]; rfl) (Steps.refl _) (argsL := []) (rest := []) (lenOf pd_1 rfl) rfl (by show 2 * 0 + _ ≤ _; exact Nat.le_of_eq rfl) (hb hby at_38) (fun _ _ => ⟨rfl, e1, (by decide : 0 + 0 ≤ _), (by decide : 0 + 0 ≤ _)⟩)
    dsimp only [Pt.U, Pt.locs, Pt.cells, Pt.slots] at X8 l8 y8 z8 st8 hQ8
    subst l8 y8 z8
    obtain ⟨⟨r9, rfl, Pr9⟩, Nq8, e8⟩ := hQ8
    have N8 := Fr.app N1 Nq8
    have pre10 : ∀ t, Steps p.tables e below (T8.setTop (mkF m 41 #[.val (.int p0), .val (.int (1 : Int32)), .val (.ref w_CERT_27), .val (.int (0 : Int32))] [(.int r9)])) t → Steps p.tables e below (s₁.setTop (entryFrame m #[(.int p0)] maxLocals)) t := fun t kt => pre3 t (by
        show Steps p.tables e below (T1.setTop (mkF m 12 #[.val (.int p0), .val (.int (1 : Int32)), .unset, .unset] [(.ref w_CERT_27)])) _
        refine XS.astoreN X1.here hx rfl (hb hby at_12) rfl rfl (l' := #[.val (.int p0), .val (.int (1 : Int32)), .val (.ref w_CERT_27), .unset]) rfl ?_
        show Steps p.tables e below (T1.setTop (mkF m 13 #[.val (.int p0), .val (.int (1 : Int32)), .val (.ref w_CERT_27), .unset] [])) _
        refine XS.iloadN X1.here hx rfl (hb hby at_13) rfl ?_
        show Steps p.tables e below (T1.setTop (mkF m 14 #[.val (.int p0), .val (.int (1 : Int32)), .val (.ref w_CERT_27), .unset] [(.int (1 : Int32))])) _
        refine XS.bipush X1.here hx rfl (hb hby at_14) ?_
        show Steps p.tables e below (T1.setTop (mkF m 16 #[.val (.int p0), .val (.int (1 : Int32)), .val (.ref w_CERT_27), .unset] [(.int (15 : Int32)), (.int (1 : Int32))])) _
        refine XS.icmpNo X1.here hx rfl (hb hby at_16) rfl (feq (by decide : ¬ ((1 : Int32) = (15 : Int32)))).1 ?_
        show Steps p.tables e below (T1.setTop (mkF m 19 #[.val (.int p0), .val (.int (1 : Int32)), .val (.ref w_CERT_27), .unset] [])) _
        refine XS.iloadN X1.here hx rfl (hb hby at_19) rfl ?_
        show Steps p.tables e below (T1.setTop (mkF m 20 #[.val (.int p0), .val (.int (1 : Int32)), .val (.ref w_CERT_27), .unset] [(.int (1 : Int32))])) _
        refine XS.bipush X1.here hx rfl (hb hby at_20) ?_
        show Steps p.tables e below (T1.setTop (mkF m 22 #[.val (.int p0), .val (.int (1 : Int32)), .val (.ref w_CERT_27), .unset] [(.int (16 : Int32)), (.int (1 : Int32))])) _
        refine XS.icmpNo X1.here hx rfl (hb hby at_22) rfl (feq (by decide : ¬ ((1 : Int32) = (16 : Int32)))).1 ?_
        show Steps p.tables e below (T1.setTop (mkF m 25 #[.val (.int p0), .val (.int (1 : Int32)), .val (.ref w_CERT_27), .unset] [])) _
        refine XS.iloadN X1.here hx rfl (hb hby at_25) rfl ?_
        show Steps p.tables e below (T1.setTop (mkF m 26 #[.val (.int p0), .val (.int (1 : Int32)), .val (.ref w_CERT_27), .unset] [(.int (1 : Int32))])) _
        refine XS.bipush X1.here hx rfl (hb hby at_26) ?_
        show Steps p.tables e below (T1.setTop (mkF m 28 #[.val (.int p0), .val (.int (1 : Int32)), .val (.ref w_CERT_27), .unset] [(.int (30 : Int32)), (.int (1 : Int32))])) _
        refine XS.icmpYes X1.here hx rfl (pc0 := 28) (pc' := 35) rfl (hb hby at_28) rfl (feq (by decide : ¬ ((1 : Int32) = (30 : Int32)))).2 (by decide) (by decide) ?_
        show Steps p.tables e below (T1.setTop (mkF m 35 #[.val (.int p0), .val (.int (1 : Int32)), .val (.ref w_CERT_27), .unset] [])) _
        refine XS.iconst X1.here hx rfl (hb hby at_35) ?_
        show Steps p.tables e below (T1.setTop (mkF m 36 #[.val (.int p0), .val (.int (1 : Int32)), .val (.ref w_CERT_27), .unset] [(.int (0 : Int32))])) _
        refine XS.istoreN X1.here hx rfl (hb hby at_36) rfl (l' := #[.val (.int p0), .val (.int (1 : Int32)), .val (.ref w_CERT_27), .val (.int (0 : Int32))]) rfl ?_
        show Steps p.tables e below (T1.setTop (mkF m 37 #[.val (.int p0), .val (.int (1 : Int32)), .val (.ref w_CERT_27), .val (.int (0 : Int32))] [])) _
        refine XS.aloadN X1.here hx rfl (hb hby at_37) rfl rfl ?_
        show Steps p.tables e below (T1.setTop (mkF m 38 #[.val (.int p0), .val (.int (1 : Int32)), .val (.ref w_CERT_27), .val (.int (0 : Int32))] [(.ref w_CERT_27)])) _
        refine st8.trans ?_
        exact kt)
    obtain rfl : (1 : Int32) = r9 := Pr9.2 nofun
    have pre11 : ∀ t, Steps p.tables e below (T8.setTop (mkF m 58 #[.val (.int p0), .val (.int (1 : Int32)), .val (.ref w_CERT_27), .val (.int (0 : Int32))] [(.int (1 : Int32))])) t → Steps p.tables e below (s₁.setTop (entryFrame m #[(.int p0)] maxLocals)) t := fun t kt => pre10 t (by
        show Steps p.tables e below (T8.setTop (mkF m 41 #[.val (.int p0), .val (.int (1 : Int32)), .val (.ref w_CERT_27), .val (.int (0 : Int32))] [(.int (1 : Int32))])) _
        refine XS.iloadN X8.here hx rfl (hb hby at_41) rfl ?_
        show Steps p.tables e below (T8.setTop (mkF m 42 #[.val (.int p0), .val (.int (1 : Int32)), .val (.ref w_CERT_27), .val (.int (0 : Int32))] [(.int (0 : Int32)), (.int (1 : Int32))])) _
        refine XS.ifNo X8.here hx rfl (hb hby at_42) rfl ((if0 _ _).trans (teq (rfl : (0 : Int32) = (0 : Int32))).2) ?_
        show Steps p.tables e below (T8.setTop (mkF m 45 #[.val (.int p0), .val (.int (1 : Int32)), .val (.ref w_CERT_27), .val (.int (0 : Int32))] [(.int (1 : Int32))])) _
        refine XS.iconst X8.here hx rfl (hb hby at_45) ?_
        show Steps p.tables e below (T8.setTop (mkF m 46 #[.val (.int p0), .val (.int (1 : Int32)), .val (.ref w_CERT_27), .val (.int (0 : Int32))] [(.int (1 : Int32)), (.int (1 : Int32))])) _
        refine XS.goto X8.here hx rfl (pc0 := 46) (pc' := 50) rfl (hb hby at_46) (by decide) (by decide) ?_
        show Steps p.tables e below (T8.setTop (mkF m 50 #[.val (.int p0), .val (.int (1 : Int32)), .val (.ref w_CERT_27), .val (.int (0 : Int32))] [(.int (1 : Int32)), (.int (1 : Int32))])) _
        refine XS.icmpNo X8.here hx rfl (hb hby at_50) rfl (teq (rfl : (1 : Int32) = (1 : Int32))).2 ?_
        show Steps p.tables e below (T8.setTop (mkF m 53 #[.val (.int p0), .val (.int (1 : Int32)), .val (.ref w_CERT_27), .val (.int (0 : Int32))] [])) _
        refine XS.iconst X8.here hx rfl (hb hby at_53) ?_
        show Steps p.tables e below (T8.setTop (mkF m 54 #[.val (.int p0), .val (.int (1 : Int32)), .val (.ref w_CERT_27), .val (.int (0 : Int32))] [(.int (1 : Int32))])) _
        refine XS.goto X8.here hx rfl (pc0 := 54) (pc' := 58) rfl (hb hby at_54) (by decide) (by decide) ?_
        exact kt)
    obtain ⟨fs, hr, hrun, hended, hW, hsame⟩ := X8.leave (v := some (.int (1 : Int32))) (fun h => by rw [Bd.returns] at h; cases h)
    refine ⟨_, _, pre11 _ ?_, hrun, hended, _, _, rfl, ?_, ⟨_, rfl⟩, hW, hsame.mono (by decide) (by decide)⟩
    · show Steps p.tables e below (T8.setTop (mkF m 58 #[.val (.int p0), .val (.int (1 : Int32)), .val (.ref w_CERT_27), .val (.int (0 : Int32))] [(.int (1 : Int32))])) _
      exact retN X8 hx (t := .boolean) Bd.returns (by simp) (hb hby at_58) hr
    · show Q0 Z _ _ _ _ _ _ _ _ _ _ _ _ _ _ _ _ _ _ _ _ _ _ _ _ _ _ _ _ _ _ _ _ _ _ _ _ _ _ _ _ _ _ _ _ _ h0 n0 _ T8.heap _
      rw [e8]
      exact ⟨rfl, N8, rfl⟩
  · skip
    obtain ⟨cq12, kq12, q12a, q12b, q12c⟩ := isOf hZ e1 E_25
    obtain ⟨_, _, ⟨T12, L12, k12, n12⟩, -, X12, ⟨Lc12, hQ12, l12, y12, z12⟩, st12⟩ := X1.virtualBack hx (y := (⟨"com/example/token_handoff/tokenhandoff/cli/Option", "takesValue", "()Z"⟩ : MethodName)) (z := (⟨"com/example/token_handoff/tokenhandoff/cli/Option", "takesValue", "()Z"⟩ : MethodName)) hown (mvT hZ (hw _ (List.mem_of_getElem? (i := 8) rfl))) (mvT hZ (hw _ (List.mem_of_getElem? (i := 9) rfl))) (notFace_of_selects (args := #[]) (mvT hZ (hw _ (List.mem_of_getElem? (i := 11) rfl)))) (mvT hZ (hw _ (List.mem_of_getElem? (i := 11) rfl))) (mvT hZ (hw _ (List.mem_of_getElem? (i := 10) rfl))) (by decide) (backOf (W := 0) (rm2 l Z aw hw [] w_CA_21 (.ref w_value_3) h0 n0 Z0 rfl F_value_26) hZ (hw _ (List.mem_of_getElem? (i := 12) rfl)) (hw _ (List.mem_of_getElem? (i := 6) rfl)) (by decide) (by decide)) q12a q12c (g := (mkF m 38 #[.val (.int p0), .val (.int (2 : Int32)), .val (.ref w_CA_21), .val (.int (0 : Int32))] [(.ref w_CA_21)])) rfl (by rw [hml]; rfl) (Steps.refl _) (argsL := []) (rest := []) (lenOf pd_1 rfl) rfl (by show 2 * 0 + _ ≤ _; exact Nat.le_of_eq rfl) (hb hby at_38) (fun _ _ => ⟨rfl, e1, (by decide : 0 + 0 ≤ _), (by decide : 0 + 0 ≤ _)⟩)
    dsimp only [Pt.U, Pt.locs, Pt.cells, Pt.slots] at X12 l12 y12 z12 st12 hQ12
    subst l12 y12 z12
    obtain ⟨⟨r13, rfl, Pr13⟩, Nq12, e12⟩ := hQ12
    have N12 := Fr.app N1 Nq12
    have pre14 : ∀ t, Steps p.tables e below (T12.setTop (mkF m 41 #[.val (.int p0), .val (.int (2 : Int32)), .val (.ref w_CA_21), .val (.int (0 : Int32))] [(.int r13)])) t → Steps p.tables e below (s₁.setTop (entryFrame m #[(.int p0)] maxLocals)) t := fun t kt => pre3 t (by
        show Steps p.tables e below (T1.setTop (mkF m 12 #[.val (.int p0), .val (.int (2 : Int32)), .unset, .unset] [(.ref w_CA_21)])) _
        refine XS.astoreN X1.here hx rfl (hb hby at_12) rfl rfl (l' := #[.val (.int p0), .val (.int (2 : Int32)), .val (.ref w_CA_21), .unset]) rfl ?_
        show Steps p.tables e below (T1.setTop (mkF m 13 #[.val (.int p0), .val (.int (2 : Int32)), .val (.ref w_CA_21), .unset] [])) _
        refine XS.iloadN X1.here hx rfl (hb hby at_13) rfl ?_
        show Steps p.tables e below (T1.setTop (mkF m 14 #[.val (.int p0), .val (.int (2 : Int32)), .val (.ref w_CA_21), .unset] [(.int (2 : Int32))])) _
        refine XS.bipush X1.here hx rfl (hb hby at_14) ?_
        show Steps p.tables e below (T1.setTop (mkF m 16 #[.val (.int p0), .val (.int (2 : Int32)), .val (.ref w_CA_21), .unset] [(.int (15 : Int32)), (.int (2 : Int32))])) _
        refine XS.icmpNo X1.here hx rfl (hb hby at_16) rfl (feq (by decide : ¬ ((2 : Int32) = (15 : Int32)))).1 ?_
        show Steps p.tables e below (T1.setTop (mkF m 19 #[.val (.int p0), .val (.int (2 : Int32)), .val (.ref w_CA_21), .unset] [])) _
        refine XS.iloadN X1.here hx rfl (hb hby at_19) rfl ?_
        show Steps p.tables e below (T1.setTop (mkF m 20 #[.val (.int p0), .val (.int (2 : Int32)), .val (.ref w_CA_21), .unset] [(.int (2 : Int32))])) _
        refine XS.bipush X1.here hx rfl (hb hby at_20) ?_
        show Steps p.tables e below (T1.setTop (mkF m 22 #[.val (.int p0), .val (.int (2 : Int32)), .val (.ref w_CA_21), .unset] [(.int (16 : Int32)), (.int (2 : Int32))])) _
        refine XS.icmpNo X1.here hx rfl (hb hby at_22) rfl (feq (by decide : ¬ ((2 : Int32) = (16 : Int32)))).1 ?_
        show Steps p.tables e below (T1.setTop (mkF m 25 #[.val (.int p0), .val (.int (2 : Int32)), .val (.ref w_CA_21), .unset] [])) _
        refine XS.iloadN X1.here hx rfl (hb hby at_25) rfl ?_
        show Steps p.tables e below (T1.setTop (mkF m 26 #[.val (.int p0), .val (.int (2 : Int32)), .val (.ref w_CA_21), .unset] [(.int (2 : Int32))])) _
        refine XS.bipush X1.here hx rfl (hb hby at_26) ?_
        show Steps p.tables e below (T1.setTop (mkF m 28 #[.val (.int p0), .val (.int (2 : Int32)), .val (.ref w_CA_21), .unset] [(.int (30 : Int32)), (.int (2 : Int32))])) _
        refine XS.icmpYes X1.here hx rfl (pc0 := 28) (pc' := 35) rfl (hb hby at_28) rfl (feq (by decide : ¬ ((2 : Int32) = (30 : Int32)))).2 (by decide) (by decide) ?_
        show Steps p.tables e below (T1.setTop (mkF m 35 #[.val (.int p0), .val (.int (2 : Int32)), .val (.ref w_CA_21), .unset] [])) _
        refine XS.iconst X1.here hx rfl (hb hby at_35) ?_
        show Steps p.tables e below (T1.setTop (mkF m 36 #[.val (.int p0), .val (.int (2 : Int32)), .val (.ref w_CA_21), .unset] [(.int (0 : Int32))])) _
        refine XS.istoreN X1.here hx rfl (hb hby at_36) rfl (l' := #[.val (.int p0), .val (.int (2 : Int32)), .val (.ref w_CA_21), .val (.int (0 : Int32))]) rfl ?_
        show Steps p.tables e below (T1.setTop (mkF m 37 #[.val (.int p0), .val (.int (2 : Int32)), .val (.ref w_CA_21), .val (.int (0 : Int32))] [])) _
        refine XS.aloadN X1.here hx rfl (hb hby at_37) rfl rfl ?_
        show Steps p.tables e below (T1.setTop (mkF m 38 #[.val (.int p0), .val (.int (2 : Int32)), .val (.ref w_CA_21), .val (.int (0 : Int32))] [(.ref w_CA_21)])) _
        refine st12.trans ?_
        exact kt)
    obtain rfl : (1 : Int32) = r13 := Pr13.2 nofun
    have pre15 : ∀ t, Steps p.tables e below (T12.setTop (mkF m 58 #[.val (.int p0), .val (.int (2 : Int32)), .val (.ref w_CA_21), .val (.int (0 : Int32))] [(.int (1 : Int32))])) t → Steps p.tables e below (s₁.setTop (entryFrame m #[(.int p0)] maxLocals)) t := fun t kt => pre14 t (by
        show Steps p.tables e below (T12.setTop (mkF m 41 #[.val (.int p0), .val (.int (2 : Int32)), .val (.ref w_CA_21), .val (.int (0 : Int32))] [(.int (1 : Int32))])) _
        refine XS.iloadN X12.here hx rfl (hb hby at_41) rfl ?_
        show Steps p.tables e below (T12.setTop (mkF m 42 #[.val (.int p0), .val (.int (2 : Int32)), .val (.ref w_CA_21), .val (.int (0 : Int32))] [(.int (0 : Int32)), (.int (1 : Int32))])) _
        refine XS.ifNo X12.here hx rfl (hb hby at_42) rfl ((if0 _ _).trans (teq (rfl : (0 : Int32) = (0 : Int32))).2) ?_
        show Steps p.tables e below (T12.setTop (mkF m 45 #[.val (.int p0), .val (.int (2 : Int32)), .val (.ref w_CA_21), .val (.int (0 : Int32))] [(.int (1 : Int32))])) _
        refine XS.iconst X12.here hx rfl (hb hby at_45) ?_
        show Steps p.tables e below (T12.setTop (mkF m 46 #[.val (.int p0), .val (.int (2 : Int32)), .val (.ref w_CA_21), .val (.int (0 : Int32))] [(.int (1 : Int32)), (.int (1 : Int32))])) _
        refine XS.goto X12.here hx rfl (pc0 := 46) (pc' := 50) rfl (hb hby at_46) (by decide) (by decide) ?_
        show Steps p.tables e below (T12.setTop (mkF m 50 #[.val (.int p0), .val (.int (2 : Int32)), .val (.ref w_CA_21), .val (.int (0 : Int32))] [(.int (1 : Int32)), (.int (1 : Int32))])) _
        refine XS.icmpNo X12.here hx rfl (hb hby at_50) rfl (teq (rfl : (1 : Int32) = (1 : Int32))).2 ?_
        show Steps p.tables e below (T12.setTop (mkF m 53 #[.val (.int p0), .val (.int (2 : Int32)), .val (.ref w_CA_21), .val (.int (0 : Int32))] [])) _
        refine XS.iconst X12.here hx rfl (hb hby at_53) ?_
        show Steps p.tables e below (T12.setTop (mkF m 54 #[.val (.int p0), .val (.int (2 : Int32)), .val (.ref w_CA_21), .val (.int (0 : Int32))] [(.int (1 : Int32))])) _
        refine XS.goto X12.here hx rfl (pc0 := 54) (pc' := 58) rfl (hb hby at_54) (by decide) (by decide) ?_
        exact kt)
    obtain ⟨fs, hr, hrun, hended, hW, hsame⟩ := X12.leave (v := some (.int (1 : Int32))) (fun h => by rw [Bd.returns] at h; cases h)
    refine ⟨_, _, pre15 _ ?_, hrun, hended, _, _, rfl, ?_, ⟨_, rfl⟩, hW, hsame.mono (by decide) (by decide)⟩
    · show Steps p.tables e below (T12.setTop (mkF m 58 #[.val (.int p0), .val (.int (2 : Int32)), .val (.ref w_CA_21), .val (.int (0 : Int32))] [(.int (1 : Int32))])) _
      exact retN X12 hx (t := .boolean) Bd.returns (by simp) (hb hby at_58) hr
    · show Q0 Z _ _ _ _ _ _ _ _ _ _ _ _ _ _ _ _ _ _ _ _ _ _ _ _ _ _ _ _ _ _ _ _ _ _ _ _ _ _ _ _ _ _ _ _ _ h0 n0 _ T12.heap _
      rw [e12]
      exact ⟨rfl, N12, rfl⟩
  · skip
    obtain ⟨cq16, kq16, q16a, q16b, q16c⟩ := isOf hZ e1 E_5
    obtain ⟨_, _, ⟨T16, L16, k16, n16⟩, -, X16, ⟨Lc16, hQ16, l16, y16, z16⟩, st16⟩ := X1.virtualBack hx (y := (⟨"com/example/token_handoff/tokenhandoff/cli/Option", "takesValue", "()Z"⟩ : MethodName)) (z := (⟨"com/example/token_handoff/tokenhandoff/cli/Option", "takesValue", "()Z"⟩ : MethodName)) hown (mvT hZ (hw _ (List.mem_of_getElem? (i := 8) rfl))) (mvT hZ (hw _ (List.mem_of_getElem? (i := 9) rfl))) (notFace_of_selects (args := #[]) (mvT hZ (hw _ (List.mem_of_getElem? (i := 11) rfl)))) (mvT hZ (hw _ (List.mem_of_getElem? (i := 11) rfl))) (mvT hZ (hw _ (List.mem_of_getElem? (i := 10) rfl))) (by decide) (backOf (W := 0) (rm2 l Z aw hw [] w_KNOWN_5 (.ref w_value_3) h0 n0 Z0 rfl F_value_6) hZ (hw _ (List.mem_of_getElem? (i := 12) rfl)) (hw _ (List.mem_of_getElem? (i := 6) rfl)) (by decide) (by decide)) q16a q16c (g := (mkF m 38 #[.val (.int p0), .val (.int (3 : Int32)), .val (.ref w_KNOWN_5), .val (.int (0 : Int32))] [(.ref w_KNOWN_5)])) rfl (by rw [hml]; rfl) (Steps.refl _) (argsL := []) (rest := []) (lenOf pd_1 rfl) rfl (by show 2 * 0 + _ ≤ _; exact Nat.le_of_eq rfl) (hb hby at_38) (fun _ _ => ⟨rfl, e1, (by decide : 0 + 0 ≤ _), (by decide : 0 + 0 ≤ _)⟩)
    dsimp only [Pt.U, Pt.locs, Pt.cells, Pt.slots] at X16 l16 y16 z16 st16 hQ16
    subst l16 y16 z16
    obtain ⟨⟨r17, rfl, Pr17⟩, Nq16, e16⟩ := hQ16
    have N16 := Fr.app N1 Nq16
    have pre18 : ∀ t, Steps p.tables e below (T16.setTop (mkF m 41 #[.val (.int p0), .val (.int (3 : Int32)), .val (.ref w_KNOWN_5), .val (.int (0 : Int32))] [(.int r17)])) t → Steps p.tables e below (s₁.setTop (entryFrame m #[(.int p0)] maxLocals)) t := fun t kt => pre3 t (by
        show Steps p.tables e below (T1.setTop (mkF m 12 #[.val (.int p0), .val (.int (3 : Int32)), .unset, .unset] [(.ref w_KNOWN_5)])) _
        refine XS.astoreN X1.here hx rfl (hb hby at_12) rfl rfl (l' := #[.val (.int p0), .val (.int (3 : Int32)), .val (.ref w_KNOWN_5), .unset]) rfl ?_
        show Steps p.tables e below (T1.setTop (mkF m 13 #[.val (.int p0), .val (.int (3 : Int32)), .val (.ref w_KNOWN_5), .unset] [])) _
        refine XS.iloadN X1.here hx rfl (hb hby at_13) rfl ?_
        show Steps p.tables e below (T1.setTop (mkF m 14 #[.val (.int p0), .val (.int (3 : Int32)), .val (.ref w_KNOWN_5), .unset] [(.int (3 : Int32))])) _
        refine XS.bipush X1.here hx rfl (hb hby at_14) ?_
        show Steps p.tables e below (T1.setTop (mkF m 16 #[.val (.int p0), .val (.int (3 : Int32)), .val (.ref w_KNOWN_5), .unset] [(.int (15 : Int32)), (.int (3 : Int32))])) _
        refine XS.icmpNo X1.here hx rfl (hb hby at_16) rfl (feq (by decide : ¬ ((3 : Int32) = (15 : Int32)))).1 ?_
        show Steps p.tables e below (T1.setTop (mkF m 19 #[.val (.int p0), .val (.int (3 : Int32)), .val (.ref w_KNOWN_5), .unset] [])) _
        refine XS.iloadN X1.here hx rfl (hb hby at_19) rfl ?_
        show Steps p.tables e below (T1.setTop (mkF m 20 #[.val (.int p0), .val (.int (3 : Int32)), .val (.ref w_KNOWN_5), .unset] [(.int (3 : Int32))])) _
        refine XS.bipush X1.here hx rfl (hb hby at_20) ?_
        show Steps p.tables e below (T1.setTop (mkF m 22 #[.val (.int p0), .val (.int (3 : Int32)), .val (.ref w_KNOWN_5), .unset] [(.int (16 : Int32)), (.int (3 : Int32))])) _
        refine XS.icmpNo X1.here hx rfl (hb hby at_22) rfl (feq (by decide : ¬ ((3 : Int32) = (16 : Int32)))).1 ?_
        show Steps p.tables e below (T1.setTop (mkF m 25 #[.val (.int p0), .val (.int (3 : Int32)), .val (.ref w_KNOWN_5), .unset] [])) _
        refine XS.iloadN X1.here hx rfl (hb hby at_25) rfl ?_
        show Steps p.tables e below (T1.setTop (mkF m 26 #[.val (.int p0), .val (.int (3 : Int32)), .val (.ref w_KNOWN_5), .unset] [(.int (3 : Int32))])) _
        refine XS.bipush X1.here hx rfl (hb hby at_26) ?_
        show Steps p.tables e below (T1.setTop (mkF m 28 #[.val (.int p0), .val (.int (3 : Int32)), .val (.ref w_KNOWN_5), .unset] [(.int (30 : Int32)), (.int (3 : Int32))])) _
        refine XS.icmpYes X1.here hx rfl (pc0 := 28) (pc' := 35) rfl (hb hby at_28) rfl (feq (by decide : ¬ ((3 : Int32) = (30 : Int32)))).2 (by decide) (by decide) ?_
        show Steps p.tables e below (T1.setTop (mkF m 35 #[.val (.int p0), .val (.int (3 : Int32)), .val (.ref w_KNOWN_5), .unset] [])) _
        refine XS.iconst X1.here hx rfl (hb hby at_35) ?_
        show Steps p.tables e below (T1.setTop (mkF m 36 #[.val (.int p0), .val (.int (3 : Int32)), .val (.ref w_KNOWN_5), .unset] [(.int (0 : Int32))])) _
        refine XS.istoreN X1.here hx rfl (hb hby at_36) rfl (l' := #[.val (.int p0), .val (.int (3 : Int32)), .val (.ref w_KNOWN_5), .val (.int (0 : Int32))]) rfl ?_
        show Steps p.tables e below (T1.setTop (mkF m 37 #[.val (.int p0), .val (.int (3 : Int32)), .val (.ref w_KNOWN_5), .val (.int (0 : Int32))] [])) _
        refine XS.aloadN X1.here hx rfl (hb hby at_37) rfl rfl ?_
        show Steps p.tables e below (T1.setTop (mkF m 38 #[.val (.int p0), .val (.int (3 : Int32)), .val (.ref w_KNOWN_5), .val (.int (0 : Int32))] [(.ref w_KNOWN_5)])) _
        refine st16.trans ?_
        exact kt)
    obtain rfl : (1 : Int32) = r17 := Pr17.2 nofun
    have pre19 : ∀ t, Steps p.tables e below (T16.setTop (mkF m 58 #[.val (.int p0), .val (.int (3 : Int32)), .val (.ref w_KNOWN_5), .val (.int (0 : Int32))] [(.int (1 : Int32))])) t → Steps p.tables e below (s₁.setTop (entryFrame m #[(.int p0)] maxLocals)) t := fun t kt => pre18 t (by
        show Steps p.tables e below (T16.setTop (mkF m 41 #[.val (.int p0), .val (.int (3 : Int32)), .val (.ref w_KNOWN_5), .val (.int (0 : Int32))] [(.int (1 : Int32))])) _
        refine XS.iloadN X16.here hx rfl (hb hby at_41) rfl ?_
        show Steps p.tables e below (T16.setTop (mkF m 42 #[.val (.int p0), .val (.int (3 : Int32)), .val (.ref w_KNOWN_5), .val (.int (0 : Int32))] [(.int (0 : Int32)), (.int (1 : Int32))])) _
        refine XS.ifNo X16.here hx rfl (hb hby at_42) rfl ((if0 _ _).trans (teq (rfl : (0 : Int32) = (0 : Int32))).2) ?_
        show Steps p.tables e below (T16.setTop (mkF m 45 #[.val (.int p0), .val (.int (3 : Int32)), .val (.ref w_KNOWN_5), .val (.int (0 : Int32))] [(.int (1 : Int32))])) _
        refine XS.iconst X16.here hx rfl (hb hby at_45) ?_
        show Steps p.tables e below (T16.setTop (mkF m 46 #[.val (.int p0), .val (.int (3 : Int32)), .val (.ref w_KNOWN_5), .val (.int (0 : Int32))] [(.int (1 : Int32)), (.int (1 : Int32))])) _
        refine XS.goto X16.here hx rfl (pc0 := 46) (pc' := 50) rfl (hb hby at_46) (by decide) (by decide) ?_
        show Steps p.tables e below (T16.setTop (mkF m 50 #[.val (.int p0), .val (.int (3 : Int32)), .val (.ref w_KNOWN_5), .val (.int (0 : Int32))] [(.int (1 : Int32)), (.int (1 : Int32))])) _
        refine XS.icmpNo X16.here hx rfl (hb hby at_50) rfl (teq (rfl : (1 : Int32) = (1 : Int32))).2 ?_
        show Steps p.tables e below (T16.setTop (mkF m 53 #[.val (.int p0), .val (.int (3 : Int32)), .val (.ref w_KNOWN_5), .val (.int (0 : Int32))] [])) _
        refine XS.iconst X16.here hx rfl (hb hby at_53) ?_
        show Steps p.tables e below (T16.setTop (mkF m 54 #[.val (.int p0), .val (.int (3 : Int32)), .val (.ref w_KNOWN_5), .val (.int (0 : Int32))] [(.int (1 : Int32))])) _
        refine XS.goto X16.here hx rfl (pc0 := 54) (pc' := 58) rfl (hb hby at_54) (by decide) (by decide) ?_
        exact kt)
    obtain ⟨fs, hr, hrun, hended, hW, hsame⟩ := X16.leave (v := some (.int (1 : Int32))) (fun h => by rw [Bd.returns] at h; cases h)
    refine ⟨_, _, pre19 _ ?_, hrun, hended, _, _, rfl, ?_, ⟨_, rfl⟩, hW, hsame.mono (by decide) (by decide)⟩
    · show Steps p.tables e below (T16.setTop (mkF m 58 #[.val (.int p0), .val (.int (3 : Int32)), .val (.ref w_KNOWN_5), .val (.int (0 : Int32))] [(.int (1 : Int32))])) _
      exact retN X16 hx (t := .boolean) Bd.returns (by simp) (hb hby at_58) hr
    · show Q0 Z _ _ _ _ _ _ _ _ _ _ _ _ _ _ _ _ _ _ _ _ _ _ _ _ _ _ _ _ _ _ _ _ _ _ _ _ _ _ _ _ _ _ _ _ _ h0 n0 _ T16.heap _
      rw [e16]
      exact ⟨rfl, N16, rfl⟩
  · skip
    obtain ⟨cq20, kq20, q20a, q20b, q20c⟩ := isOf hZ e1 E_42
    obtain ⟨_, _, ⟨T20, L20, k20, n20⟩, -, X20, ⟨Lc20, hQ20, l20, y20, z20⟩, st20⟩ := X1.virtualBack hx (y := (⟨"com/example/token_handoff/tokenhandoff/cli/Option", "takesValue", "()Z"⟩ : MethodName)) (z := (⟨"com/example/token_handoff/tokenhandoff/cli/Option", "takesValue", "()Z"⟩ : MethodName)) hown (mvT hZ (hw _ (List.mem_of_getElem? (i := 8) rfl))) (mvT hZ (hw _ (List.mem_of_getElem? (i := 9) rfl))) (notFace_of_selects (args := #[]) (mvT hZ (hw _ (List.mem_of_getElem? (i := 11) rfl)))) (mvT hZ (hw _ (List.mem_of_getElem? (i := 11) rfl))) (mvT hZ (hw _ (List.mem_of_getElem? (i := 10) rfl))) (by decide) (backOf (W := 0) (rm2 l Z aw hw [] w_LISTEN_35 (.ref w_value_31) h0 n0 Z0 rfl F_value_43) hZ (hw _ (List.mem_of_getElem? (i := 12) rfl)) (hw _ (List.mem_of_getElem? (i := 6) rfl)) (by decide) (by decide)) q20a q20c (g := (mkF m 38 #[.val (.int p0), .val (.int (4 : Int32)), .val (.ref w_LISTEN_35), .val (.int (0 : Int32))] [(.ref w_LISTEN_35)])) rfl (by rw [hml]; rfl) (Steps.refl _) (argsL := []) (rest := []) (lenOf pd_1 rfl) rfl (by show 2 * 0 + _ ≤ _; exact Nat.le_of_eq rfl) (hb hby at_38) (fun _ _ => ⟨rfl, e1, (by decide : 0 + 0 ≤ _), (by decide : 0 + 0 ≤ _)⟩)
    dsimp only [Pt.U, Pt.locs, Pt.cells, Pt.slots] at X20 l20 y20 z20 st20 hQ20
    subst l20 y20 z20
    obtain ⟨⟨r21, rfl, Pr21⟩, Nq20, e20⟩ := hQ20
    have N20 := Fr.app N1 Nq20
    have pre22 : ∀ t, Steps p.tables e below (T20.setTop (mkF m 41 #[.val (.int p0), .val (.int (4 : Int32)), .val (.ref w_LISTEN_35), .val (.int (0 : Int32))] [(.int r21)])) t → Steps p.tables e below (s₁.setTop (entryFrame m #[(.int p0)] maxLocals)) t := fun t kt => pre3 t (by
        show Steps p.tables e below (T1.setTop (mkF m 12 #[.val (.int p0), .val (.int (4 : Int32)), .unset, .unset] [(.ref w_LISTEN_35)])) _
        refine XS.astoreN X1.here hx rfl (hb hby at_12) rfl rfl (l' := #[.val (.int p0), .val (.int (4 : Int32)), .val (.ref w_LISTEN_35), .unset]) rfl ?_
        show Steps p.tables e below (T1.setTop (mkF m 13 #[.val (.int p0), .val (.int (4 : Int32)), .val (.ref w_LISTEN_35), .unset] [])) _
        refine XS.iloadN X1.here hx rfl (hb hby at_13) rfl ?_
        show Steps p.tables e below (T1.setTop (mkF m 14 #[.val (.int p0), .val (.int (4 : Int32)), .val (.ref w_LISTEN_35), .unset] [(.int (4 : Int32))])) _
        refine XS.bipush X1.here hx rfl (hb hby at_14) ?_
        show Steps p.tables e below (T1.setTop (mkF m 16 #[.val (.int p0), .val (.int (4 : Int32)), .val (.ref w_LISTEN_35), .unset] [(.int (15 : Int32)), (.int (4 : Int32))])) _
        refine XS.icmpNo X1.here hx rfl (hb hby at_16) rfl (feq (by decide : ¬ ((4 : Int32) = (15 : Int32)))).1 ?_
        show Steps p.tables e below (T1.setTop (mkF m 19 #[.val (.int p0), .val (.int (4 : Int32)), .val (.ref w_LISTEN_35), .unset] [])) _
        refine XS.iloadN X1.here hx rfl (hb hby at_19) rfl ?_
        show Steps p.tables e below (T1.setTop (mkF m 20 #[.val (.int p0), .val (.int (4 : Int32)), .val (.ref w_LISTEN_35), .unset] [(.int (4 : Int32))])) _
        refine XS.bipush X1.here hx rfl (hb hby at_20) ?_
        show Steps p.tables e below (T1.setTop (mkF m 22 #[.val (.int p0), .val (.int (4 : Int32)), .val (.ref w_LISTEN_35), .unset] [(.int (16 : Int32)), (.int (4 : Int32))])) _
        refine XS.icmpNo X1.here hx rfl (hb hby at_22) rfl (feq (by decide : ¬ ((4 : Int32) = (16 : Int32)))).1 ?_
        show Steps p.tables e below (T1.setTop (mkF m 25 #[.val (.int p0), .val (.int (4 : Int32)), .val (.ref w_LISTEN_35), .unset] [])) _
        refine XS.iloadN X1.here hx rfl (hb hby at_25) rfl ?_
        show Steps p.tables e below (T1.setTop (mkF m 26 #[.val (.int p0), .val (.int (4 : Int32)), .val (.ref w_LISTEN_35), .unset] [(.int (4 : Int32))])) _
        refine XS.bipush X1.here hx rfl (hb hby at_26) ?_
        show Steps p.tables e below (T1.setTop (mkF m 28 #[.val (.int p0), .val (.int (4 : Int32)), .val (.ref w_LISTEN_35), .unset] [(.int (30 : Int32)), (.int (4 : Int32))])) _
        refine XS.icmpYes X1.here hx rfl (pc0 := 28) (pc' := 35) rfl (hb hby at_28) rfl (feq (by decide : ¬ ((4 : Int32) = (30 : Int32)))).2 (by decide) (by decide) ?_
        show Steps p.tables e below (T1.setTop (mkF m 35 #[.val (.int p0), .val (.int (4 : Int32)), .val (.ref w_LISTEN_35), .unset] [])) _
        refine XS.iconst X1.here hx rfl (hb hby at_35) ?_
        show Steps p.tables e below (T1.setTop (mkF m 36 #[.val (.int p0), .val (.int (4 : Int32)), .val (.ref w_LISTEN_35), .unset] [(.int (0 : Int32))])) _
        refine XS.istoreN X1.here hx rfl (hb hby at_36) rfl (l' := #[.val (.int p0), .val (.int (4 : Int32)), .val (.ref w_LISTEN_35), .val (.int (0 : Int32))]) rfl ?_
        show Steps p.tables e below (T1.setTop (mkF m 37 #[.val (.int p0), .val (.int (4 : Int32)), .val (.ref w_LISTEN_35), .val (.int (0 : Int32))] [])) _
        refine XS.aloadN X1.here hx rfl (hb hby at_37) rfl rfl ?_
        show Steps p.tables e below (T1.setTop (mkF m 38 #[.val (.int p0), .val (.int (4 : Int32)), .val (.ref w_LISTEN_35), .val (.int (0 : Int32))] [(.ref w_LISTEN_35)])) _
        refine st20.trans ?_
        exact kt)
    obtain rfl : (1 : Int32) = r21 := Pr21.2 nofun
    have pre23 : ∀ t, Steps p.tables e below (T20.setTop (mkF m 58 #[.val (.int p0), .val (.int (4 : Int32)), .val (.ref w_LISTEN_35), .val (.int (0 : Int32))] [(.int (1 : Int32))])) t → Steps p.tables e below (s₁.setTop (entryFrame m #[(.int p0)] maxLocals)) t := fun t kt => pre22 t (by
        show Steps p.tables e below (T20.setTop (mkF m 41 #[.val (.int p0), .val (.int (4 : Int32)), .val (.ref w_LISTEN_35), .val (.int (0 : Int32))] [(.int (1 : Int32))])) _
        refine XS.iloadN X20.here hx rfl (hb hby at_41) rfl ?_
        show Steps p.tables e below (T20.setTop (mkF m 42 #[.val (.int p0), .val (.int (4 : Int32)), .val (.ref w_LISTEN_35), .val (.int (0 : Int32))] [(.int (0 : Int32)), (.int (1 : Int32))])) _
        refine XS.ifNo X20.here hx rfl (hb hby at_42) rfl ((if0 _ _).trans (teq (rfl : (0 : Int32) = (0 : Int32))).2) ?_
        show Steps p.tables e below (T20.setTop (mkF m 45 #[.val (.int p0), .val (.int (4 : Int32)), .val (.ref w_LISTEN_35), .val (.int (0 : Int32))] [(.int (1 : Int32))])) _
        refine XS.iconst X20.here hx rfl (hb hby at_45) ?_
        show Steps p.tables e below (T20.setTop (mkF m 46 #[.val (.int p0), .val (.int (4 : Int32)), .val (.ref w_LISTEN_35), .val (.int (0 : Int32))] [(.int (1 : Int32)), (.int (1 : Int32))])) _
        refine XS.goto X20.here hx rfl (pc0 := 46) (pc' := 50) rfl (hb hby at_46) (by decide) (by decide) ?_
        show Steps p.tables e below (T20.setTop (mkF m 50 #[.val (.int p0), .val (.int (4 : Int32)), .val (.ref w_LISTEN_35), .val (.int (0 : Int32))] [(.int (1 : Int32)), (.int (1 : Int32))])) _
        refine XS.icmpNo X20.here hx rfl (hb hby at_50) rfl (teq (rfl : (1 : Int32) = (1 : Int32))).2 ?_
        show Steps p.tables e below (T20.setTop (mkF m 53 #[.val (.int p0), .val (.int (4 : Int32)), .val (.ref w_LISTEN_35), .val (.int (0 : Int32))] [])) _
        refine XS.iconst X20.here hx rfl (hb hby at_53) ?_
        show Steps p.tables e below (T20.setTop (mkF m 54 #[.val (.int p0), .val (.int (4 : Int32)), .val (.ref w_LISTEN_35), .val (.int (0 : Int32))] [(.int (1 : Int32))])) _
        refine XS.goto X20.here hx rfl (pc0 := 54) (pc' := 58) rfl (hb hby at_54) (by decide) (by decide) ?_
        exact kt)
    obtain ⟨fs, hr, hrun, hended, hW, hsame⟩ := X20.leave (v := some (.int (1 : Int32))) (fun h => by rw [Bd.returns] at h; cases h)
    refine ⟨_, _, pre23 _ ?_, hrun, hended, _, _, rfl, ?_, ⟨_, rfl⟩, hW, hsame.mono (by decide) (by decide)⟩
    · show Steps p.tables e below (T20.setTop (mkF m 58 #[.val (.int p0), .val (.int (4 : Int32)), .val (.ref w_LISTEN_35), .val (.int (0 : Int32))] [(.int (1 : Int32))])) _
      exact retN X20 hx (t := .boolean) Bd.returns (by simp) (hb hby at_58) hr
    · show Q0 Z _ _ _ _ _ _ _ _ _ _ _ _ _ _ _ _ _ _ _ _ _ _ _ _ _ _ _ _ _ _ _ _ _ _ _ _ _ _ _ _ _ _ _ _ _ h0 n0 _ T20.heap _
      rw [e20]
      exact ⟨rfl, N20, rfl⟩
  · skip
    obtain ⟨cq24, kq24, q24a, q24b, q24c⟩ := isOf hZ e1 E_73
    obtain ⟨_, _, ⟨T24, L24, k24, n24⟩, -, X24, ⟨Lc24, hQ24, l24, y24, z24⟩, st24⟩ := X1.virtualBack hx (y := (⟨"com/example/token_handoff/tokenhandoff/cli/Option", "takesValue", "()Z"⟩ : MethodName)) (z := (⟨"com/example/token_handoff/tokenhandoff/cli/Option", "takesValue", "()Z"⟩ : MethodName)) hown (mvT hZ (hw _ (List.mem_of_getElem? (i := 8) rfl))) (mvT hZ (hw _ (List.mem_of_getElem? (i := 9) rfl))) (notFace_of_selects (args := #[]) (mvT hZ (hw _ (List.mem_of_getElem? (i := 11) rfl)))) (mvT hZ (hw _ (List.mem_of_getElem? (i := 11) rfl))) (mvT hZ (hw _ (List.mem_of_getElem? (i := 10) rfl))) (by decide) (backOf (W := 0) (rm2 l Z aw hw [] w_TIMEOUT_MS_57 (.ref w_value_9) h0 n0 Z0 rfl F_value_74) hZ (hw _ (List.mem_of_getElem? (i := 12) rfl)) (hw _ (List.mem_of_getElem? (i := 6) rfl)) (by decide) (by decide)) q24a q24c (g := (mkF m 38 #[.val (.int p0), .val (.int (5 : Int32)), .val (.ref w_TIMEOUT_MS_57), .val (.int (0 : Int32))] [(.ref w_TIMEOUT_MS_57)])) rfl (by rw [hml]; rfl) (Steps.refl _) (argsL := []) (rest := []) (lenOf pd_1 rfl) rfl (by show 2 * 0 + _ ≤ _; exact Nat.le_of_eq rfl) (hb hby at_38) (fun _ _ => ⟨rfl, e1, (by decide : 0 + 0 ≤ _), (by decide : 0 + 0 ≤ _)⟩)
    dsimp only [Pt.U, Pt.locs, Pt.cells, Pt.slots] at X24 l24 y24 z24 st24 hQ24
    subst l24 y24 z24
    obtain ⟨⟨r25, rfl, Pr25⟩, Nq24, e24⟩ := hQ24
    have N24 := Fr.app N1 Nq24
    have pre26 : ∀ t, Steps p.tables e below (T24.setTop (mkF m 41 #[.val (.int p0), .val (.int (5 : Int32)), .val (.ref w_TIMEOUT_MS_57), .val (.int (0 : Int32))] [(.int r25)])) t → Steps p.tables e below (s₁.setTop (entryFrame m #[(.int p0)] maxLocals)) t := fun t kt => pre3 t (by
        show Steps p.tables e below (T1.setTop (mkF m 12 #[.val (.int p0), .val (.int (5 : Int32)), .unset, .unset] [(.ref w_TIMEOUT_MS_57)])) _
        refine XS.astoreN X1.here hx rfl (hb hby at_12) rfl rfl (l' := #[.val (.int p0), .val (.int (5 : Int32)), .val (.ref w_TIMEOUT_MS_57), .unset]) rfl ?_
        show Steps p.tables e below (T1.setTop (mkF m 13 #[.val (.int p0), .val (.int (5 : Int32)), .val (.ref w_TIMEOUT_MS_57), .unset] [])) _
        refine XS.iloadN X1.here hx rfl (hb hby at_13) rfl ?_
        show Steps p.tables e below (T1.setTop (mkF m 14 #[.val (.int p0), .val (.int (5 : Int32)), .val (.ref w_TIMEOUT_MS_57), .unset] [(.int (5 : Int32))])) _
        refine XS.bipush X1.here hx rfl (hb hby at_14) ?_
        show Steps p.tables e below (T1.setTop (mkF m 16 #[.val (.int p0), .val (.int (5 : Int32)), .val (.ref w_TIMEOUT_MS_57), .unset] [(.int (15 : Int32)), (.int (5 : Int32))])) _
        refine XS.icmpNo X1.here hx rfl (hb hby at_16) rfl (feq (by decide : ¬ ((5 : Int32) = (15 : Int32)))).1 ?_
        show Steps p.tables e below (T1.setTop (mkF m 19 #[.val (.int p0), .val (.int (5 : Int32)), .val (.ref w_TIMEOUT_MS_57), .unset] [])) _
        refine XS.iloadN X1.here hx rfl (hb hby at_19) rfl ?_
        show Steps p.tables e below (T1.setTop (mkF m 20 #[.val (.int p0), .val (.int (5 : Int32)), .val (.ref w_TIMEOUT_MS_57), .unset] [(.int (5 : Int32))])) _
        refine XS.bipush X1.here hx rfl (hb hby at_20) ?_
        show Steps p.tables e below (T1.setTop (mkF m 22 #[.val (.int p0), .val (.int (5 : Int32)), .val (.ref w_TIMEOUT_MS_57), .unset] [(.int (16 : Int32)), (.int (5 : Int32))])) _
        refine XS.icmpNo X1.here hx rfl (hb hby at_22) rfl (feq (by decide : ¬ ((5 : Int32) = (16 : Int32)))).1 ?_
        show Steps p.tables e below (T1.setTop (mkF m 25 #[.val (.int p0), .val (.int (5 : Int32)), .val (.ref w_TIMEOUT_MS_57), .unset] [])) _
        refine XS.iloadN X1.here hx rfl (hb hby at_25) rfl ?_
        show Steps p.tables e below (T1.setTop (mkF m 26 #[.val (.int p0), .val (.int (5 : Int32)), .val (.ref w_TIMEOUT_MS_57), .unset] [(.int (5 : Int32))])) _
        refine XS.bipush X1.here hx rfl (hb hby at_26) ?_
        show Steps p.tables e below (T1.setTop (mkF m 28 #[.val (.int p0), .val (.int (5 : Int32)), .val (.ref w_TIMEOUT_MS_57), .unset] [(.int (30 : Int32)), (.int (5 : Int32))])) _
        refine XS.icmpYes X1.here hx rfl (pc0 := 28) (pc' := 35) rfl (hb hby at_28) rfl (feq (by decide : ¬ ((5 : Int32) = (30 : Int32)))).2 (by decide) (by decide) ?_
        show Steps p.tables e below (T1.setTop (mkF m 35 #[.val (.int p0), .val (.int (5 : Int32)), .val (.ref w_TIMEOUT_MS_57), .unset] [])) _
        refine XS.iconst X1.here hx rfl (hb hby at_35) ?_
        show Steps p.tables e below (T1.setTop (mkF m 36 #[.val (.int p0), .val (.int (5 : Int32)), .val (.ref w_TIMEOUT_MS_57), .unset] [(.int (0 : Int32))])) _
        refine XS.istoreN X1.here hx rfl (hb hby at_36) rfl (l' := #[.val (.int p0), .val (.int (5 : Int32)), .val (.ref w_TIMEOUT_MS_57), .val (.int (0 : Int32))]) rfl ?_
        show Steps p.tables e below (T1.setTop (mkF m 37 #[.val (.int p0), .val (.int (5 : Int32)), .val (.ref w_TIMEOUT_MS_57), .val (.int (0 : Int32))] [])) _
        refine XS.aloadN X1.here hx rfl (hb hby at_37) rfl rfl ?_
        show Steps p.tables e below (T1.setTop (mkF m 38 #[.val (.int p0), .val (.int (5 : Int32)), .val (.ref w_TIMEOUT_MS_57), .val (.int (0 : Int32))] [(.ref w_TIMEOUT_MS_57)])) _
        refine st24.trans ?_
        exact kt)
    obtain rfl : (1 : Int32) = r25 := Pr25.2 nofun
    have pre27 : ∀ t, Steps p.tables e below (T24.setTop (mkF m 58 #[.val (.int p0), .val (.int (5 : Int32)), .val (.ref w_TIMEOUT_MS_57), .val (.int (0 : Int32))] [(.int (1 : Int32))])) t → Steps p.tables e below (s₁.setTop (entryFrame m #[(.int p0)] maxLocals)) t := fun t kt => pre26 t (by
        show Steps p.tables e below (T24.setTop (mkF m 41 #[.val (.int p0), .val (.int (5 : Int32)), .val (.ref w_TIMEOUT_MS_57), .val (.int (0 : Int32))] [(.int (1 : Int32))])) _
        refine XS.iloadN X24.here hx rfl (hb hby at_41) rfl ?_
        show Steps p.tables e below (T24.setTop (mkF m 42 #[.val (.int p0), .val (.int (5 : Int32)), .val (.ref w_TIMEOUT_MS_57), .val (.int (0 : Int32))] [(.int (0 : Int32)), (.int (1 : Int32))])) _
        refine XS.ifNo X24.here hx rfl (hb hby at_42) rfl ((if0 _ _).trans (teq (rfl : (0 : Int32) = (0 : Int32))).2) ?_
        show Steps p.tables e below (T24.setTop (mkF m 45 #[.val (.int p0), .val (.int (5 : Int32)), .val (.ref w_TIMEOUT_MS_57), .val (.int (0 : Int32))] [(.int (1 : Int32))])) _
        refine XS.iconst X24.here hx rfl (hb hby at_45) ?_
        show Steps p.tables e below (T24.setTop (mkF m 46 #[.val (.int p0), .val (.int (5 : Int32)), .val (.ref w_TIMEOUT_MS_57), .val (.int (0 : Int32))] [(.int (1 : Int32)), (.int (1 : Int32))])) _
        refine XS.goto X24.here hx rfl (pc0 := 46) (pc' := 50) rfl (hb hby at_46) (by decide) (by decide) ?_
        show Steps p.tables e below (T24.setTop (mkF m 50 #[.val (.int p0), .val (.int (5 : Int32)), .val (.ref w_TIMEOUT_MS_57), .val (.int (0 : Int32))] [(.int (1 : Int32)), (.int (1 : Int32))])) _
        refine XS.icmpNo X24.here hx rfl (hb hby at_50) rfl (teq (rfl : (1 : Int32) = (1 : Int32))).2 ?_
        show Steps p.tables e below (T24.setTop (mkF m 53 #[.val (.int p0), .val (.int (5 : Int32)), .val (.ref w_TIMEOUT_MS_57), .val (.int (0 : Int32))] [])) _
        refine XS.iconst X24.here hx rfl (hb hby at_53) ?_
        show Steps p.tables e below (T24.setTop (mkF m 54 #[.val (.int p0), .val (.int (5 : Int32)), .val (.ref w_TIMEOUT_MS_57), .val (.int (0 : Int32))] [(.int (1 : Int32))])) _
        refine XS.goto X24.here hx rfl (pc0 := 54) (pc' := 58) rfl (hb hby at_54) (by decide) (by decide) ?_
        exact kt)
    obtain ⟨fs, hr, hrun, hended, hW, hsame⟩ := X24.leave (v := some (.int (1 : Int32))) (fun h => by rw [Bd.returns] at h; cases h)
    refine ⟨_, _, pre27 _ ?_, hrun, hended, _, _, rfl, ?_, ⟨_, rfl⟩, hW, hsame.mono (by decide) (by decide)⟩
    · show Steps p.tables e below (T24.setTop (mkF m 58 #[.val (.int p0), .val (.int (5 : Int32)), .val (.ref w_TIMEOUT_MS_57), .val (.int (0 : Int32))] [(.int (1 : Int32))])) _
      exact retN X24 hx (t := .boolean) Bd.returns (by simp) (hb hby at_58) hr
    · show Q0 Z _ _ _ _ _ _ _ _ _ _ _ _ _ _ _ _ _ _ _ _ _ _ _ _ _ _ _ _ _ _ _ _ _ _ _ _ _ _ _ _ _ _ _ _ _ h0 n0 _ T24.heap _
      rw [e24]
      exact ⟨rfl, N24, rfl⟩
  · skip
    obtain ⟨cq28, kq28, q28a, q28b, q28c⟩ := isOf hZ e1 E_19
    obtain ⟨_, _, ⟨T28, L28, k28, n28⟩, -, X28, ⟨Lc28, hQ28, l28, y28, z28⟩, st28⟩ := X1.virtualBack hx (y := (⟨"com/example/token_handoff/tokenhandoff/cli/Option", "takesValue", "()Z"⟩ : MethodName)) (z := (⟨"com/example/token_handoff/tokenhandoff/cli/Option", "takesValue", "()Z"⟩ : MethodName)) hown (mvT hZ (hw _ (List.mem_of_getElem? (i := 8) rfl))) (mvT hZ (hw _ (List.mem_of_getElem? (i := 9) rfl))) (notFace_of_selects (args := #[]) (mvT hZ (hw _ (List.mem_of_getElem? (i := 11) rfl)))) (mvT hZ (hw _ (List.mem_of_getElem? (i := 11) rfl))) (mvT hZ (hw _ (List.mem_of_getElem? (i := 10) rfl))) (by decide) (backOf (W := 0) (rm2 l Z aw hw [] w_MOVE_RETRIES_17 (.ref w_value_9) h0 n0 Z0 rfl F_value_20) hZ (hw _ (List.mem_of_getElem? (i := 12) rfl)) (hw _ (List.mem_of_getElem? (i := 6) rfl)) (by decide) (by decide)) q28a q28c (g := (mkF m 38 #[.val (.int p0), .val (.int (6 : Int32)), .val (.ref w_MOVE_RETRIES_17), .val (.int (0 : Int32))] [(.ref w_MOVE_RETRIES_17)])) rfl (by rw [hml]; rfl) (Steps.refl _) (argsL := []) (rest := []) (lenOf pd_1 rfl) rfl (by show 2 * 0 + _ ≤ _; exact Nat.le_of_eq rfl) (hb hby at_38) (fun _ _ => ⟨rfl, e1, (by decide : 0 + 0 ≤ _), (by decide : 0 + 0 ≤ _)⟩)
    dsimp only [Pt.U, Pt.locs, Pt.cells, Pt.slots] at X28 l28 y28 z28 st28 hQ28
    subst l28 y28 z28
    obtain ⟨⟨r29, rfl, Pr29⟩, Nq28, e28⟩ := hQ28
    have N28 := Fr.app N1 Nq28
    have pre30 : ∀ t, Steps p.tables e below (T28.setTop (mkF m 41 #[.val (.int p0), .val (.int (6 : Int32)), .val (.ref w_MOVE_RETRIES_17), .val (.int (0 : Int32))] [(.int r29)])) t → Steps p.tables e below (s₁.setTop (entryFrame m #[(.int p0)] maxLocals)) t := fun t kt => pre3 t (by
        show Steps p.tables e below (T1.setTop (mkF m 12 #[.val (.int p0), .val (.int (6 : Int32)), .unset, .unset] [(.ref w_MOVE_RETRIES_17)])) _
        refine XS.astoreN X1.here hx rfl (hb hby at_12) rfl rfl (l' := #[.val (.int p0), .val (.int (6 : Int32)), .val (.ref w_MOVE_RETRIES_17), .unset]) rfl ?_
        show Steps p.tables e below (T1.setTop (mkF m 13 #[.val (.int p0), .val (.int (6 : Int32)), .val (.ref w_MOVE_RETRIES_17), .unset] [])) _
        refine XS.iloadN X1.here hx rfl (hb hby at_13) rfl ?_
        show Steps p.tables e below (T1.setTop (mkF m 14 #[.val (.int p0), .val (.int (6 : Int32)), .val (.ref w_MOVE_RETRIES_17), .unset] [(.int (6 : Int32))])) _
        refine XS.bipush X1.here hx rfl (hb hby at_14) ?_
        show Steps p.tables e below (T1.setTop (mkF m 16 #[.val (.int p0), .val (.int (6 : Int32)), .val (.ref w_MOVE_RETRIES_17), .unset] [(.int (15 : Int32)), (.int (6 : Int32))])) _
        refine XS.icmpNo X1.here hx rfl (hb hby at_16) rfl (feq (by decide : ¬ ((6 : Int32) = (15 : Int32)))).1 ?_
        show Steps p.tables e below (T1.setTop (mkF m 19 #[.val (.int p0), .val (.int (6 : Int32)), .val (.ref w_MOVE_RETRIES_17), .unset] [])) _
        refine XS.iloadN X1.here hx rfl (hb hby at_19) rfl ?_
        show Steps p.tables e below (T1.setTop (mkF m 20 #[.val (.int p0), .val (.int (6 : Int32)), .val (.ref w_MOVE_RETRIES_17), .unset] [(.int (6 : Int32))])) _
        refine XS.bipush X1.here hx rfl (hb hby at_20) ?_
        show Steps p.tables e below (T1.setTop (mkF m 22 #[.val (.int p0), .val (.int (6 : Int32)), .val (.ref w_MOVE_RETRIES_17), .unset] [(.int (16 : Int32)), (.int (6 : Int32))])) _
        refine XS.icmpNo X1.here hx rfl (hb hby at_22) rfl (feq (by decide : ¬ ((6 : Int32) = (16 : Int32)))).1 ?_
        show Steps p.tables e below (T1.setTop (mkF m 25 #[.val (.int p0), .val (.int (6 : Int32)), .val (.ref w_MOVE_RETRIES_17), .unset] [])) _
        refine XS.iloadN X1.here hx rfl (hb hby at_25) rfl ?_
        show Steps p.tables e below (T1.setTop (mkF m 26 #[.val (.int p0), .val (.int (6 : Int32)), .val (.ref w_MOVE_RETRIES_17), .unset] [(.int (6 : Int32))])) _
        refine XS.bipush X1.here hx rfl (hb hby at_26) ?_
        show Steps p.tables e below (T1.setTop (mkF m 28 #[.val (.int p0), .val (.int (6 : Int32)), .val (.ref w_MOVE_RETRIES_17), .unset] [(.int (30 : Int32)), (.int (6 : Int32))])) _
        refine XS.icmpYes X1.here hx rfl (pc0 := 28) (pc' := 35) rfl (hb hby at_28) rfl (feq (by decide : ¬ ((6 : Int32) = (30 : Int32)))).2 (by decide) (by decide) ?_
        show Steps p.tables e below (T1.setTop (mkF m 35 #[.val (.int p0), .val (.int (6 : Int32)), .val (.ref w_MOVE_RETRIES_17), .unset] [])) _
        refine XS.iconst X1.here hx rfl (hb hby at_35) ?_
        show Steps p.tables e below (T1.setTop (mkF m 36 #[.val (.int p0), .val (.int (6 : Int32)), .val (.ref w_MOVE_RETRIES_17), .unset] [(.int (0 : Int32))])) _
        refine XS.istoreN X1.here hx rfl (hb hby at_36) rfl (l' := #[.val (.int p0), .val (.int (6 : Int32)), .val (.ref w_MOVE_RETRIES_17), .val (.int (0 : Int32))]) rfl ?_
        show Steps p.tables e below (T1.setTop (mkF m 37 #[.val (.int p0), .val (.int (6 : Int32)), .val (.ref w_MOVE_RETRIES_17), .val (.int (0 : Int32))] [])) _
        refine XS.aloadN X1.here hx rfl (hb hby at_37) rfl rfl ?_
        show Steps p.tables e below (T1.setTop (mkF m 38 #[.val (.int p0), .val (.int (6 : Int32)), .val (.ref w_MOVE_RETRIES_17), .val (.int (0 : Int32))] [(.ref w_MOVE_RETRIES_17)])) _
        refine st28.trans ?_
        exact kt)
    obtain rfl : (1 : Int32) = r29 := Pr29.2 nofun
    have pre31 : ∀ t, Steps p.tables e below (T28.setTop (mkF m 58 #[.val (.int p0), .val (.int (6 : Int32)), .val (.ref w_MOVE_RETRIES_17), .val (.int (0 : Int32))] [(.int (1 : Int32))])) t → Steps p.tables e below (s₁.setTop (entryFrame m #[(.int p0)] maxLocals)) t := fun t kt => pre30 t (by
        show Steps p.tables e below (T28.setTop (mkF m 41 #[.val (.int p0), .val (.int (6 : Int32)), .val (.ref w_MOVE_RETRIES_17), .val (.int (0 : Int32))] [(.int (1 : Int32))])) _
        refine XS.iloadN X28.here hx rfl (hb hby at_41) rfl ?_
        show Steps p.tables e below (T28.setTop (mkF m 42 #[.val (.int p0), .val (.int (6 : Int32)), .val (.ref w_MOVE_RETRIES_17), .val (.int (0 : Int32))] [(.int (0 : Int32)), (.int (1 : Int32))])) _
        refine XS.ifNo X28.here hx rfl (hb hby at_42) rfl ((if0 _ _).trans (teq (rfl : (0 : Int32) = (0 : Int32))).2) ?_
        show Steps p.tables e below (T28.setTop (mkF m 45 #[.val (.int p0), .val (.int (6 : Int32)), .val (.ref w_MOVE_RETRIES_17), .val (.int (0 : Int32))] [(.int (1 : Int32))])) _
        refine XS.iconst X28.here hx rfl (hb hby at_45) ?_
        show Steps p.tables e below (T28.setTop (mkF m 46 #[.val (.int p0), .val (.int (6 : Int32)), .val (.ref w_MOVE_RETRIES_17), .val (.int (0 : Int32))] [(.int (1 : Int32)), (.int (1 : Int32))])) _
        refine XS.goto X28.here hx rfl (pc0 := 46) (pc' := 50) rfl (hb hby at_46) (by decide) (by decide) ?_
        show Steps p.tables e below (T28.setTop (mkF m 50 #[.val (.int p0), .val (.int (6 : Int32)), .val (.ref w_MOVE_RETRIES_17), .val (.int (0 : Int32))] [(.int (1 : Int32)), (.int (1 : Int32))])) _
        refine XS.icmpNo X28.here hx rfl (hb hby at_50) rfl (teq (rfl : (1 : Int32) = (1 : Int32))).2 ?_
        show Steps p.tables e below (T28.setTop (mkF m 53 #[.val (.int p0), .val (.int (6 : Int32)), .val (.ref w_MOVE_RETRIES_17), .val (.int (0 : Int32))] [])) _
        refine XS.iconst X28.here hx rfl (hb hby at_53) ?_
        show Steps p.tables e below (T28.setTop (mkF m 54 #[.val (.int p0), .val (.int (6 : Int32)), .val (.ref w_MOVE_RETRIES_17), .val (.int (0 : Int32))] [(.int (1 : Int32))])) _
        refine XS.goto X28.here hx rfl (pc0 := 54) (pc' := 58) rfl (hb hby at_54) (by decide) (by decide) ?_
        exact kt)
    obtain ⟨fs, hr, hrun, hended, hW, hsame⟩ := X28.leave (v := some (.int (1 : Int32))) (fun h => by rw [Bd.returns] at h; cases h)
    refine ⟨_, _, pre31 _ ?_, hrun, hended, _, _, rfl, ?_, ⟨_, rfl⟩, hW, hsame.mono (by decide) (by decide)⟩
    · show Steps p.tables e below (T28.setTop (mkF m 58 #[.val (.int p0), .val (.int (6 : Int32)), .val (.ref w_MOVE_RETRIES_17), .val (.int (0 : Int32))] [(.int (1 : Int32))])) _
      exact retN X28 hx (t := .boolean) Bd.returns (by simp) (hb hby at_58) hr
    · show Q0 Z _ _ _ _ _ _ _ _ _ _ _ _ _ _ _ _ _ _ _ _ _ _ _ _ _ _ _ _ _ _ _ _ _ _ _ _ _ _ _ _ _ _ _ _ _ h0 n0 _ T28.heap _
      rw [e28]
      exact ⟨rfl, N28, rfl⟩
  · skip
    obtain ⟨cq32, kq32, q32a, q32b, q32c⟩ := isOf hZ e1 E_22
    obtain ⟨_, _, ⟨T32, L32, k32, n32⟩, -, X32, ⟨Lc32, hQ32, l32, y32, z32⟩, st32⟩ := X1.virtualBack hx (y := (⟨"com/example/token_handoff/tokenhandoff/cli/Option", "takesValue", "()Z"⟩ : MethodName)) (z := (⟨"com/example/token_handoff/tokenhandoff/cli/Option", "takesValue", "()Z"⟩ : MethodName)) hown (mvT hZ (hw _ (List.mem_of_getElem? (i := 8) rfl))) (mvT hZ (hw _ (List.mem_of_getElem? (i := 9) rfl))) (notFace_of_selects (args := #[]) (mvT hZ (hw _ (List.mem_of_getElem? (i := 11) rfl)))) (mvT hZ (hw _ (List.mem_of_getElem? (i := 11) rfl))) (mvT hZ (hw _ (List.mem_of_getElem? (i := 10) rfl))) (by decide) (backOf (W := 0) (rm2 l Z aw hw [] w_ACK_RETRIES_19 (.ref w_value_9) h0 n0 Z0 rfl F_value_23) hZ (hw _ (List.mem_of_getElem? (i := 12) rfl)) (hw _ (List.mem_of_getElem? (i := 6) rfl)) (by decide) (by decide)) q32a q32c (g := (mkF m 38 #[.val (.int p0), .val (.int (7 : Int32)), .val (.ref w_ACK_RETRIES_19), .val (.int (0 : Int32))] [(.ref w_ACK_RETRIES_19)])) rfl (by rw [hml]; rfl) (Steps.refl _) (argsL := []) (rest := []) (lenOf pd_1 rfl) rfl (by show 2 * 0 + _ ≤ _; exact Nat.le_of_eq rfl) (hb hby at_38) (fun _ _ => ⟨rfl, e1, (by decide : 0 + 0 ≤ _), (by decide : 0 + 0 ≤ _)⟩)
    dsimp only [Pt.U, Pt.locs, Pt.cells, Pt.slots] at X32 l32 y32 z32 st32 hQ32
    subst l32 y32 z32
    obtain ⟨⟨r33, rfl, Pr33⟩, Nq32, e32⟩ := hQ32
    have N32 := Fr.app N1 Nq32
    have pre34 : ∀ t, Steps p.tables e below (T32.setTop (mkF m 41 #[.val (.int p0), .val (.int (7 : Int32)), .val (.ref w_ACK_RETRIES_19), .val (.int (0 : Int32))] [(.int r33)])) t → Steps p.tables e below (s₁.setTop (entryFrame m #[(.int p0)] maxLocals)) t := fun t kt => pre3 t (by
        show Steps p.tables e below (T1.setTop (mkF m 12 #[.val (.int p0), .val (.int (7 : Int32)), .unset, .unset] [(.ref w_ACK_RETRIES_19)])) _
        refine XS.astoreN X1.here hx rfl (hb hby at_12) rfl rfl (l' := #[.val (.int p0), .val (.int (7 : Int32)), .val (.ref w_ACK_RETRIES_19), .unset]) rfl ?_
        show Steps p.tables e below (T1.setTop (mkF m 13 #[.val (.int p0), .val (.int (7 : Int32)), .val (.ref w_ACK_RETRIES_19), .unset] [])) _
        refine XS.iloadN X1.here hx rfl (hb hby at_13) rfl ?_
        show Steps p.tables e below (T1.setTop (mkF m 14 #[.val (.int p0), .val (.int (7 : Int32)), .val (.ref w_ACK_RETRIES_19), .unset] [(.int (7 : Int32))])) _
        refine XS.bipush X1.here hx rfl (hb hby at_14) ?_
        show Steps p.tables e below (T1.setTop (mkF m 16 #[.val (.int p0), .val (.int (7 : Int32)), .val (.ref w_ACK_RETRIES_19), .unset] [(.int (15 : Int32)), (.int (7 : Int32))])) _
        refine XS.icmpNo X1.here hx rfl (hb hby at_16) rfl (feq (by decide : ¬ ((7 : Int32) = (15 : Int32)))).1 ?_
        show Steps p.tables e below (T1.setTop (mkF m 19 #[.val (.int p0), .val (.int (7 : Int32)), .val (.ref w_ACK_RETRIES_19), .unset] [])) _
        refine XS.iloadN X1.here hx rfl (hb hby at_19) rfl ?_
        show Steps p.tables e below (T1.setTop (mkF m 20 #[.val (.int p0), .val (.int (7 : Int32)), .val (.ref w_ACK_RETRIES_19), .unset] [(.int (7 : Int32))])) _
        refine XS.bipush X1.here hx rfl (hb hby at_20) ?_
        show Steps p.tables e below (T1.setTop (mkF m 22 #[.val (.int p0), .val (.int (7 : Int32)), .val (.ref w_ACK_RETRIES_19), .unset] [(.int (16 : Int32)), (.int (7 : Int32))])) _
        refine XS.icmpNo X1.here hx rfl (hb hby at_22) rfl (feq (by decide : ¬ ((7 : Int32) = (16 : Int32)))).1 ?_
        show Steps p.tables e below (T1.setTop (mkF m 25 #[.val (.int p0), .val (.int (7 : Int32)), .val (.ref w_ACK_RETRIES_19), .unset] [])) _
        refine XS.iloadN X1.here hx rfl (hb hby at_25) rfl ?_
        show Steps p.tables e below (T1.setTop (mkF m 26 #[.val (.int p0), .val (.int (7 : Int32)), .val (.ref w_ACK_RETRIES_19), .unset] [(.int (7 : Int32))])) _
        refine XS.bipush X1.here hx rfl (hb hby at_26) ?_
        show Steps p.tables e below (T1.setTop (mkF m 28 #[.val (.int p0), .val (.int (7 : Int32)), .val (.ref w_ACK_RETRIES_19), .unset] [(.int (30 : Int32)), (.int (7 : Int32))])) _
        refine XS.icmpYes X1.here hx rfl (pc0 := 28) (pc' := 35) rfl (hb hby at_28) rfl (feq (by decide : ¬ ((7 : Int32) = (30 : Int32)))).2 (by decide) (by decide) ?_
        show Steps p.tables e below (T1.setTop (mkF m 35 #[.val (.int p0), .val (.int (7 : Int32)), .val (.ref w_ACK_RETRIES_19), .unset] [])) _
        refine XS.iconst X1.here hx rfl (hb hby at_35) ?_
        show Steps p.tables e below (T1.setTop (mkF m 36 #[.val (.int p0), .val (.int (7 : Int32)), .val (.ref w_ACK_RETRIES_19), .unset] [(.int (0 : Int32))])) _
        refine XS.istoreN X1.here hx rfl (hb hby at_36) rfl (l' := #[.val (.int p0), .val (.int (7 : Int32)), .val (.ref w_ACK_RETRIES_19), .val (.int (0 : Int32))]) rfl ?_
        show Steps p.tables e below (T1.setTop (mkF m 37 #[.val (.int p0), .val (.int (7 : Int32)), .val (.ref w_ACK_RETRIES_19), .val (.int (0 : Int32))] [])) _
        refine XS.aloadN X1.here hx rfl (hb hby at_37) rfl rfl ?_
        show Steps p.tables e below (T1.setTop (mkF m 38 #[.val (.int p0), .val (.int (7 : Int32)), .val (.ref w_ACK_RETRIES_19), .val (.int (0 : Int32))] [(.ref w_ACK_RETRIES_19)])) _
        refine st32.trans ?_
        exact kt)
    obtain rfl : (1 : Int32) = r33 := Pr33.2 nofun
    have pre35 : ∀ t, Steps p.tables e below (T32.setTop (mkF m 58 #[.val (.int p0), .val (.int (7 : Int32)), .val (.ref w_ACK_RETRIES_19), .val (.int (0 : Int32))] [(.int (1 : Int32))])) t → Steps p.tables e below (s₁.setTop (entryFrame m #[(.int p0)] maxLocals)) t := fun t kt => pre34 t (by
        show Steps p.tables e below (T32.setTop (mkF m 41 #[.val (.int p0), .val (.int (7 : Int32)), .val (.ref w_ACK_RETRIES_19), .val (.int (0 : Int32))] [(.int (1 : Int32))])) _
        refine XS.iloadN X32.here hx rfl (hb hby at_41) rfl ?_
        show Steps p.tables e below (T32.setTop (mkF m 42 #[.val (.int p0), .val (.int (7 : Int32)), .val (.ref w_ACK_RETRIES_19), .val (.int (0 : Int32))] [(.int (0 : Int32)), (.int (1 : Int32))])) _
        refine XS.ifNo X32.here hx rfl (hb hby at_42) rfl ((if0 _ _).trans (teq (rfl : (0 : Int32) = (0 : Int32))).2) ?_
        show Steps p.tables e below (T32.setTop (mkF m 45 #[.val (.int p0), .val (.int (7 : Int32)), .val (.ref w_ACK_RETRIES_19), .val (.int (0 : Int32))] [(.int (1 : Int32))])) _
        refine XS.iconst X32.here hx rfl (hb hby at_45) ?_
        show Steps p.tables e below (T32.setTop (mkF m 46 #[.val (.int p0), .val (.int (7 : Int32)), .val (.ref w_ACK_RETRIES_19), .val (.int (0 : Int32))] [(.int (1 : Int32)), (.int (1 : Int32))])) _
        refine XS.goto X32.here hx rfl (pc0 := 46) (pc' := 50) rfl (hb hby at_46) (by decide) (by decide) ?_
        show Steps p.tables e below (T32.setTop (mkF m 50 #[.val (.int p0), .val (.int (7 : Int32)), .val (.ref w_ACK_RETRIES_19), .val (.int (0 : Int32))] [(.int (1 : Int32)), (.int (1 : Int32))])) _
        refine XS.icmpNo X32.here hx rfl (hb hby at_50) rfl (teq (rfl : (1 : Int32) = (1 : Int32))).2 ?_
        show Steps p.tables e below (T32.setTop (mkF m 53 #[.val (.int p0), .val (.int (7 : Int32)), .val (.ref w_ACK_RETRIES_19), .val (.int (0 : Int32))] [])) _
        refine XS.iconst X32.here hx rfl (hb hby at_53) ?_
        show Steps p.tables e below (T32.setTop (mkF m 54 #[.val (.int p0), .val (.int (7 : Int32)), .val (.ref w_ACK_RETRIES_19), .val (.int (0 : Int32))] [(.int (1 : Int32))])) _
        refine XS.goto X32.here hx rfl (pc0 := 54) (pc' := 58) rfl (hb hby at_54) (by decide) (by decide) ?_
        exact kt)
    obtain ⟨fs, hr, hrun, hended, hW, hsame⟩ := X32.leave (v := some (.int (1 : Int32))) (fun h => by rw [Bd.returns] at h; cases h)
    refine ⟨_, _, pre35 _ ?_, hrun, hended, _, _, rfl, ?_, ⟨_, rfl⟩, hW, hsame.mono (by decide) (by decide)⟩
    · show Steps p.tables e below (T32.setTop (mkF m 58 #[.val (.int p0), .val (.int (7 : Int32)), .val (.ref w_ACK_RETRIES_19), .val (.int (0 : Int32))] [(.int (1 : Int32))])) _
      exact retN X32 hx (t := .boolean) Bd.returns (by simp) (hb hby at_58) hr
    · show Q0 Z _ _ _ _ _ _ _ _ _ _ _ _ _ _ _ _ _ _ _ _ _ _ _ _ _ _ _ _ _ _ _ _ _ _ _ _ _ _ _ _ _ _ _ _ _ h0 n0 _ T32.heap _
      rw [e32]
      exact ⟨rfl, N32, rfl⟩
  · skip
    obtain ⟨cq36, kq36, q36a, q36b, q36c⟩ := isOf hZ e1 E_8
    obtain ⟨_, _, ⟨T36, L36, k36, n36⟩, -, X36, ⟨Lc36, hQ36, l36, y36, z36⟩, st36⟩ := X1.virtualBack hx (y := (⟨"com/example/token_handoff/tokenhandoff/cli/Option", "takesValue", "()Z"⟩ : MethodName)) (z := (⟨"com/example/token_handoff/tokenhandoff/cli/Option", "takesValue", "()Z"⟩ : MethodName)) hown (mvT hZ (hw _ (List.mem_of_getElem? (i := 8) rfl))) (mvT hZ (hw _ (List.mem_of_getElem? (i := 9) rfl))) (notFace_of_selects (args := #[]) (mvT hZ (hw _ (List.mem_of_getElem? (i := 11) rfl)))) (mvT hZ (hw _ (List.mem_of_getElem? (i := 11) rfl))) (mvT hZ (hw _ (List.mem_of_getElem? (i := 10) rfl))) (by decide) (backOf (W := 0) (rm2 l Z aw hw [] w_COMMIT_RETRIES_7 (.ref w_value_9) h0 n0 Z0 rfl F_value_9) hZ (hw _ (List.mem_of_getElem? (i := 12) rfl)) (hw _ (List.mem_of_getElem? (i := 6) rfl)) (by decide) (by decide)) q36a q36c (g := (mkF m 38 #[.val (.int p0), .val (.int (8 : Int32)), .val (.ref w_COMMIT_RETRIES_7), .val (.int (0 : Int32))] [(.ref w_COMMIT_RETRIES_7)])) rfl (by rw [hml]; rfl) (Steps.refl _) (argsL := []) (rest := []) (lenOf pd_1 rfl) rfl (by show 2 * 0 + _ ≤ _; exact Nat.le_of_eq rfl) (hb hby at_38) (fun _ _ => ⟨rfl, e1, (by decide : 0 + 0 ≤ _), (by decide : 0 + 0 ≤ _)⟩)
    dsimp only [Pt.U, Pt.locs, Pt.cells, Pt.slots] at X36 l36 y36 z36 st36 hQ36
    subst l36 y36 z36
    obtain ⟨⟨r37, rfl, Pr37⟩, Nq36, e36⟩ := hQ36
    have N36 := Fr.app N1 Nq36
    have pre38 : ∀ t, Steps p.tables e below (T36.setTop (mkF m 41 #[.val (.int p0), .val (.int (8 : Int32)), .val (.ref w_COMMIT_RETRIES_7), .val (.int (0 : Int32))] [(.int r37)])) t → Steps p.tables e below (s₁.setTop (entryFrame m #[(.int p0)] maxLocals)) t := fun t kt => pre3 t (by
        show Steps p.tables e below (T1.setTop (mkF m 12 #[.val (.int p0), .val (.int (8 : Int32)), .unset, .unset] [(.ref w_COMMIT_RETRIES_7)])) _
        refine XS.astoreN X1.here hx rfl (hb hby at_12) rfl rfl (l' := #[.val (.int p0), .val (.int (8 : Int32)), .val (.ref w_COMMIT_RETRIES_7), .unset]) rfl ?_
        show Steps p.tables e below (T1.setTop (mkF m 13 #[.val (.int p0), .val (.int (8 : Int32)), .val (.ref w_COMMIT_RETRIES_7), .unset] [])) _
        refine XS.iloadN X1.here hx rfl (hb hby at_13) rfl ?_
        show Steps p.tables e below (T1.setTop (mkF m 14 #[.val (.int p0), .val (.int (8 : Int32)), .val (.ref w_COMMIT_RETRIES_7), .unset] [(.int (8 : Int32))])) _
        refine XS.bipush X1.here hx rfl (hb hby at_14) ?_
        show Steps p.tables e below (T1.setTop (mkF m 16 #[.val (.int p0), .val (.int (8 : Int32)), .val (.ref w_COMMIT_RETRIES_7), .unset] [(.int (15 : Int32)), (.int (8 : Int32))])) _
        refine XS.icmpNo X1.here hx rfl (hb hby at_16) rfl (feq (by decide : ¬ ((8 : Int32) = (15 : Int32)))).1 ?_
        show Steps p.tables e below (T1.setTop (mkF m 19 #[.val (.int p0), .val (.int (8 : Int32)), .val (.ref w_COMMIT_RETRIES_7), .unset] [])) _
        refine XS.iloadN X1.here hx rfl (hb hby at_19) rfl ?_
        show Steps p.tables e below (T1.setTop (mkF m 20 #[.val (.int p0), .val (.int (8 : Int32)), .val (.ref w_COMMIT_RETRIES_7), .unset] [(.int (8 : Int32))])) _
        refine XS.bipush X1.here hx rfl (hb hby at_20) ?_
        show Steps p.tables e below (T1.setTop (mkF m 22 #[.val (.int p0), .val (.int (8 : Int32)), .val (.ref w_COMMIT_RETRIES_7), .unset] [(.int (16 : Int32)), (.int (8 : Int32))])) _
        refine XS.icmpNo X1.here hx rfl (hb hby at_22) rfl (feq (by decide : ¬ ((8 : Int32) = (16 : Int32)))).1 ?_
        show Steps p.tables e below (T1.setTop (mkF m 25 #[.val (.int p0), .val (.int (8 : Int32)), .val (.ref w_COMMIT_RETRIES_7), .unset] [])) _
        refine XS.iloadN X1.here hx rfl (hb hby at_25) rfl ?_
        show Steps p.tables e below (T1.setTop (mkF m 26 #[.val (.int p0), .val (.int (8 : Int32)), .val (.ref w_COMMIT_RETRIES_7), .unset] [(.int (8 : Int32))])) _
        refine XS.bipush X1.here hx rfl (hb hby at_26) ?_
        show Steps p.tables e below (T1.setTop (mkF m 28 #[.val (.int p0), .val (.int (8 : Int32)), .val (.ref w_COMMIT_RETRIES_7), .unset] [(.int (30 : Int32)), (.int (8 : Int32))])) _
        refine XS.icmpYes X1.here hx rfl (pc0 := 28) (pc' := 35) rfl (hb hby at_28) rfl (feq (by decide : ¬ ((8 : Int32) = (30 : Int32)))).2 (by decide) (by decide) ?_
        show Steps p.tables e below (T1.setTop (mkF m 35 #[.val (.int p0), .val (.int (8 : Int32)), .val (.ref w_COMMIT_RETRIES_7), .unset] [])) _
        refine XS.iconst X1.here hx rfl (hb hby at_35) ?_
        show Steps p.tables e below (T1.setTop (mkF m 36 #[.val (.int p0), .val (.int (8 : Int32)), .val (.ref w_COMMIT_RETRIES_7), .unset] [(.int (0 : Int32))])) _
        refine XS.istoreN X1.here hx rfl (hb hby at_36) rfl (l' := #[.val (.int p0), .val (.int (8 : Int32)), .val (.ref w_COMMIT_RETRIES_7), .val (.int (0 : Int32))]) rfl ?_
        show Steps p.tables e below (T1.setTop (mkF m 37 #[.val (.int p0), .val (.int (8 : Int32)), .val (.ref w_COMMIT_RETRIES_7), .val (.int (0 : Int32))] [])) _
        refine XS.aloadN X1.here hx rfl (hb hby at_37) rfl rfl ?_
        show Steps p.tables e below (T1.setTop (mkF m 38 #[.val (.int p0), .val (.int (8 : Int32)), .val (.ref w_COMMIT_RETRIES_7), .val (.int (0 : Int32))] [(.ref w_COMMIT_RETRIES_7)])) _
        refine st36.trans ?_
        exact kt)
    obtain rfl : (1 : Int32) = r37 := Pr37.2 nofun
    have pre39 : ∀ t, Steps p.tables e below (T36.setTop (mkF m 58 #[.val (.int p0), .val (.int (8 : Int32)), .val (.ref w_COMMIT_RETRIES_7), .val (.int (0 : Int32))] [(.int (1 : Int32))])) t → Steps p.tables e below (s₁.setTop (entryFrame m #[(.int p0)] maxLocals)) t := fun t kt => pre38 t (by
        show Steps p.tables e below (T36.setTop (mkF m 41 #[.val (.int p0), .val (.int (8 : Int32)), .val (.ref w_COMMIT_RETRIES_7), .val (.int (0 : Int32))] [(.int (1 : Int32))])) _
        refine XS.iloadN X36.here hx rfl (hb hby at_41) rfl ?_
        show Steps p.tables e below (T36.setTop (mkF m 42 #[.val (.int p0), .val (.int (8 : Int32)), .val (.ref w_COMMIT_RETRIES_7), .val (.int (0 : Int32))] [(.int (0 : Int32)), (.int (1 : Int32))])) _
        refine XS.ifNo X36.here hx rfl (hb hby at_42) rfl ((if0 _ _).trans (teq (rfl : (0 : Int32) = (0 : Int32))).2) ?_
        show Steps p.tables e below (T36.setTop (mkF m 45 #[.val (.int p0), .val (.int (8 : Int32)), .val (.ref w_COMMIT_RETRIES_7), .val (.int (0 : Int32))] [(.int (1 : Int32))])) _
        refine XS.iconst X36.here hx rfl (hb hby at_45) ?_
        show Steps p.tables e below (T36.setTop (mkF m 46 #[.val (.int p0), .val (.int (8 : Int32)), .val (.ref w_COMMIT_RETRIES_7), .val (.int (0 : Int32))] [(.int (1 : Int32)), (.int (1 : Int32))])) _
        refine XS.goto X36.here hx rfl (pc0 := 46) (pc' := 50) rfl (hb hby at_46) (by decide) (by decide) ?_
        show Steps p.tables e below (T36.setTop (mkF m 50 #[.val (.int p0), .val (.int (8 : Int32)), .val (.ref w_COMMIT_RETRIES_7), .val (.int (0 : Int32))] [(.int (1 : Int32)), (.int (1 : Int32))])) _
        refine XS.icmpNo X36.here hx rfl (hb hby at_50) rfl (teq (rfl : (1 : Int32) = (1 : Int32))).2 ?_
        show Steps p.tables e below (T36.setTop (mkF m 53 #[.val (.int p0), .val (.int (8 : Int32)), .val (.ref w_COMMIT_RETRIES_7), .val (.int (0 : Int32))] [])) _
        refine XS.iconst X36.here hx rfl (hb hby at_53) ?_
        show Steps p.tables e below (T36.setTop (mkF m 54 #[.val (.int p0), .val (.int (8 : Int32)), .val (.ref w_COMMIT_RETRIES_7), .val (.int (0 : Int32))] [(.int (1 : Int32))])) _
        refine XS.goto X36.here hx rfl (pc0 := 54) (pc' := 58) rfl (hb hby at_54) (by decide) (by decide) ?_
        exact kt)
    obtain ⟨fs, hr, hrun, hended, hW, hsame⟩ := X36.leave (v := some (.int (1 : Int32))) (fun h => by rw [Bd.returns] at h; cases h)
    refine ⟨_, _, pre39 _ ?_, hrun, hended, _, _, rfl, ?_, ⟨_, rfl⟩, hW, hsame.mono (by decide) (by decide)⟩
    · show Steps p.tables e below (T36.setTop (mkF m 58 #[.val (.int p0), .val (.int (8 : Int32)), .val (.ref w_COMMIT_RETRIES_7), .val (.int (0 : Int32))] [(.int (1 : Int32))])) _
      exact retN X36 hx (t := .boolean) Bd.returns (by simp) (hb hby at_58) hr
    · show Q0 Z _ _ _ _ _ _ _ _ _ _ _ _ _ _ _ _ _ _ _ _ _ _ _ _ _ _ _ _ _ _ _ _ _ _ _ _ _ _ _ _ _ _ _ _ _ h0 n0 _ T36.heap _
      rw [e36]
      exact ⟨rfl, N36, rfl⟩
  · skip
    obtain ⟨cq40, kq40, q40a, q40b, q40c⟩ := isOf hZ e1 E_15
    obtain ⟨_, _, ⟨T40, L40, k40, n40⟩, -, X40, ⟨Lc40, hQ40, l40, y40, z40⟩, st40⟩ := X1.virtualBack hx (y := (⟨"com/example/token_handoff/tokenhandoff/cli/Option", "takesValue", "()Z"⟩ : MethodName)) (z := (⟨"com/example/token_handoff/tokenhandoff/cli/Option", "takesValue", "()Z"⟩ : MethodName)) hown (mvT hZ (hw _ (List.mem_of_getElem? (i := 8) rfl))) (mvT hZ (hw _ (List.mem_of_getElem? (i := 9) rfl))) (notFace_of_selects (args := #[]) (mvT hZ (hw _ (List.mem_of_getElem? (i := 11) rfl)))) (mvT hZ (hw _ (List.mem_of_getElem? (i := 11) rfl))) (mvT hZ (hw _ (List.mem_of_getElem? (i := 10) rfl))) (by decide) (backOf (W := 0) (rm2 l Z aw hw [] w_DROP_13 (.ref w_value_15) h0 n0 Z0 rfl F_value_16) hZ (hw _ (List.mem_of_getElem? (i := 12) rfl)) (hw _ (List.mem_of_getElem? (i := 6) rfl)) (by decide) (by decide)) q40a q40c (g := (mkF m 38 #[.val (.int p0), .val (.int (9 : Int32)), .val (.ref w_DROP_13), .val (.int (0 : Int32))] [(.ref w_DROP_13)])) rfl (by rw [hml]; rfl) (Steps.refl _) (argsL := []) (rest := []) (lenOf pd_1 rfl) rfl (by show 2 * 0 + _ ≤ _; exact Nat.le_of_eq rfl) (hb hby at_38) (fun _ _ => ⟨rfl, e1, (by decide : 0 + 0 ≤ _), (by decide : 0 + 0 ≤ _)⟩)
    dsimp only [Pt.U, Pt.locs, Pt.cells, Pt.slots] at X40 l40 y40 z40 st40 hQ40
    subst l40 y40 z40
    obtain ⟨⟨r41, rfl, Pr41⟩, Nq40, e40⟩ := hQ40
    have N40 := Fr.app N1 Nq40
    have pre42 : ∀ t, Steps p.tables e below (T40.setTop (mkF m 41 #[.val (.int p0), .val (.int (9 : Int32)), .val (.ref w_DROP_13), .val (.int (0 : Int32))] [(.int r41)])) t → Steps p.tables e below (s₁.setTop (entryFrame m #[(.int p0)] maxLocals)) t := fun t kt => pre3 t (by
        show Steps p.tables e below (T1.setTop (mkF m 12 #[.val (.int p0), .val (.int (9 : Int32)), .unset, .unset] [(.ref w_DROP_13)])) _
        refine XS.astoreN X1.here hx rfl (hb hby at_12) rfl rfl (l' := #[.val (.int p0), .val (.int (9 : Int32)), .val (.ref w_DROP_13), .unset]) rfl ?_
        show Steps p.tables e below (T1.setTop (mkF m 13 #[.val (.int p0), .val (.int (9 : Int32)), .val (.ref w_DROP_13), .unset] [])) _
        refine XS.iloadN X1.here hx rfl (hb hby at_13) rfl ?_
        show Steps p.tables e below (T1.setTop (mkF m 14 #[.val (.int p0), .val (.int (9 : Int32)), .val (.ref w_DROP_13), .unset] [(.int (9 : Int32))])) _
        refine XS.bipush X1.here hx rfl (hb hby at_14) ?_
        show Steps p.tables e below (T1.setTop (mkF m 16 #[.val (.int p0), .val (.int (9 : Int32)), .val (.ref w_DROP_13), .unset] [(.int (15 : Int32)), (.int (9 : Int32))])) _
        refine XS.icmpNo X1.here hx rfl (hb hby at_16) rfl (feq (by decide : ¬ ((9 : Int32) = (15 : Int32)))).1 ?_
        show Steps p.tables e below (T1.setTop (mkF m 19 #[.val (.int p0), .val (.int (9 : Int32)), .val (.ref w_DROP_13), .unset] [])) _
        refine XS.iloadN X1.here hx rfl (hb hby at_19) rfl ?_
        show Steps p.tables e below (T1.setTop (mkF m 20 #[.val (.int p0), .val (.int (9 : Int32)), .val (.ref w_DROP_13), .unset] [(.int (9 : Int32))])) _
        refine XS.bipush X1.here hx rfl (hb hby at_20) ?_
        show Steps p.tables e below (T1.setTop (mkF m 22 #[.val (.int p0), .val (.int (9 : Int32)), .val (.ref w_DROP_13), .unset] [(.int (16 : Int32)), (.int (9 : Int32))])) _
        refine XS.icmpNo X1.here hx rfl (hb hby at_22) rfl (feq (by decide : ¬ ((9 : Int32) = (16 : Int32)))).1 ?_
        show Steps p.tables e below (T1.setTop (mkF m 25 #[.val (.int p0), .val (.int (9 : Int32)), .val (.ref w_DROP_13), .unset] [])) _
        refine XS.iloadN X1.here hx rfl (hb hby at_25) rfl ?_
        show Steps p.tables e below (T1.setTop (mkF m 26 #[.val (.int p0), .val (.int (9 : Int32)), .val (.ref w_DROP_13), .unset] [(.int (9 : Int32))])) _
        refine XS.bipush X1.here hx rfl (hb hby at_26) ?_
        show Steps p.tables e below (T1.setTop (mkF m 28 #[.val (.int p0), .val (.int (9 : Int32)), .val (.ref w_DROP_13), .unset] [(.int (30 : Int32)), (.int (9 : Int32))])) _
        refine XS.icmpYes X1.here hx rfl (pc0 := 28) (pc' := 35) rfl (hb hby at_28) rfl (feq (by decide : ¬ ((9 : Int32) = (30 : Int32)))).2 (by decide) (by decide) ?_
        show Steps p.tables e below (T1.setTop (mkF m 35 #[.val (.int p0), .val (.int (9 : Int32)), .val (.ref w_DROP_13), .unset] [])) _
        refine XS.iconst X1.here hx rfl (hb hby at_35) ?_
        show Steps p.tables e below (T1.setTop (mkF m 36 #[.val (.int p0), .val (.int (9 : Int32)), .val (.ref w_DROP_13), .unset] [(.int (0 : Int32))])) _
        refine XS.istoreN X1.here hx rfl (hb hby at_36) rfl (l' := #[.val (.int p0), .val (.int (9 : Int32)), .val (.ref w_DROP_13), .val (.int (0 : Int32))]) rfl ?_
        show Steps p.tables e below (T1.setTop (mkF m 37 #[.val (.int p0), .val (.int (9 : Int32)), .val (.ref w_DROP_13), .val (.int (0 : Int32))] [])) _
        refine XS.aloadN X1.here hx rfl (hb hby at_37) rfl rfl ?_
        show Steps p.tables e below (T1.setTop (mkF m 38 #[.val (.int p0), .val (.int (9 : Int32)), .val (.ref w_DROP_13), .val (.int (0 : Int32))] [(.ref w_DROP_13)])) _
        refine st40.trans ?_
        exact kt)
    obtain rfl : (1 : Int32) = r41 := Pr41.2 nofun
    have pre43 : ∀ t, Steps p.tables e below (T40.setTop (mkF m 58 #[.val (.int p0), .val (.int (9 : Int32)), .val (.ref w_DROP_13), .val (.int (0 : Int32))] [(.int (1 : Int32))])) t → Steps p.tables e below (s₁.setTop (entryFrame m #[(.int p0)] maxLocals)) t := fun t kt => pre42 t (by
        show Steps p.tables e below (T40.setTop (mkF m 41 #[.val (.int p0), .val (.int (9 : Int32)), .val (.ref w_DROP_13), .val (.int (0 : Int32))] [(.int (1 : Int32))])) _
        refine XS.iloadN X40.here hx rfl (hb hby at_41) rfl ?_
        show Steps p.tables e below (T40.setTop (mkF m 42 #[.val (.int p0), .val (.int (9 : Int32)), .val (.ref w_DROP_13), .val (.int (0 : Int32))] [(.int (0 : Int32)), (.int (1 : Int32))])) _
        refine XS.ifNo X40.here hx rfl (hb hby at_42) rfl ((if0 _ _).trans (teq (rfl : (0 : Int32) = (0 : Int32))).2) ?_
        show Steps p.tables e below (T40.setTop (mkF m 45 #[.val (.int p0), .val (.int (9 : Int32)), .val (.ref w_DROP_13), .val (.int (0 : Int32))] [(.int (1 : Int32))])) _
        refine XS.iconst X40.here hx rfl (hb hby at_45) ?_
        show Steps p.tables e below (T40.setTop (mkF m 46 #[.val (.int p0), .val (.int (9 : Int32)), .val (.ref w_DROP_13), .val (.int (0 : Int32))] [(.int (1 : Int32)), (.int (1 : Int32))])) _
        refine XS.goto X40.here hx rfl (pc0 := 46) (pc' := 50) rfl (hb hby at_46) (by decide) (by decide) ?_
        show Steps p.tables e below (T40.setTop (mkF m 50 #[.val (.int p0), .val (.int (9 : Int32)), .val (.ref w_DROP_13), .val (.int (0 : Int32))] [(.int (1 : Int32)), (.int (1 : Int32))])) _
        refine XS.icmpNo X40.here hx rfl (hb hby at_50) rfl (teq (rfl : (1 : Int32) = (1 : Int32))).2 ?_
        show Steps p.tables e below (T40.setTop (mkF m 53 #[.val (.int p0), .val (.int (9 : Int32)), .val (.ref w_DROP_13), .val (.int (0 : Int32))] [])) _
        refine XS.iconst X40.here hx rfl (hb hby at_53) ?_
        show Steps p.tables e below (T40.setTop (mkF m 54 #[.val (.int p0), .val (.int (9 : Int32)), .val (.ref w_DROP_13), .val (.int (0 : Int32))] [(.int (1 : Int32))])) _
        refine XS.goto X40.here hx rfl (pc0 := 54) (pc' := 58) rfl (hb hby at_54) (by decide) (by decide) ?_
        exact kt)
    obtain ⟨fs, hr, hrun, hended, hW, hsame⟩ := X40.leave (v := some (.int (1 : Int32))) (fun h => by rw [Bd.returns] at h; cases h)
    refine ⟨_, _, pre43 _ ?_, hrun, hended, _, _, rfl, ?_, ⟨_, rfl⟩, hW, hsame.mono (by decide) (by decide)⟩
    · show Steps p.tables e below (T40.setTop (mkF m 58 #[.val (.int p0), .val (.int (9 : Int32)), .val (.ref w_DROP_13), .val (.int (0 : Int32))] [(.int (1 : Int32))])) _
      exact retN X40 hx (t := .boolean) Bd.returns (by simp) (hb hby at_58) hr
    · show Q0 Z _ _ _ _ _ _ _ _ _ _ _ _ _ _ _ _ _ _ _ _ _ _ _ _ _ _ _ _ _ _ _ _ _ _ _ _ _ _ _ _ _ _ _ _ _ h0 n0 _ T40.heap _
      rw [e40]
      exact ⟨rfl, N40, rfl⟩
  · skip
    obtain ⟨cq44, kq44, q44a, q44b, q44c⟩ := isOf hZ e1 E_45
    obtain ⟨_, _, ⟨T44, L44, k44, n44⟩, -, X44, ⟨Lc44, hQ44, l44, y44, z44⟩, st44⟩ := X1.virtualBack hx (y := (⟨"com/example/token_handoff/tokenhandoff/cli/Option", "takesValue", "()Z"⟩ : MethodName)) (z := (⟨"com/example/token_handoff/tokenhandoff/cli/Option", "takesValue", "()Z"⟩ : MethodName)) hown (mvT hZ (hw _ (List.mem_of_getElem? (i := 8) rfl))) (mvT hZ (hw _ (List.mem_of_getElem? (i := 9) rfl))) (notFace_of_selects (args := #[]) (mvT hZ (hw _ (List.mem_of_getElem? (i := 11) rfl)))) (mvT hZ (hw _ (List.mem_of_getElem? (i := 11) rfl))) (mvT hZ (hw _ (List.mem_of_getElem? (i := 10) rfl))) (by decide) (backOf (W := 0) (rm2 l Z aw hw [] w_DELAY_MS_37 (.ref w_value_9) h0 n0 Z0 rfl F_value_46) hZ (hw _ (List.mem_of_getElem? (i := 12) rfl)) (hw _ (List.mem_of_getElem? (i := 6) rfl)) (by decide) (by decide)) q44a q44c (g := (mkF m 38 #[.val (.int p0), .val (.int (10 : Int32)), .val (.ref w_DELAY_MS_37), .val (.int (0 : Int32))] [(.ref w_DELAY_MS_37)])) rfl (by rw [hml]; rfl) (Steps.refl _) (argsL := []) (rest := []) (lenOf pd_1 rfl) rfl (by show 2 * 0 + _ ≤ _; exact Nat.le_of_eq rfl) (hb hby at_38) (fun _ _ => ⟨rfl, e1, (by decide : 0 + 0 ≤ _), (by decide : 0 + 0 ≤ _)⟩)
    dsimp only [Pt.U, Pt.locs, Pt.cells, Pt.slots] at X44 l44 y44 z44 st44 hQ44
    subst l44 y44 z44
    obtain ⟨⟨r45, rfl, Pr45⟩, Nq44, e44⟩ := hQ44
    have N44 := Fr.app N1 Nq44
    have pre46 : ∀ t, Steps p.tables e below (T44.setTop (mkF m 41 #[.val (.int p0), .val (.int (10 : Int32)), .val (.ref w_DELAY_MS_37), .val (.int (0 : Int32))] [(.int r45)])) t → Steps p.tables e below (s₁.setTop (entryFrame m #[(.int p0)] maxLocals)) t := fun t kt => pre3 t (by
        show Steps p.tables e below (T1.setTop (mkF m 12 #[.val (.int p0), .val (.int (10 : Int32)), .unset, .unset] [(.ref w_DELAY_MS_37)])) _
        refine XS.astoreN X1.here hx rfl (hb hby at_12) rfl rfl (l' := #[.val (.int p0), .val (.int (10 : Int32)), .val (.ref w_DELAY_MS_37), .unset]) rfl ?_
        show Steps p.tables e below (T1.setTop (mkF m 13 #[.val (.int p0), .val (.int (10 : Int32)), .val (.ref w_DELAY_MS_37), .unset] [])) _
        refine XS.iloadN X1.here hx rfl (hb hby at_13) rfl ?_
        show Steps p.tables e below (T1.setTop (mkF m 14 #[.val (.int p0), .val (.int (10 : Int32)), .val (.ref w_DELAY_MS_37), .unset] [(.int (10 : Int32))])) _
        refine XS.bipush X1.here hx rfl (hb hby at_14) ?_
        show Steps p.tables e below (T1.setTop (mkF m 16 #[.val (.int p0), .val (.int (10 : Int32)), .val (.ref w_DELAY_MS_37), .unset] [(.int (15 : Int32)), (.int (10 : Int32))])) _
        refine XS.icmpNo X1.here hx rfl (hb hby at_16) rfl (feq (by decide : ¬ ((10 : Int32) = (15 : Int32)))).1 ?_
        show Steps p.tables e below (T1.setTop (mkF m 19 #[.val (.int p0), .val (.int (10 : Int32)), .val (.ref w_DELAY_MS_37), .unset] [])) _
        refine XS.iloadN X1.here hx rfl (hb hby at_19) rfl ?_
        show Steps p.tables e below (T1.setTop (mkF m 20 #[.val (.int p0), .val (.int (10 : Int32)), .val (.ref w_DELAY_MS_37), .unset] [(.int (10 : Int32))])) _
        refine XS.bipush X1.here hx rfl (hb hby at_20) ?_
        show Steps p.tables e below (T1.setTop (mkF m 22 #[.val (.int p0), .val (.int (10 : Int32)), .val (.ref w_DELAY_MS_37), .unset] [(.int (16 : Int32)), (.int (10 : Int32))])) _
        refine XS.icmpNo X1.here hx rfl (hb hby at_22) rfl (feq (by decide : ¬ ((10 : Int32) = (16 : Int32)))).1 ?_
        show Steps p.tables e below (T1.setTop (mkF m 25 #[.val (.int p0), .val (.int (10 : Int32)), .val (.ref w_DELAY_MS_37), .unset] [])) _
        refine XS.iloadN X1.here hx rfl (hb hby at_25) rfl ?_
        show Steps p.tables e below (T1.setTop (mkF m 26 #[.val (.int p0), .val (.int (10 : Int32)), .val (.ref w_DELAY_MS_37), .unset] [(.int (10 : Int32))])) _
        refine XS.bipush X1.here hx rfl (hb hby at_26) ?_
        show Steps p.tables e below (T1.setTop (mkF m 28 #[.val (.int p0), .val (.int (10 : Int32)), .val (.ref w_DELAY_MS_37), .unset] [(.int (30 : Int32)), (.int (10 : Int32))])) _
        refine XS.icmpYes X1.here hx rfl (pc0 := 28) (pc' := 35) rfl (hb hby at_28) rfl (feq (by decide : ¬ ((10 : Int32) = (30 : Int32)))).2 (by decide) (by decide) ?_
        show Steps p.tables e below (T1.setTop (mkF m 35 #[.val (.int p0), .val (.int (10 : Int32)), .val (.ref w_DELAY_MS_37), .unset] [])) _
        refine XS.iconst X1.here hx rfl (hb hby at_35) ?_
        show Steps p.tables e below (T1.setTop (mkF m 36 #[.val (.int p0), .val (.int (10 : Int32)), .val (.ref w_DELAY_MS_37), .unset] [(.int (0 : Int32))])) _
        refine XS.istoreN X1.here hx rfl (hb hby at_36) rfl (l' := #[.val (.int p0), .val (.int (10 : Int32)), .val (.ref w_DELAY_MS_37), .val (.int (0 : Int32))]) rfl ?_
        show Steps p.tables e below (T1.setTop (mkF m 37 #[.val (.int p0), .val (.int (10 : Int32)), .val (.ref w_DELAY_MS_37), .val (.int (0 : Int32))] [])) _
        refine XS.aloadN X1.here hx rfl (hb hby at_37) rfl rfl ?_
        show Steps p.tables e below (T1.setTop (mkF m 38 #[.val (.int p0), .val (.int (10 : Int32)), .val (.ref w_DELAY_MS_37), .val (.int (0 : Int32))] [(.ref w_DELAY_MS_37)])) _
        refine st44.trans ?_
        exact kt)
    obtain rfl : (1 : Int32) = r45 := Pr45.2 nofun
    have pre47 : ∀ t, Steps p.tables e below (T44.setTop (mkF m 58 #[.val (.int p0), .val (.int (10 : Int32)), .val (.ref w_DELAY_MS_37), .val (.int (0 : Int32))] [(.int (1 : Int32))])) t → Steps p.tables e below (s₁.setTop (entryFrame m #[(.int p0)] maxLocals)) t := fun t kt => pre46 t (by
        show Steps p.tables e below (T44.setTop (mkF m 41 #[.val (.int p0), .val (.int (10 : Int32)), .val (.ref w_DELAY_MS_37), .val (.int (0 : Int32))] [(.int (1 : Int32))])) _
        refine XS.iloadN X44.here hx rfl (hb hby at_41) rfl ?_
        show Steps p.tables e below (T44.setTop (mkF m 42 #[.val (.int p0), .val (.int (10 : Int32)), .val (.ref w_DELAY_MS_37), .val (.int (0 : Int32))] [(.int (0 : Int32)), (.int (1 : Int32))])) _
        refine XS.ifNo X44.here hx rfl (hb hby at_42) rfl ((if0 _ _).trans (teq (rfl : (0 : Int32) = (0 : Int32))).2) ?_
        show Steps p.tables e below (T44.setTop (mkF m 45 #[.val (.int p0), .val (.int (10 : Int32)), .val (.ref w_DELAY_MS_37), .val (.int (0 : Int32))] [(.int (1 : Int32))])) _
        refine XS.iconst X44.here hx rfl (hb hby at_45) ?_
        show Steps p.tables e below (T44.setTop (mkF m 46 #[.val (.int p0), .val (.int (10 : Int32)), .val (.ref w_DELAY_MS_37), .val (.int (0 : Int32))] [(.int (1 : Int32)), (.int (1 : Int32))])) _
        refine XS.goto X44.here hx rfl (pc0 := 46) (pc' := 50) rfl (hb hby at_46) (by decide) (by decide) ?_
        show Steps p.tables e below (T44.setTop (mkF m 50 #[.val (.int p0), .val (.int (10 : Int32)), .val (.ref w_DELAY_MS_37), .val (.int (0 : Int32))] [(.int (1 : Int32)), (.int (1 : Int32))])) _
        refine XS.icmpNo X44.here hx rfl (hb hby at_50) rfl (teq (rfl : (1 : Int32) = (1 : Int32))).2 ?_
        show Steps p.tables e below (T44.setTop (mkF m 53 #[.val (.int p0), .val (.int (10 : Int32)), .val (.ref w_DELAY_MS_37), .val (.int (0 : Int32))] [])) _
        refine XS.iconst X44.here hx rfl (hb hby at_53) ?_
        show Steps p.tables e below (T44.setTop (mkF m 54 #[.val (.int p0), .val (.int (10 : Int32)), .val (.ref w_DELAY_MS_37), .val (.int (0 : Int32))] [(.int (1 : Int32))])) _
        refine XS.goto X44.here hx rfl (pc0 := 54) (pc' := 58) rfl (hb hby at_54) (by decide) (by decide) ?_
        exact kt)
    obtain ⟨fs, hr, hrun, hended, hW, hsame⟩ := X44.leave (v := some (.int (1 : Int32))) (fun h => by rw [Bd.returns] at h; cases h)
    refine ⟨_, _, pre47 _ ?_, hrun, hended, _, _, rfl, ?_, ⟨_, rfl⟩, hW, hsame.mono (by decide) (by decide)⟩
    · show Steps p.tables e below (T44.setTop (mkF m 58 #[.val (.int p0), .val (.int (10 : Int32)), .val (.ref w_DELAY_MS_37), .val (.int (0 : Int32))] [(.int (1 : Int32))])) _
      exact retN X44 hx (t := .boolean) Bd.returns (by simp) (hb hby at_58) hr
    · show Q0 Z _ _ _ _ _ _ _ _ _ _ _ _ _ _ _ _ _ _ _ _ _ _ _ _ _ _ _ _ _ _ _ _ _ _ _ _ _ _ _ _ _ _ _ _ _ h0 n0 _ T44.heap _
      rw [e44]
      exact ⟨rfl, N44, rfl⟩
  · skip
    obtain ⟨cq48, kq48, q48a, q48b, q48c⟩ := isOf hZ e1 E_28
    obtain ⟨_, _, ⟨T48, L48, k48, n48⟩, -, X48, ⟨Lc48, hQ48, l48, y48, z48⟩, st48⟩ := X1.virtualBack hx (y := (⟨"com/example/token_handoff/tokenhandoff/cli/Option", "takesValue", "()Z"⟩ : MethodName)) (z := (⟨"com/example/token_handoff/tokenhandoff/cli/Option", "takesValue", "()Z"⟩ : MethodName)) hown (mvT hZ (hw _ (List.mem_of_getElem? (i := 8) rfl))) (mvT hZ (hw _ (List.mem_of_getElem? (i := 9) rfl))) (notFace_of_selects (args := #[]) (mvT hZ (hw _ (List.mem_of_getElem? (i := 11) rfl)))) (mvT hZ (hw _ (List.mem_of_getElem? (i := 11) rfl))) (mvT hZ (hw _ (List.mem_of_getElem? (i := 10) rfl))) (by decide) (backOf (W := 0) (rm2 l Z aw hw [] w_SEED_23 (.ref w_value_25) h0 n0 Z0 rfl F_value_29) hZ (hw _ (List.mem_of_getElem? (i := 12) rfl)) (hw _ (List.mem_of_getElem? (i := 6) rfl)) (by decide) (by decide)) q48a q48c (g := (mkF m 38 #[.val (.int p0), .val (.int (11 : Int32)), .val (.ref w_SEED_23), .val (.int (0 : Int32))] [(.ref w_SEED_23)])) rfl (by rw [hml]; rfl) (Steps.refl _) (argsL := []) (rest := []) (lenOf pd_1 rfl) rfl (by show 2 * 0 + _ ≤ _; exact Nat.le_of_eq rfl) (hb hby at_38) (fun _ _ => ⟨rfl, e1, (by decide : 0 + 0 ≤ _), (by decide : 0 + 0 ≤ _)⟩)
    dsimp only [Pt.U, Pt.locs, Pt.cells, Pt.slots] at X48 l48 y48 z48 st48 hQ48
    subst l48 y48 z48
    obtain ⟨⟨r49, rfl, Pr49⟩, Nq48, e48⟩ := hQ48
    have N48 := Fr.app N1 Nq48
    have pre50 : ∀ t, Steps p.tables e below (T48.setTop (mkF m 41 #[.val (.int p0), .val (.int (11 : Int32)), .val (.ref w_SEED_23), .val (.int (0 : Int32))] [(.int r49)])) t → Steps p.tables e below (s₁.setTop (entryFrame m #[(.int p0)] maxLocals)) t := fun t kt => pre3 t (by
        show Steps p.tables e below (T1.setTop (mkF m 12 #[.val (.int p0), .val (.int (11 : Int32)), .unset, .unset] [(.ref w_SEED_23)])) _
        refine XS.astoreN X1.here hx rfl (hb hby at_12) rfl rfl (l' := #[.val (.int p0), .val (.int (11 : Int32)), .val (.ref w_SEED_23), .unset]) rfl ?_
        show Steps p.tables e below (T1.setTop (mkF m 13 #[.val (.int p0), .val (.int (11 : Int32)), .val (.ref w_SEED_23), .unset] [])) _
        refine XS.iloadN X1.here hx rfl (hb hby at_13) rfl ?_
        show Steps p.tables e below (T1.setTop (mkF m 14 #[.val (.int p0), .val (.int (11 : Int32)), .val (.ref w_SEED_23), .unset] [(.int (11 : Int32))])) _
        refine XS.bipush X1.here hx rfl (hb hby at_14) ?_
        show Steps p.tables e below (T1.setTop (mkF m 16 #[.val (.int p0), .val (.int (11 : Int32)), .val (.ref w_SEED_23), .unset] [(.int (15 : Int32)), (.int (11 : Int32))])) _
        refine XS.icmpNo X1.here hx rfl (hb hby at_16) rfl (feq (by decide : ¬ ((11 : Int32) = (15 : Int32)))).1 ?_
        show Steps p.tables e below (T1.setTop (mkF m 19 #[.val (.int p0), .val (.int (11 : Int32)), .val (.ref w_SEED_23), .unset] [])) _
        refine XS.iloadN X1.here hx rfl (hb hby at_19) rfl ?_
        show Steps p.tables e below (T1.setTop (mkF m 20 #[.val (.int p0), .val (.int (11 : Int32)), .val (.ref w_SEED_23), .unset] [(.int (11 : Int32))])) _
        refine XS.bipush X1.here hx rfl (hb hby at_20) ?_
        show Steps p.tables e below (T1.setTop (mkF m 22 #[.val (.int p0), .val (.int (11 : Int32)), .val (.ref w_SEED_23), .unset] [(.int (16 : Int32)), (.int (11 : Int32))])) _
        refine XS.icmpNo X1.here hx rfl (hb hby at_22) rfl (feq (by decide : ¬ ((11 : Int32) = (16 : Int32)))).1 ?_
        show Steps p.tables e below (T1.setTop (mkF m 25 #[.val (.int p0), .val (.int (11 : Int32)), .val (.ref w_SEED_23), .unset] [])) _
        refine XS.iloadN X1.here hx rfl (hb hby at_25) rfl ?_
        show Steps p.tables e below (T1.setTop (mkF m 26 #[.val (.int p0), .val (.int (11 : Int32)), .val (.ref w_SEED_23), .unset] [(.int (11 : Int32))])) _
        refine XS.bipush X1.here hx rfl (hb hby at_26) ?_
        show Steps p.tables e below (T1.setTop (mkF m 28 #[.val (.int p0), .val (.int (11 : Int32)), .val (.ref w_SEED_23), .unset] [(.int (30 : Int32)), (.int (11 : Int32))])) _
        refine XS.icmpYes X1.here hx rfl (pc0 := 28) (pc' := 35) rfl (hb hby at_28) rfl (feq (by decide : ¬ ((11 : Int32) = (30 : Int32)))).2 (by decide) (by decide) ?_
        show Steps p.tables e below (T1.setTop (mkF m 35 #[.val (.int p0), .val (.int (11 : Int32)), .val (.ref w_SEED_23), .unset] [])) _
        refine XS.iconst X1.here hx rfl (hb hby at_35) ?_
        show Steps p.tables e below (T1.setTop (mkF m 36 #[.val (.int p0), .val (.int (11 : Int32)), .val (.ref w_SEED_23), .unset] [(.int (0 : Int32))])) _
        refine XS.istoreN X1.here hx rfl (hb hby at_36) rfl (l' := #[.val (.int p0), .val (.int (11 : Int32)), .val (.ref w_SEED_23), .val (.int (0 : Int32))]) rfl ?_
        show Steps p.tables e below (T1.setTop (mkF m 37 #[.val (.int p0), .val (.int (11 : Int32)), .val (.ref w_SEED_23), .val (.int (0 : Int32))] [])) _
        refine XS.aloadN X1.here hx rfl (hb hby at_37) rfl rfl ?_
        show Steps p.tables e below (T1.setTop (mkF m 38 #[.val (.int p0), .val (.int (11 : Int32)), .val (.ref w_SEED_23), .val (.int (0 : Int32))] [(.ref w_SEED_23)])) _
        refine st48.trans ?_
        exact kt)
    obtain rfl : (1 : Int32) = r49 := Pr49.2 nofun
    have pre51 : ∀ t, Steps p.tables e below (T48.setTop (mkF m 58 #[.val (.int p0), .val (.int (11 : Int32)), .val (.ref w_SEED_23), .val (.int (0 : Int32))] [(.int (1 : Int32))])) t → Steps p.tables e below (s₁.setTop (entryFrame m #[(.int p0)] maxLocals)) t := fun t kt => pre50 t (by
        show Steps p.tables e below (T48.setTop (mkF m 41 #[.val (.int p0), .val (.int (11 : Int32)), .val (.ref w_SEED_23), .val (.int (0 : Int32))] [(.int (1 : Int32))])) _
        refine XS.iloadN X48.here hx rfl (hb hby at_41) rfl ?_
        show Steps p.tables e below (T48.setTop (mkF m 42 #[.val (.int p0), .val (.int (11 : Int32)), .val (.ref w_SEED_23), .val (.int (0 : Int32))] [(.int (0 : Int32)), (.int (1 : Int32))])) _
        refine XS.ifNo X48.here hx rfl (hb hby at_42) rfl ((if0 _ _).trans (teq (rfl : (0 : Int32) = (0 : Int32))).2) ?_
        show Steps p.tables e below (T48.setTop (mkF m 45 #[.val (.int p0), .val (.int (11 : Int32)), .val (.ref w_SEED_23), .val (.int (0 : Int32))] [(.int (1 : Int32))])) _
        refine XS.iconst X48.here hx rfl (hb hby at_45) ?_
        show Steps p.tables e below (T48.setTop (mkF m 46 #[.val (.int p0), .val (.int (11 : Int32)), .val (.ref w_SEED_23), .val (.int (0 : Int32))] [(.int (1 : Int32)), (.int (1 : Int32))])) _
        refine XS.goto X48.here hx rfl (pc0 := 46) (pc' := 50) rfl (hb hby at_46) (by decide) (by decide) ?_
        show Steps p.tables e below (T48.setTop (mkF m 50 #[.val (.int p0), .val (.int (11 : Int32)), .val (.ref w_SEED_23), .val (.int (0 : Int32))] [(.int (1 : Int32)), (.int (1 : Int32))])) _
        refine XS.icmpNo X48.here hx rfl (hb hby at_50) rfl (teq (rfl : (1 : Int32) = (1 : Int32))).2 ?_
        show Steps p.tables e below (T48.setTop (mkF m 53 #[.val (.int p0), .val (.int (11 : Int32)), .val (.ref w_SEED_23), .val (.int (0 : Int32))] [])) _
        refine XS.iconst X48.here hx rfl (hb hby at_53) ?_
        show Steps p.tables e below (T48.setTop (mkF m 54 #[.val (.int p0), .val (.int (11 : Int32)), .val (.ref w_SEED_23), .val (.int (0 : Int32))] [(.int (1 : Int32))])) _
        refine XS.goto X48.here hx rfl (pc0 := 54) (pc' := 58) rfl (hb hby at_54) (by decide) (by decide) ?_
        exact kt)
    obtain ⟨fs, hr, hrun, hended, hW, hsame⟩ := X48.leave (v := some (.int (1 : Int32))) (fun h => by rw [Bd.returns] at h; cases h)
    refine ⟨_, _, pre51 _ ?_, hrun, hended, _, _, rfl, ?_, ⟨_, rfl⟩, hW, hsame.mono (by decide) (by decide)⟩
    · show Steps p.tables e below (T48.setTop (mkF m 58 #[.val (.int p0), .val (.int (11 : Int32)), .val (.ref w_SEED_23), .val (.int (0 : Int32))] [(.int (1 : Int32))])) _
      exact retN X48 hx (t := .boolean) Bd.returns (by simp) (hb hby at_58) hr
    · show Q0 Z _ _ _ _ _ _ _ _ _ _ _ _ _ _ _ _ _ _ _ _ _ _ _ _ _ _ _ _ _ _ _ _ _ _ _ _ _ _ _ _ _ _ _ _ _ h0 n0 _ T48.heap _
      rw [e48]
      exact ⟨rfl, N48, rfl⟩
  · skip
    obtain ⟨cq52, kq52, q52a, q52b, q52c⟩ := isOf hZ e1 E_80
    obtain ⟨_, _, ⟨T52, L52, k52, n52⟩, -, X52, ⟨Lc52, hQ52, l52, y52, z52⟩, st52⟩ := X1.virtualBack hx (y := (⟨"com/example/token_handoff/tokenhandoff/cli/Option", "takesValue", "()Z"⟩ : MethodName)) (z := (⟨"com/example/token_handoff/tokenhandoff/cli/Option", "takesValue", "()Z"⟩ : MethodName)) hown (mvT hZ (hw _ (List.mem_of_getElem? (i := 8) rfl))) (mvT hZ (hw _ (List.mem_of_getElem? (i := 9) rfl))) (notFace_of_selects (args := #[]) (mvT hZ (hw _ (List.mem_of_getElem? (i := 11) rfl)))) (mvT hZ (hw _ (List.mem_of_getElem? (i := 11) rfl))) (mvT hZ (hw _ (List.mem_of_getElem? (i := 10) rfl))) (by decide) (backOf (W := 0) (rm2 l Z aw hw [] w_TRACE_63 (.ref w_value_3) h0 n0 Z0 rfl F_value_81) hZ (hw _ (List.mem_of_getElem? (i := 12) rfl)) (hw _ (List.mem_of_getElem? (i := 6) rfl)) (by decide) (by decide)) q52a q52c (g := (mkF m 38 #[.val (.int p0), .val (.int (12 : Int32)), .val (.ref w_TRACE_63), .val (.int (0 : Int32))] [(.ref w_TRACE_63)])) rfl (by rw [hml]; rfl) (Steps.refl _) (argsL := []) (rest := []) (lenOf pd_1 rfl) rfl (by show 2 * 0 + _ ≤ _; exact Nat.le_of_eq rfl) (hb hby at_38) (fun _ _ => ⟨rfl, e1, (by decide : 0 + 0 ≤ _), (by decide : 0 + 0 ≤ _)⟩)
    dsimp only [Pt.U, Pt.locs, Pt.cells, Pt.slots] at X52 l52 y52 z52 st52 hQ52
    subst l52 y52 z52
    obtain ⟨⟨r53, rfl, Pr53⟩, Nq52, e52⟩ := hQ52
    have N52 := Fr.app N1 Nq52
    have pre54 : ∀ t, Steps p.tables e below (T52.setTop (mkF m 41 #[.val (.int p0), .val (.int (12 : Int32)), .val (.ref w_TRACE_63), .val (.int (0 : Int32))] [(.int r53)])) t → Steps p.tables e below (s₁.setTop (entryFrame m #[(.int p0)] maxLocals)) t := fun t kt => pre3 t (by
        show Steps p.tables e below (T1.setTop (mkF m 12 #[.val (.int p0), .val (.int (12 : Int32)), .unset, .unset] [(.ref w_TRACE_63)])) _
        refine XS.astoreN X1.here hx rfl (hb hby at_12) rfl rfl (l' := #[.val (.int p0), .val (.int (12 : Int32)), .val (.ref w_TRACE_63), .unset]) rfl ?_
        show Steps p.tables e below (T1.setTop (mkF m 13 #[.val (.int p0), .val (.int (12 : Int32)), .val (.ref w_TRACE_63), .unset] [])) _
        refine XS.iloadN X1.here hx rfl (hb hby at_13) rfl ?_
        show Steps p.tables e below (T1.setTop (mkF m 14 #[.val (.int p0), .val (.int (12 : Int32)), .val (.ref w_TRACE_63), .unset] [(.int (12 : Int32))])) _
        refine XS.bipush X1.here hx rfl (hb hby at_14) ?_
        show Steps p.tables e below (T1.setTop (mkF m 16 #[.val (.int p0), .val (.int (12 : Int32)), .val (.ref w_TRACE_63), .unset] [(.int (15 : Int32)), (.int (12 : Int32))])) _
        refine XS.icmpNo X1.here hx rfl (hb hby at_16) rfl (feq (by decide : ¬ ((12 : Int32) = (15 : Int32)))).1 ?_
        show Steps p.tables e below (T1.setTop (mkF m 19 #[.val (.int p0), .val (.int (12 : Int32)), .val (.ref w_TRACE_63), .unset] [])) _
        refine XS.iloadN X1.here hx rfl (hb hby at_19) rfl ?_
        show Steps p.tables e below (T1.setTop (mkF m 20 #[.val (.int p0), .val (.int (12 : Int32)), .val (.ref w_TRACE_63), .unset] [(.int (12 : Int32))])) _
        refine XS.bipush X1.here hx rfl (hb hby at_20) ?_
        show Steps p.tables e below (T1.setTop (mkF m 22 #[.val (.int p0), .val (.int (12 : Int32)), .val (.ref w_TRACE_63), .unset] [(.int (16 : Int32)), (.int (12 : Int32))])) _
        refine XS.icmpNo X1.here hx rfl (hb hby at_22) rfl (feq (by decide : ¬ ((12 : Int32) = (16 : Int32)))).1 ?_
        show Steps p.tables e below (T1.setTop (mkF m 25 #[.val (.int p0), .val (.int (12 : Int32)), .val (.ref w_TRACE_63), .unset] [])) _
        refine XS.iloadN X1.here hx rfl (hb hby at_25) rfl ?_
        show Steps p.tables e below (T1.setTop (mkF m 26 #[.val (.int p0), .val (.int (12 : Int32)), .val (.ref w_TRACE_63), .unset] [(.int (12 : Int32))])) _
        refine XS.bipush X1.here hx rfl (hb hby at_26) ?_
        show Steps p.tables e below (T1.setTop (mkF m 28 #[.val (.int p0), .val (.int (12 : Int32)), .val (.ref w_TRACE_63), .unset] [(.int (30 : Int32)), (.int (12 : Int32))])) _
        refine XS.icmpYes X1.here hx rfl (pc0 := 28) (pc' := 35) rfl (hb hby at_28) rfl (feq (by decide : ¬ ((12 : Int32) = (30 : Int32)))).2 (by decide) (by decide) ?_
        show Steps p.tables e below (T1.setTop (mkF m 35 #[.val (.int p0), .val (.int (12 : Int32)), .val (.ref w_TRACE_63), .unset] [])) _
        refine XS.iconst X1.here hx rfl (hb hby at_35) ?_
        show Steps p.tables e below (T1.setTop (mkF m 36 #[.val (.int p0), .val (.int (12 : Int32)), .val (.ref w_TRACE_63), .unset] [(.int (0 : Int32))])) _
        refine XS.istoreN X1.here hx rfl (hb hby at_36) rfl (l' := #[.val (.int p0), .val (.int (12 : Int32)), .val (.ref w_TRACE_63), .val (.int (0 : Int32))]) rfl ?_
        show Steps p.tables e below (T1.setTop (mkF m 37 #[.val (.int p0), .val (.int (12 : Int32)), .val (.ref w_TRACE_63), .val (.int (0 : Int32))] [])) _
        refine XS.aloadN X1.here hx rfl (hb hby at_37) rfl rfl ?_
        show Steps p.tables e below (T1.setTop (mkF m 38 #[.val (.int p0), .val (.int (12 : Int32)), .val (.ref w_TRACE_63), .val (.int (0 : Int32))] [(.ref w_TRACE_63)])) _
        refine st52.trans ?_
        exact kt)
    obtain rfl : (1 : Int32) = r53 := Pr53.2 nofun
    have pre55 : ∀ t, Steps p.tables e below (T52.setTop (mkF m 58 #[.val (.int p0), .val (.int (12 : Int32)), .val (.ref w_TRACE_63), .val (.int (0 : Int32))] [(.int (1 : Int32))])) t → Steps p.tables e below (s₁.setTop (entryFrame m #[(.int p0)] maxLocals)) t := fun t kt => pre54 t (by
        show Steps p.tables e below (T52.setTop (mkF m 41 #[.val (.int p0), .val (.int (12 : Int32)), .val (.ref w_TRACE_63), .val (.int (0 : Int32))] [(.int (1 : Int32))])) _
        refine XS.iloadN X52.here hx rfl (hb hby at_41) rfl ?_
        show Steps p.tables e below (T52.setTop (mkF m 42 #[.val (.int p0), .val (.int (12 : Int32)), .val (.ref w_TRACE_63), .val (.int (0 : Int32))] [(.int (0 : Int32)), (.int (1 : Int32))])) _
        refine XS.ifNo X52.here hx rfl (hb hby at_42) rfl ((if0 _ _).trans (teq (rfl : (0 : Int32) = (0 : Int32))).2) ?_
        show Steps p.tables e below (T52.setTop (mkF m 45 #[.val (.int p0), .val (.int (12 : Int32)), .val (.ref w_TRACE_63), .val (.int (0 : Int32))] [(.int (1 : Int32))])) _
        refine XS.iconst X52.here hx rfl (hb hby at_45) ?_
        show Steps p.tables e below (T52.setTop (mkF m 46 #[.val (.int p0), .val (.int (12 : Int32)), .val (.ref w_TRACE_63), .val (.int (0 : Int32))] [(.int (1 : Int32)), (.int (1 : Int32))])) _
        refine XS.goto X52.here hx rfl (pc0 := 46) (pc' := 50) rfl (hb hby at_46) (by decide) (by decide) ?_
        show Steps p.tables e below (T52.setTop (mkF m 50 #[.val (.int p0), .val (.int (12 : Int32)), .val (.ref w_TRACE_63), .val (.int (0 : Int32))] [(.int (1 : Int32)), (.int (1 : Int32))])) _
        refine XS.icmpNo X52.here hx rfl (hb hby at_50) rfl (teq (rfl : (1 : Int32) = (1 : Int32))).2 ?_
        show Steps p.tables e below (T52.setTop (mkF m 53 #[.val (.int p0), .val (.int (12 : Int32)), .val (.ref w_TRACE_63), .val (.int (0 : Int32))] [])) _
        refine XS.iconst X52.here hx rfl (hb hby at_53) ?_
        show Steps p.tables e below (T52.setTop (mkF m 54 #[.val (.int p0), .val (.int (12 : Int32)), .val (.ref w_TRACE_63), .val (.int (0 : Int32))] [(.int (1 : Int32))])) _
        refine XS.goto X52.here hx rfl (pc0 := 54) (pc' := 58) rfl (hb hby at_54) (by decide) (by decide) ?_
        exact kt)
    obtain ⟨fs, hr, hrun, hended, hW, hsame⟩ := X52.leave (v := some (.int (1 : Int32))) (fun h => by rw [Bd.returns] at h; cases h)
    refine ⟨_, _, pre55 _ ?_, hrun, hended, _, _, rfl, ?_, ⟨_, rfl⟩, hW, hsame.mono (by decide) (by decide)⟩
    · show Steps p.tables e below (T52.setTop (mkF m 58 #[.val (.int p0), .val (.int (12 : Int32)), .val (.ref w_TRACE_63), .val (.int (0 : Int32))] [(.int (1 : Int32))])) _
      exact retN X52 hx (t := .boolean) Bd.returns (by simp) (hb hby at_58) hr
    · show Q0 Z _ _ _ _ _ _ _ _ _ _ _ _ _ _ _ _ _ _ _ _ _ _ _ _ _ _ _ _ _ _ _ _ _ _ _ _ _ _ _ _ _ _ _ _ _ h0 n0 _ T52.heap _
      rw [e52]
      exact ⟨rfl, N52, rfl⟩
  · skip
    obtain ⟨cq56, kq56, q56a, q56b, q56c⟩ := isOf hZ e1 E_35
    obtain ⟨_, _, ⟨T56, L56, k56, n56⟩, -, X56, ⟨Lc56, hQ56, l56, y56, z56⟩, st56⟩ := X1.virtualBack hx (y := (⟨"com/example/token_handoff/tokenhandoff/cli/Option", "takesValue", "()Z"⟩ : MethodName)) (z := (⟨"com/example/token_handoff/tokenhandoff/cli/Option", "takesValue", "()Z"⟩ : MethodName)) hown (mvT hZ (hw _ (List.mem_of_getElem? (i := 8) rfl))) (mvT hZ (hw _ (List.mem_of_getElem? (i := 9) rfl))) (notFace_of_selects (args := #[]) (mvT hZ (hw _ (List.mem_of_getElem? (i := 11) rfl)))) (mvT hZ (hw _ (List.mem_of_getElem? (i := 11) rfl))) (mvT hZ (hw _ (List.mem_of_getElem? (i := 10) rfl))) (by decide) (backOf (W := 0) (rm2 l Z aw hw [] w_PEER_29 (.ref w_value_31) h0 n0 Z0 rfl F_value_36) hZ (hw _ (List.mem_of_getElem? (i := 12) rfl)) (hw _ (List.mem_of_getElem? (i := 6) rfl)) (by decide) (by decide)) q56a q56c (g := (mkF m 38 #[.val (.int p0), .val (.int (13 : Int32)), .val (.ref w_PEER_29), .val (.int (0 : Int32))] [(.ref w_PEER_29)])) rfl (by rw [hml]; rfl) (Steps.refl _) (argsL := []) (rest := []) (lenOf pd_1 rfl) rfl (by show 2 * 0 + _ ≤ _; exact Nat.le_of_eq rfl) (hb hby at_38) (fun _ _ => ⟨rfl, e1, (by decide : 0 + 0 ≤ _), (by decide : 0 + 0 ≤ _)⟩)
    dsimp only [Pt.U, Pt.locs, Pt.cells, Pt.slots] at X56 l56 y56 z56 st56 hQ56
    subst l56 y56 z56
    obtain ⟨⟨r57, rfl, Pr57⟩, Nq56, e56⟩ := hQ56
    have N56 := Fr.app N1 Nq56
    have pre58 : ∀ t, Steps p.tables e below (T56.setTop (mkF m 41 #[.val (.int p0), .val (.int (13 : Int32)), .val (.ref w_PEER_29), .val (.int (0 : Int32))] [(.int r57)])) t → Steps p.tables e below (s₁.setTop (entryFrame m #[(.int p0)] maxLocals)) t := fun t kt => pre3 t (by
        show Steps p.tables e below (T1.setTop (mkF m 12 #[.val (.int p0), .val (.int (13 : Int32)), .unset, .unset] [(.ref w_PEER_29)])) _
        refine XS.astoreN X1.here hx rfl (hb hby at_12) rfl rfl (l' := #[.val (.int p0), .val (.int (13 : Int32)), .val (.ref w_PEER_29), .unset]) rfl ?_
        show Steps p.tables e below (T1.setTop (mkF m 13 #[.val (.int p0), .val (.int (13 : Int32)), .val (.ref w_PEER_29), .unset] [])) _
        refine XS.iloadN X1.here hx rfl (hb hby at_13) rfl ?_
        show Steps p.tables e below (T1.setTop (mkF m 14 #[.val (.int p0), .val (.int (13 : Int32)), .val (.ref w_PEER_29), .unset] [(.int (13 : Int32))])) _
        refine XS.bipush X1.here hx rfl (hb hby at_14) ?_
        show Steps p.tables e below (T1.setTop (mkF m 16 #[.val (.int p0), .val (.int (13 : Int32)), .val (.ref w_PEER_29), .unset] [(.int (15 : Int32)), (.int (13 : Int32))])) _
        refine XS.icmpNo X1.here hx rfl (hb hby at_16) rfl (feq (by decide : ¬ ((13 : Int32) = (15 : Int32)))).1 ?_
        show Steps p.tables e below (T1.setTop (mkF m 19 #[.val (.int p0), .val (.int (13 : Int32)), .val (.ref w_PEER_29), .unset] [])) _
        refine XS.iloadN X1.here hx rfl (hb hby at_19) rfl ?_
        show Steps p.tables e below (T1.setTop (mkF m 20 #[.val (.int p0), .val (.int (13 : Int32)), .val (.ref w_PEER_29), .unset] [(.int (13 : Int32))])) _
        refine XS.bipush X1.here hx rfl (hb hby at_20) ?_
        show Steps p.tables e below (T1.setTop (mkF m 22 #[.val (.int p0), .val (.int (13 : Int32)), .val (.ref w_PEER_29), .unset] [(.int (16 : Int32)), (.int (13 : Int32))])) _
        refine XS.icmpNo X1.here hx rfl (hb hby at_22) rfl (feq (by decide : ¬ ((13 : Int32) = (16 : Int32)))).1 ?_
        show Steps p.tables e below (T1.setTop (mkF m 25 #[.val (.int p0), .val (.int (13 : Int32)), .val (.ref w_PEER_29), .unset] [])) _
        refine XS.iloadN X1.here hx rfl (hb hby at_25) rfl ?_
        show Steps p.tables e below (T1.setTop (mkF m 26 #[.val (.int p0), .val (.int (13 : Int32)), .val (.ref w_PEER_29), .unset] [(.int (13 : Int32))])) _
        refine XS.bipush X1.here hx rfl (hb hby at_26) ?_
        show Steps p.tables e below (T1.setTop (mkF m 28 #[.val (.int p0), .val (.int (13 : Int32)), .val (.ref w_PEER_29), .unset] [(.int (30 : Int32)), (.int (13 : Int32))])) _
        refine XS.icmpYes X1.here hx rfl (pc0 := 28) (pc' := 35) rfl (hb hby at_28) rfl (feq (by decide : ¬ ((13 : Int32) = (30 : Int32)))).2 (by decide) (by decide) ?_
        show Steps p.tables e below (T1.setTop (mkF m 35 #[.val (.int p0), .val (.int (13 : Int32)), .val (.ref w_PEER_29), .unset] [])) _
        refine XS.iconst X1.here hx rfl (hb hby at_35) ?_
        show Steps p.tables e below (T1.setTop (mkF m 36 #[.val (.int p0), .val (.int (13 : Int32)), .val (.ref w_PEER_29), .unset] [(.int (0 : Int32))])) _
        refine XS.istoreN X1.here hx rfl (hb hby at_36) rfl (l' := #[.val (.int p0), .val (.int (13 : Int32)), .val (.ref w_PEER_29), .val (.int (0 : Int32))]) rfl ?_
        show Steps p.tables e below (T1.setTop (mkF m 37 #[.val (.int p0), .val (.int (13 : Int32)), .val (.ref w_PEER_29), .val (.int (0 : Int32))] [])) _
        refine XS.aloadN X1.here hx rfl (hb hby at_37) rfl rfl ?_
        show Steps p.tables e below (T1.setTop (mkF m 38 #[.val (.int p0), .val (.int (13 : Int32)), .val (.ref w_PEER_29), .val (.int (0 : Int32))] [(.ref w_PEER_29)])) _
        refine st56.trans ?_
        exact kt)
    obtain rfl : (1 : Int32) = r57 := Pr57.2 nofun
    have pre59 : ∀ t, Steps p.tables e below (T56.setTop (mkF m 58 #[.val (.int p0), .val (.int (13 : Int32)), .val (.ref w_PEER_29), .val (.int (0 : Int32))] [(.int (1 : Int32))])) t → Steps p.tables e below (s₁.setTop (entryFrame m #[(.int p0)] maxLocals)) t := fun t kt => pre58 t (by
        show Steps p.tables e below (T56.setTop (mkF m 41 #[.val (.int p0), .val (.int (13 : Int32)), .val (.ref w_PEER_29), .val (.int (0 : Int32))] [(.int (1 : Int32))])) _
        refine XS.iloadN X56.here hx rfl (hb hby at_41) rfl ?_
        show Steps p.tables e below (T56.setTop (mkF m 42 #[.val (.int p0), .val (.int (13 : Int32)), .val (.ref w_PEER_29), .val (.int (0 : Int32))] [(.int (0 : Int32)), (.int (1 : Int32))])) _
        refine XS.ifNo X56.here hx rfl (hb hby at_42) rfl ((if0 _ _).trans (teq (rfl : (0 : Int32) = (0 : Int32))).2) ?_
        show Steps p.tables e below (T56.setTop (mkF m 45 #[.val (.int p0), .val (.int (13 : Int32)), .val (.ref w_PEER_29), .val (.int (0 : Int32))] [(.int (1 : Int32))])) _
        refine XS.iconst X56.here hx rfl (hb hby at_45) ?_
        show Steps p.tables e below (T56.setTop (mkF m 46 #[.val (.int p0), .val (.int (13 : Int32)), .val (.ref w_PEER_29), .val (.int (0 : Int32))] [(.int (1 : Int32)), (.int (1 : Int32))])) _
        refine XS.goto X56.here hx rfl (pc0 := 46) (pc' := 50) rfl (hb hby at_46) (by decide) (by decide) ?_
        show Steps p.tables e below (T56.setTop (mkF m 50 #[.val (.int p0), .val (.int (13 : Int32)), .val (.ref w_PEER_29), .val (.int (0 : Int32))] [(.int (1 : Int32)), (.int (1 : Int32))])) _
        refine XS.icmpNo X56.here hx rfl (hb hby at_50) rfl (teq (rfl : (1 : Int32) = (1 : Int32))).2 ?_
        show Steps p.tables e below (T56.setTop (mkF m 53 #[.val (.int p0), .val (.int (13 : Int32)), .val (.ref w_PEER_29), .val (.int (0 : Int32))] [])) _
        refine XS.iconst X56.here hx rfl (hb hby at_53) ?_
        show Steps p.tables e below (T56.setTop (mkF m 54 #[.val (.int p0), .val (.int (13 : Int32)), .val (.ref w_PEER_29), .val (.int (0 : Int32))] [(.int (1 : Int32))])) _
        refine XS.goto X56.here hx rfl (pc0 := 54) (pc' := 58) rfl (hb hby at_54) (by decide) (by decide) ?_
        exact kt)
    obtain ⟨fs, hr, hrun, hended, hW, hsame⟩ := X56.leave (v := some (.int (1 : Int32))) (fun h => by rw [Bd.returns] at h; cases h)
    refine ⟨_, _, pre59 _ ?_, hrun, hended, _, _, rfl, ?_, ⟨_, rfl⟩, hW, hsame.mono (by decide) (by decide)⟩
    · show Steps p.tables e below (T56.setTop (mkF m 58 #[.val (.int p0), .val (.int (13 : Int32)), .val (.ref w_PEER_29), .val (.int (0 : Int32))] [(.int (1 : Int32))])) _
      exact retN X56 hx (t := .boolean) Bd.returns (by simp) (hb hby at_58) hr
    · show Q0 Z _ _ _ _ _ _ _ _ _ _ _ _ _ _ _ _ _ _ _ _ _ _ _ _ _ _ _ _ _ _ _ _ _ _ _ _ _ _ _ _ _ _ _ _ _ h0 n0 _ T56.heap _
      rw [e56]
      exact ⟨rfl, N56, rfl⟩
  · skip
    obtain ⟨cq60, kq60, q60a, q60b, q60c⟩ := isOf hZ e1 E_76
    obtain ⟨_, _, ⟨T60, L60, k60, n60⟩, -, X60, ⟨Lc60, hQ60, l60, y60, z60⟩, st60⟩ := X1.virtualBack hx (y := (⟨"com/example/token_handoff/tokenhandoff/cli/Option", "takesValue", "()Z"⟩ : MethodName)) (z := (⟨"com/example/token_handoff/tokenhandoff/cli/Option", "takesValue", "()Z"⟩ : MethodName)) hown (mvT hZ (hw _ (List.mem_of_getElem? (i := 8) rfl))) (mvT hZ (hw _ (List.mem_of_getElem? (i := 9) rfl))) (notFace_of_selects (args := #[]) (mvT hZ (hw _ (List.mem_of_getElem? (i := 11) rfl)))) (mvT hZ (hw _ (List.mem_of_getElem? (i := 11) rfl))) (mvT hZ (hw _ (List.mem_of_getElem? (i := 10) rfl))) (by decide) (backOf (W := 0) (rm2 l Z aw hw [] w_CANDIDATES_59 (.ref w_value_61) h0 n0 Z0 rfl F_value_77) hZ (hw _ (List.mem_of_getElem? (i := 12) rfl)) (hw _ (List.mem_of_getElem? (i := 6) rfl)) (by decide) (by decide)) q60a q60c (g := (mkF m 38 #[.val (.int p0), .val (.int (14 : Int32)), .val (.ref w_CANDIDATES_59), .val (.int (0 : Int32))] [(.ref w_CANDIDATES_59)])) rfl (by rw [hml]; rfl) (Steps.refl _) (argsL := []) (rest := []) (lenOf pd_1 rfl) rfl (by show 2 * 0 + _ ≤ _; exact Nat.le_of_eq rfl) (hb hby at_38) (fun _ _ => ⟨rfl, e1, (by decide : 0 + 0 ≤ _), (by decide : 0 + 0 ≤ _)⟩)
    dsimp only [Pt.U, Pt.locs, Pt.cells, Pt.slots] at X60 l60 y60 z60 st60 hQ60
    subst l60 y60 z60
    obtain ⟨⟨r61, rfl, Pr61⟩, Nq60, e60⟩ := hQ60
    have N60 := Fr.app N1 Nq60
    have pre62 : ∀ t, Steps p.tables e below (T60.setTop (mkF m 41 #[.val (.int p0), .val (.int (14 : Int32)), .val (.ref w_CANDIDATES_59), .val (.int (0 : Int32))] [(.int r61)])) t → Steps p.tables e below (s₁.setTop (entryFrame m #[(.int p0)] maxLocals)) t := fun t kt => pre3 t (by
        show Steps p.tables e below (T1.setTop (mkF m 12 #[.val (.int p0), .val (.int (14 : Int32)), .unset, .unset] [(.ref w_CANDIDATES_59)])) _
        refine XS.astoreN X1.here hx rfl (hb hby at_12) rfl rfl (l' := #[.val (.int p0), .val (.int (14 : Int32)), .val (.ref w_CANDIDATES_59), .unset]) rfl ?_
        show Steps p.tables e below (T1.setTop (mkF m 13 #[.val (.int p0), .val (.int (14 : Int32)), .val (.ref w_CANDIDATES_59), .unset] [])) _
        refine XS.iloadN X1.here hx rfl (hb hby at_13) rfl ?_
        show Steps p.tables e below (T1.setTop (mkF m 14 #[.val (.int p0), .val (.int (14 : Int32)), .val (.ref w_CANDIDATES_59), .unset] [(.int (14 : Int32))])) _
        refine XS.bipush X1.here hx rfl (hb hby at_14) ?_
        show Steps p.tables e below (T1.setTop (mkF m 16 #[.val (.int p0), .val (.int (14 : Int32)), .val (.ref w_CANDIDATES_59), .unset] [(.int (15 : Int32)), (.int (14 : Int32))])) _
        refine XS.icmpNo X1.here hx rfl (hb hby at_16) rfl (feq (by decide : ¬ ((14 : Int32) = (15 : Int32)))).1 ?_
        show Steps p.tables e below (T1.setTop (mkF m 19 #[.val (.int p0), .val (.int (14 : Int32)), .val (.ref w_CANDIDATES_59), .unset] [])) _
        refine XS.iloadN X1.here hx rfl (hb hby at_19) rfl ?_
        show Steps p.tables e below (T1.setTop (mkF m 20 #[.val (.int p0), .val (.int (14 : Int32)), .val (.ref w_CANDIDATES_59), .unset] [(.int (14 : Int32))])) _
        refine XS.bipush X1.here hx rfl (hb hby at_20) ?_
        show Steps p.tables e below (T1.setTop (mkF m 22 #[.val (.int p0), .val (.int (14 : Int32)), .val (.ref w_CANDIDATES_59), .unset] [(.int (16 : Int32)), (.int (14 : Int32))])) _
        refine XS.icmpNo X1.here hx rfl (hb hby at_22) rfl (feq (by decide : ¬ ((14 : Int32) = (16 : Int32)))).1 ?_
        show Steps p.tables e below (T1.setTop (mkF m 25 #[.val (.int p0), .val (.int (14 : Int32)), .val (.ref w_CANDIDATES_59), .unset] [])) _
        refine XS.iloadN X1.here hx rfl (hb hby at_25) rfl ?_
        show Steps p.tables e below (T1.setTop (mkF m 26 #[.val (.int p0), .val (.int (14 : Int32)), .val (.ref w_CANDIDATES_59), .unset] [(.int (14 : Int32))])) _
        refine XS.bipush X1.here hx rfl (hb hby at_26) ?_
        show Steps p.tables e below (T1.setTop (mkF m 28 #[.val (.int p0), .val (.int (14 : Int32)), .val (.ref w_CANDIDATES_59), .unset] [(.int (30 : Int32)), (.int (14 : Int32))])) _
        refine XS.icmpYes X1.here hx rfl (pc0 := 28) (pc' := 35) rfl (hb hby at_28) rfl (feq (by decide : ¬ ((14 : Int32) = (30 : Int32)))).2 (by decide) (by decide) ?_
        show Steps p.tables e below (T1.setTop (mkF m 35 #[.val (.int p0), .val (.int (14 : Int32)), .val (.ref w_CANDIDATES_59), .unset] [])) _
        refine XS.iconst X1.here hx rfl (hb hby at_35) ?_
        show Steps p.tables e below (T1.setTop (mkF m 36 #[.val (.int p0), .val (.int (14 : Int32)), .val (.ref w_CANDIDATES_59), .unset] [(.int (0 : Int32))])) _
        refine XS.istoreN X1.here hx rfl (hb hby at_36) rfl (l' := #[.val (.int p0), .val (.int (14 : Int32)), .val (.ref w_CANDIDATES_59), .val (.int (0 : Int32))]) rfl ?_
        show Steps p.tables e below (T1.setTop (mkF m 37 #[.val (.int p0), .val (.int (14 : Int32)), .val (.ref w_CANDIDATES_59), .val (.int (0 : Int32))] [])) _
        refine XS.aloadN X1.here hx rfl (hb hby at_37) rfl rfl ?_
        show Steps p.tables e below (T1.setTop (mkF m 38 #[.val (.int p0), .val (.int (14 : Int32)), .val (.ref w_CANDIDATES_59), .val (.int (0 : Int32))] [(.ref w_CANDIDATES_59)])) _
        refine st60.trans ?_
        exact kt)
    obtain rfl : (1 : Int32) = r61 := Pr61.2 nofun
    have pre63 : ∀ t, Steps p.tables e below (T60.setTop (mkF m 58 #[.val (.int p0), .val (.int (14 : Int32)), .val (.ref w_CANDIDATES_59), .val (.int (0 : Int32))] [(.int (1 : Int32))])) t → Steps p.tables e below (s₁.setTop (entryFrame m #[(.int p0)] maxLocals)) t := fun t kt => pre62 t (by
        show Steps p.tables e below (T60.setTop (mkF m 41 #[.val (.int p0), .val (.int (14 : Int32)), .val (.ref w_CANDIDATES_59), .val (.int (0 : Int32))] [(.int (1 : Int32))])) _
        refine XS.iloadN X60.here hx rfl (hb hby at_41) rfl ?_
        show Steps p.tables e below (T60.setTop (mkF m 42 #[.val (.int p0), .val (.int (14 : Int32)), .val (.ref w_CANDIDATES_59), .val (.int (0 : Int32))] [(.int (0 : Int32)), (.int (1 : Int32))])) _
        refine XS.ifNo X60.here hx rfl (hb hby at_42) rfl ((if0 _ _).trans (teq (rfl : (0 : Int32) = (0 : Int32))).2) ?_
        show Steps p.tables e below (T60.setTop (mkF m 45 #[.val (.int p0), .val (.int (14 : Int32)), .val (.ref w_CANDIDATES_59), .val (.int (0 : Int32))] [(.int (1 : Int32))])) _
        refine XS.iconst X60.here hx rfl (hb hby at_45) ?_
        show Steps p.tables e below (T60.setTop (mkF m 46 #[.val (.int p0), .val (.int (14 : Int32)), .val (.ref w_CANDIDATES_59), .val (.int (0 : Int32))] [(.int (1 : Int32)), (.int (1 : Int32))])) _
        refine XS.goto X60.here hx rfl (pc0 := 46) (pc' := 50) rfl (hb hby at_46) (by decide) (by decide) ?_
        show Steps p.tables e below (T60.setTop (mkF m 50 #[.val (.int p0), .val (.int (14 : Int32)), .val (.ref w_CANDIDATES_59), .val (.int (0 : Int32))] [(.int (1 : Int32)), (.int (1 : Int32))])) _
        refine XS.icmpNo X60.here hx rfl (hb hby at_50) rfl (teq (rfl : (1 : Int32) = (1 : Int32))).2 ?_
        show Steps p.tables e below (T60.setTop (mkF m 53 #[.val (.int p0), .val (.int (14 : Int32)), .val (.ref w_CANDIDATES_59), .val (.int (0 : Int32))] [])) _
        refine XS.iconst X60.here hx rfl (hb hby at_53) ?_
        show Steps p.tables e below (T60.setTop (mkF m 54 #[.val (.int p0), .val (.int (14 : Int32)), .val (.ref w_CANDIDATES_59), .val (.int (0 : Int32))] [(.int (1 : Int32))])) _
        refine XS.goto X60.here hx rfl (pc0 := 54) (pc' := 58) rfl (hb hby at_54) (by decide) (by decide) ?_
        exact kt)
    obtain ⟨fs, hr, hrun, hended, hW, hsame⟩ := X60.leave (v := some (.int (1 : Int32))) (fun h => by rw [Bd.returns] at h; cases h)
    refine ⟨_, _, pre63 _ ?_, hrun, hended, _, _, rfl, ?_, ⟨_, rfl⟩, hW, hsame.mono (by decide) (by decide)⟩
    · show Steps p.tables e below (T60.setTop (mkF m 58 #[.val (.int p0), .val (.int (14 : Int32)), .val (.ref w_CANDIDATES_59), .val (.int (0 : Int32))] [(.int (1 : Int32))])) _
      exact retN X60 hx (t := .boolean) Bd.returns (by simp) (hb hby at_58) hr
    · show Q0 Z _ _ _ _ _ _ _ _ _ _ _ _ _ _ _ _ _ _ _ _ _ _ _ _ _ _ _ _ _ _ _ _ _ _ _ _ _ _ _ _ _ _ _ _ _ h0 n0 _ T60.heap _
      rw [e60]
      exact ⟨rfl, N60, rfl⟩
  · skip
    obtain ⟨cq64, kq64, q64a, q64b, q64c⟩ := isOf hZ e1 E_61
    obtain ⟨_, _, ⟨T64, L64, k64, n64⟩, -, X64, ⟨Lc64, hQ64, l64, y64, z64⟩, st64⟩ := X1.virtualBack hx (y := (⟨"com/example/token_handoff/tokenhandoff/cli/Option", "takesValue", "()Z"⟩ : MethodName)) (z := (⟨"com/example/token_handoff/tokenhandoff/cli/Option", "takesValue", "()Z"⟩ : MethodName)) hown (mvT hZ (hw _ (List.mem_of_getElem? (i := 8) rfl))) (mvT hZ (hw _ (List.mem_of_getElem? (i := 9) rfl))) (notFace_of_selects (args := #[]) (mvT hZ (hw _ (List.mem_of_getElem? (i := 11) rfl)))) (mvT hZ (hw _ (List.mem_of_getElem? (i := 11) rfl))) (mvT hZ (hw _ (List.mem_of_getElem? (i := 10) rfl))) (by decide) (backOf (W := 0) (rm2 l Z aw hw [] w_PASS_ON_49 .null h0 n0 Z0 rfl F_value_62) hZ (hw _ (List.mem_of_getElem? (i := 12) rfl)) (hw _ (List.mem_of_getElem? (i := 6) rfl)) (by decide) (by decide)) q64a q64c (g := (mkF m 38 #[.val (.int p0), .val (.int (15 : Int32)), .val (.ref w_PASS_ON_49), .val (.int (1 : Int32))] [(.ref w_PASS_ON_49)])) rfl (by rw [hml]; rfl) (Steps.refl _) (argsL := []) (rest := []) (lenOf pd_1 rfl) rfl (by show 2 * 0 + _ ≤ _; exact Nat.le_of_eq rfl) (hb hby at_38) (fun _ _ => ⟨rfl, e1, (by decide : 0 + 0 ≤ _), (by decide : 0 + 0 ≤ _)⟩)
    dsimp only [Pt.U, Pt.locs, Pt.cells, Pt.slots] at X64 l64 y64 z64 st64 hQ64
    subst l64 y64 z64
    obtain ⟨⟨r65, rfl, Pr65⟩, Nq64, e64⟩ := hQ64
    have N64 := Fr.app N1 Nq64
    have pre66 : ∀ t, Steps p.tables e below (T64.setTop (mkF m 41 #[.val (.int p0), .val (.int (15 : Int32)), .val (.ref w_PASS_ON_49), .val (.int (1 : Int32))] [(.int r65)])) t → Steps p.tables e below (s₁.setTop (entryFrame m #[(.int p0)] maxLocals)) t := fun t kt => pre3 t (by
        show Steps p.tables e below (T1.setTop (mkF m 12 #[.val (.int p0), .val (.int (15 : Int32)), .unset, .unset] [(.ref w_PASS_ON_49)])) _
        refine XS.astoreN X1.here hx rfl (hb hby at_12) rfl rfl (l' := #[.val (.int p0), .val (.int (15 : Int32)), .val (.ref w_PASS_ON_49), .unset]) rfl ?_
        show Steps p.tables e below (T1.setTop (mkF m 13 #[.val (.int p0), .val (.int (15 : Int32)), .val (.ref w_PASS_ON_49), .unset] [])) _
        refine XS.iloadN X1.here hx rfl (hb hby at_13) rfl ?_
        show Steps p.tables e below (T1.setTop (mkF m 14 #[.val (.int p0), .val (.int (15 : Int32)), .val (.ref w_PASS_ON_49), .unset] [(.int (15 : Int32))])) _
        refine XS.bipush X1.here hx rfl (hb hby at_14) ?_
        show Steps p.tables e below (T1.setTop (mkF m 16 #[.val (.int p0), .val (.int (15 : Int32)), .val (.ref w_PASS_ON_49), .unset] [(.int (15 : Int32)), (.int (15 : Int32))])) _
        refine XS.icmpYes X1.here hx rfl (pc0 := 16) (pc' := 31) rfl (hb hby at_16) rfl (teq (rfl : (15 : Int32) = (15 : Int32))).1 (by decide) (by decide) ?_
        show Steps p.tables e below (T1.setTop (mkF m 31 #[.val (.int p0), .val (.int (15 : Int32)), .val (.ref w_PASS_ON_49), .unset] [])) _
        refine XS.iconst X1.here hx rfl (hb hby at_31) ?_
        show Steps p.tables e below (T1.setTop (mkF m 32 #[.val (.int p0), .val (.int (15 : Int32)), .val (.ref w_PASS_ON_49), .unset] [(.int (1 : Int32))])) _
        refine XS.goto X1.here hx rfl (pc0 := 32) (pc' := 36) rfl (hb hby at_32) (by decide) (by decide) ?_
        show Steps p.tables e below (T1.setTop (mkF m 36 #[.val (.int p0), .val (.int (15 : Int32)), .val (.ref w_PASS_ON_49), .unset] [(.int (1 : Int32))])) _
        refine XS.istoreN X1.here hx rfl (hb hby at_36) rfl (l' := #[.val (.int p0), .val (.int (15 : Int32)), .val (.ref w_PASS_ON_49), .val (.int (1 : Int32))]) rfl ?_
        show Steps p.tables e below (T1.setTop (mkF m 37 #[.val (.int p0), .val (.int (15 : Int32)), .val (.ref w_PASS_ON_49), .val (.int (1 : Int32))] [])) _
        refine XS.aloadN X1.here hx rfl (hb hby at_37) rfl rfl ?_
        show Steps p.tables e below (T1.setTop (mkF m 38 #[.val (.int p0), .val (.int (15 : Int32)), .val (.ref w_PASS_ON_49), .val (.int (1 : Int32))] [(.ref w_PASS_ON_49)])) _
        refine st64.trans ?_
        exact kt)
    obtain rfl : (0 : Int32) = r65 := Pr65.1 rfl
    have pre67 : ∀ t, Steps p.tables e below (T64.setTop (mkF m 58 #[.val (.int p0), .val (.int (15 : Int32)), .val (.ref w_PASS_ON_49), .val (.int (1 : Int32))] [(.int (1 : Int32))])) t → Steps p.tables e below (s₁.setTop (entryFrame m #[(.int p0)] maxLocals)) t := fun t kt => pre66 t (by
        show Steps p.tables e below (T64.setTop (mkF m 41 #[.val (.int p0), .val (.int (15 : Int32)), .val (.ref w_PASS_ON_49), .val (.int (1 : Int32))] [(.int (0 : Int32))])) _
        refine XS.iloadN X64.here hx rfl (hb hby at_41) rfl ?_
        show Steps p.tables e below (T64.setTop (mkF m 42 #[.val (.int p0), .val (.int (15 : Int32)), .val (.ref w_PASS_ON_49), .val (.int (1 : Int32))] [(.int (1 : Int32)), (.int (0 : Int32))])) _
        refine XS.ifYes X64.here hx rfl (pc0 := 42) (pc' := 49) rfl (hb hby at_42) rfl ((if0 _ _).trans (feq (by decide : ¬ ((1 : Int32) = (0 : Int32)))).2) (by decide) (by decide) ?_
        show Steps p.tables e below (T64.setTop (mkF m 49 #[.val (.int p0), .val (.int (15 : Int32)), .val (.ref w_PASS_ON_49), .val (.int (1 : Int32))] [(.int (0 : Int32))])) _
        refine XS.iconst X64.here hx rfl (hb hby at_49) ?_
        show Steps p.tables e below (T64.setTop (mkF m 50 #[.val (.int p0), .val (.int (15 : Int32)), .val (.ref w_PASS_ON_49), .val (.int (1 : Int32))] [(.int (0 : Int32)), (.int (0 : Int32))])) _
        refine XS.icmpNo X64.here hx rfl (hb hby at_50) rfl (teq (rfl : (0 : Int32) = (0 : Int32))).2 ?_
        show Steps p.tables e below (T64.setTop (mkF m 53 #[.val (.int p0), .val (.int (15 : Int32)), .val (.ref w_PASS_ON_49), .val (.int (1 : Int32))] [])) _
        refine XS.iconst X64.here hx rfl (hb hby at_53) ?_
        show Steps p.tables e below (T64.setTop (mkF m 54 #[.val (.int p0), .val (.int (15 : Int32)), .val (.ref w_PASS_ON_49), .val (.int (1 : Int32))] [(.int (1 : Int32))])) _
        refine XS.goto X64.here hx rfl (pc0 := 54) (pc' := 58) rfl (hb hby at_54) (by decide) (by decide) ?_
        exact kt)
    obtain ⟨fs, hr, hrun, hended, hW, hsame⟩ := X64.leave (v := some (.int (1 : Int32))) (fun h => by rw [Bd.returns] at h; cases h)
    refine ⟨_, _, pre67 _ ?_, hrun, hended, _, _, rfl, ?_, ⟨_, rfl⟩, hW, hsame.mono (by decide) (by decide)⟩
    · show Steps p.tables e below (T64.setTop (mkF m 58 #[.val (.int p0), .val (.int (15 : Int32)), .val (.ref w_PASS_ON_49), .val (.int (1 : Int32))] [(.int (1 : Int32))])) _
      exact retN X64 hx (t := .boolean) Bd.returns (by simp) (hb hby at_58) hr
    · show Q0 Z _ _ _ _ _ _ _ _ _ _ _ _ _ _ _ _ _ _ _ _ _ _ _ _ _ _ _ _ _ _ _ _ _ _ _ _ _ _ _ _ _ _ _ _ _ h0 n0 _ T64.heap _
      rw [e64]
      exact ⟨rfl, N64, rfl⟩
  · skip
    obtain ⟨cq68, kq68, q68a, q68b, q68c⟩ := isOf hZ e1 E_48
    obtain ⟨_, _, ⟨T68, L68, k68, n68⟩, -, X68, ⟨Lc68, hQ68, l68, y68, z68⟩, st68⟩ := X1.virtualBack hx (y := (⟨"com/example/token_handoff/tokenhandoff/cli/Option", "takesValue", "()Z"⟩ : MethodName)) (z := (⟨"com/example/token_handoff/tokenhandoff/cli/Option", "takesValue", "()Z"⟩ : MethodName)) hown (mvT hZ (hw _ (List.mem_of_getElem? (i := 8) rfl))) (mvT hZ (hw _ (List.mem_of_getElem? (i := 9) rfl))) (notFace_of_selects (args := #[]) (mvT hZ (hw _ (List.mem_of_getElem? (i := 11) rfl)))) (mvT hZ (hw _ (List.mem_of_getElem? (i := 11) rfl))) (mvT hZ (hw _ (List.mem_of_getElem? (i := 10) rfl))) (by decide) (backOf (W := 0) (rm2 l Z aw hw [] w_CIRCULATE_39 .null h0 n0 Z0 rfl F_value_49) hZ (hw _ (List.mem_of_getElem? (i := 12) rfl)) (hw _ (List.mem_of_getElem? (i := 6) rfl)) (by decide) (by decide)) q68a q68c (g := (mkF m 38 #[.val (.int p0), .val (.int (16 : Int32)), .val (.ref w_CIRCULATE_39), .val (.int (1 : Int32))] [(.ref w_CIRCULATE_39)])) rfl (by rw [hml]; rfl) (Steps.refl _) (argsL := []) (rest := []) (lenOf pd_1 rfl) rfl (by show 2 * 0 + _ ≤ _; exact Nat.le_of_eq rfl) (hb hby at_38) (fun _ _ => ⟨rfl, e1, (by decide : 0 + 0 ≤ _), (by decide : 0 + 0 ≤ _)⟩)
    dsimp only [Pt.U, Pt.locs, Pt.cells, Pt.slots] at X68 l68 y68 z68 st68 hQ68
    subst l68 y68 z68
    obtain ⟨⟨r69, rfl, Pr69⟩, Nq68, e68⟩ := hQ68
    have N68 := Fr.app N1 Nq68
    have pre70 : ∀ t, Steps p.tables e below (T68.setTop (mkF m 41 #[.val (.int p0), .val (.int (16 : Int32)), .val (.ref w_CIRCULATE_39), .val (.int (1 : Int32))] [(.int r69)])) t → Steps p.tables e below (s₁.setTop (entryFrame m #[(.int p0)] maxLocals)) t := fun t kt => pre3 t (by
        show Steps p.tables e below (T1.setTop (mkF m 12 #[.val (.int p0), .val (.int (16 : Int32)), .unset, .unset] [(.ref w_CIRCULATE_39)])) _
        refine XS.astoreN X1.here hx rfl (hb hby at_12) rfl rfl (l' := #[.val (.int p0), .val (.int (16 : Int32)), .val (.ref w_CIRCULATE_39), .unset]) rfl ?_
        show Steps p.tables e below (T1.setTop (mkF m 13 #[.val (.int p0), .val (.int (16 : Int32)), .val (.ref w_CIRCULATE_39), .unset] [])) _
        refine XS.iloadN X1.here hx rfl (hb hby at_13) rfl ?_
        show Steps p.tables e below (T1.setTop (mkF m 14 #[.val (.int p0), .val (.int (16 : Int32)), .val (.ref w_CIRCULATE_39), .unset] [(.int (16 : Int32))])) _
        refine XS.bipush X1.here hx rfl (hb hby at_14) ?_
        show Steps p.tables e below (T1.setTop (mkF m 16 #[.val (.int p0), .val (.int (16 : Int32)), .val (.ref w_CIRCULATE_39), .unset] [(.int (15 : Int32)), (.int (16 : Int32))])) _
        refine XS.icmpNo X1.here hx rfl (hb hby at_16) rfl (feq (by decide : ¬ ((16 : Int32) = (15 : Int32)))).1 ?_
        show Steps p.tables e below (T1.setTop (mkF m 19 #[.val (.int p0), .val (.int (16 : Int32)), .val (.ref w_CIRCULATE_39), .unset] [])) _
        refine XS.iloadN X1.here hx rfl (hb hby at_19) rfl ?_
        show Steps p.tables e below (T1.setTop (mkF m 20 #[.val (.int p0), .val (.int (16 : Int32)), .val (.ref w_CIRCULATE_39), .unset] [(.int (16 : Int32))])) _
        refine XS.bipush X1.here hx rfl (hb hby at_20) ?_
        show Steps p.tables e below (T1.setTop (mkF m 22 #[.val (.int p0), .val (.int (16 : Int32)), .val (.ref w_CIRCULATE_39), .unset] [(.int (16 : Int32)), (.int (16 : Int32))])) _
        refine XS.icmpYes X1.here hx rfl (pc0 := 22) (pc' := 31) rfl (hb hby at_22) rfl (teq (rfl : (16 : Int32) = (16 : Int32))).1 (by decide) (by decide) ?_
        show Steps p.tables e below (T1.setTop (mkF m 31 #[.val (.int p0), .val (.int (16 : Int32)), .val (.ref w_CIRCULATE_39), .unset] [])) _
        refine XS.iconst X1.here hx rfl (hb hby at_31) ?_
        show Steps p.tables e below (T1.setTop (mkF m 32 #[.val (.int p0), .val (.int (16 : Int32)), .val (.ref w_CIRCULATE_39), .unset] [(.int (1 : Int32))])) _
        refine XS.goto X1.here hx rfl (pc0 := 32) (pc' := 36) rfl (hb hby at_32) (by decide) (by decide) ?_
        show Steps p.tables e below (T1.setTop (mkF m 36 #[.val (.int p0), .val (.int (16 : Int32)), .val (.ref w_CIRCULATE_39), .unset] [(.int (1 : Int32))])) _
        refine XS.istoreN X1.here hx rfl (hb hby at_36) rfl (l' := #[.val (.int p0), .val (.int (16 : Int32)), .val (.ref w_CIRCULATE_39), .val (.int (1 : Int32))]) rfl ?_
        show Steps p.tables e below (T1.setTop (mkF m 37 #[.val (.int p0), .val (.int (16 : Int32)), .val (.ref w_CIRCULATE_39), .val (.int (1 : Int32))] [])) _
        refine XS.aloadN X1.here hx rfl (hb hby at_37) rfl rfl ?_
        show Steps p.tables e below (T1.setTop (mkF m 38 #[.val (.int p0), .val (.int (16 : Int32)), .val (.ref w_CIRCULATE_39), .val (.int (1 : Int32))] [(.ref w_CIRCULATE_39)])) _
        refine st68.trans ?_
        exact kt)
    obtain rfl : (0 : Int32) = r69 := Pr69.1 rfl
    have pre71 : ∀ t, Steps p.tables e below (T68.setTop (mkF m 58 #[.val (.int p0), .val (.int (16 : Int32)), .val (.ref w_CIRCULATE_39), .val (.int (1 : Int32))] [(.int (1 : Int32))])) t → Steps p.tables e below (s₁.setTop (entryFrame m #[(.int p0)] maxLocals)) t := fun t kt => pre70 t (by
        show Steps p.tables e below (T68.setTop (mkF m 41 #[.val (.int p0), .val (.int (16 : Int32)), .val (.ref w_CIRCULATE_39), .val (.int (1 : Int32))] [(.int (0 : Int32))])) _
        refine XS.iloadN X68.here hx rfl (hb hby at_41) rfl ?_
        show Steps p.tables e below (T68.setTop (mkF m 42 #[.val (.int p0), .val (.int (16 : Int32)), .val (.ref w_CIRCULATE_39), .val (.int (1 : Int32))] [(.int (1 : Int32)), (.int (0 : Int32))])) _
        refine XS.ifYes X68.here hx rfl (pc0 := 42) (pc' := 49) rfl (hb hby at_42) rfl ((if0 _ _).trans (feq (by decide : ¬ ((1 : Int32) = (0 : Int32)))).2) (by decide) (by decide) ?_
        show Steps p.tables e below (T68.setTop (mkF m 49 #[.val (.int p0), .val (.int (16 : Int32)), .val (.ref w_CIRCULATE_39), .val (.int (1 : Int32))] [(.int (0 : Int32))])) _
        refine XS.iconst X68.here hx rfl (hb hby at_49) ?_
        show Steps p.tables e below (T68.setTop (mkF m 50 #[.val (.int p0), .val (.int (16 : Int32)), .val (.ref w_CIRCULATE_39), .val (.int (1 : Int32))] [(.int (0 : Int32)), (.int (0 : Int32))])) _
        refine XS.icmpNo X68.here hx rfl (hb hby at_50) rfl (teq (rfl : (0 : Int32) = (0 : Int32))).2 ?_
        show Steps p.tables e below (T68.setTop (mkF m 53 #[.val (.int p0), .val (.int (16 : Int32)), .val (.ref w_CIRCULATE_39), .val (.int (1 : Int32))] [])) _
        refine XS.iconst X68.here hx rfl (hb hby at_53) ?_
        show Steps p.tables e below (T68.setTop (mkF m 54 #[.val (.int p0), .val (.int (16 : Int32)), .val (.ref w_CIRCULATE_39), .val (.int (1 : Int32))] [(.int (1 : Int32))])) _
        refine XS.goto X68.here hx rfl (pc0 := 54) (pc' := 58) rfl (hb hby at_54) (by decide) (by decide) ?_
        exact kt)
    obtain ⟨fs, hr, hrun, hended, hW, hsame⟩ := X68.leave (v := some (.int (1 : Int32))) (fun h => by rw [Bd.returns] at h; cases h)
    refine ⟨_, _, pre71 _ ?_, hrun, hended, _, _, rfl, ?_, ⟨_, rfl⟩, hW, hsame.mono (by decide) (by decide)⟩
    · show Steps p.tables e below (T68.setTop (mkF m 58 #[.val (.int p0), .val (.int (16 : Int32)), .val (.ref w_CIRCULATE_39), .val (.int (1 : Int32))] [(.int (1 : Int32))])) _
      exact retN X68 hx (t := .boolean) Bd.returns (by simp) (hb hby at_58) hr
    · show Q0 Z _ _ _ _ _ _ _ _ _ _ _ _ _ _ _ _ _ _ _ _ _ _ _ _ _ _ _ _ _ _ _ _ _ _ _ _ _ _ _ _ _ _ _ _ _ h0 n0 _ T68.heap _
      rw [e68]
      exact ⟨rfl, N68, rfl⟩
  · skip
    obtain ⟨cq72, kq72, q72a, q72b, q72c⟩ := isOf hZ e1 E_12
    obtain ⟨_, _, ⟨T72, L72, k72, n72⟩, -, X72, ⟨Lc72, hQ72, l72, y72, z72⟩, st72⟩ := X1.virtualBack hx (y := (⟨"com/example/token_handoff/tokenhandoff/cli/Option", "takesValue", "()Z"⟩ : MethodName)) (z := (⟨"com/example/token_handoff/tokenhandoff/cli/Option", "takesValue", "()Z"⟩ : MethodName)) hown (mvT hZ (hw _ (List.mem_of_getElem? (i := 8) rfl))) (mvT hZ (hw _ (List.mem_of_getElem? (i := 9) rfl))) (notFace_of_selects (args := #[]) (mvT hZ (hw _ (List.mem_of_getElem? (i := 11) rfl)))) (mvT hZ (hw _ (List.mem_of_getElem? (i := 11) rfl))) (mvT hZ (hw _ (List.mem_of_getElem? (i := 10) rfl))) (by decide) (backOf (W := 0) (rm2 l Z aw hw [] w_SATURATION_11 (.ref w_value_9) h0 n0 Z0 rfl F_value_13) hZ (hw _ (List.mem_of_getElem? (i := 12) rfl)) (hw _ (List.mem_of_getElem? (i := 6) rfl)) (by decide) (by decide)) q72a q72c (g := (mkF m 38 #[.val (.int p0), .val (.int (17 : Int32)), .val (.ref w_SATURATION_11), .val (.int (0 : Int32))] [(.ref w_SATURATION_11)])) rfl (by rw [hml]; rfl) (Steps.refl _) (argsL := []) (rest := []) (lenOf pd_1 rfl) rfl (by show 2 * 0 + _ ≤ _; exact Nat.le_of_eq rfl) (hb hby at_38) (fun _ _ => ⟨rfl, e1, (by decide : 0 + 0 ≤ _), (by decide : 0 + 0 ≤ _)⟩)
    dsimp only [Pt.U, Pt.locs, Pt.cells, Pt.slots] at X72 l72 y72 z72 st72 hQ72
    subst l72 y72 z72
    obtain ⟨⟨r73, rfl, Pr73⟩, Nq72, e72⟩ := hQ72
    have N72 := Fr.app N1 Nq72
    have pre74 : ∀ t, Steps p.tables e below (T72.setTop (mkF m 41 #[.val (.int p0), .val (.int (17 : Int32)), .val (.ref w_SATURATION_11), .val (.int (0 : Int32))] [(.int r73)])) t → Steps p.tables e below (s₁.setTop (entryFrame m #[(.int p0)] maxLocals)) t := fun t kt => pre3 t (by
        show Steps p.tables e below (T1.setTop (mkF m 12 #[.val (.int p0), .val (.int (17 : Int32)), .unset, .unset] [(.ref w_SATURATION_11)])) _
        refine XS.astoreN X1.here hx rfl (hb hby at_12) rfl rfl (l' := #[.val (.int p0), .val (.int (17 : Int32)), .val (.ref w_SATURATION_11), .unset]) rfl ?_
        show Steps p.tables e below (T1.setTop (mkF m 13 #[.val (.int p0), .val (.int (17 : Int32)), .val (.ref w_SATURATION_11), .unset] [])) _
        refine XS.iloadN X1.here hx rfl (hb hby at_13) rfl ?_
        show Steps p.tables e below (T1.setTop (mkF m 14 #[.val (.int p0), .val (.int (17 : Int32)), .val (.ref w_SATURATION_11), .unset] [(.int (17 : Int32))])) _
        refine XS.bipush X1.here hx rfl (hb hby at_14) ?_
        show Steps p.tables e below (T1.setTop (mkF m 16 #[.val (.int p0), .val (.int (17 : Int32)), .val (.ref w_SATURATION_11), .unset] [(.int (15 : Int32)), (.int (17 : Int32))])) _
        refine XS.icmpNo X1.here hx rfl (hb hby at_16) rfl (feq (by decide : ¬ ((17 : Int32) = (15 : Int32)))).1 ?_
        show Steps p.tables e below (T1.setTop (mkF m 19 #[.val (.int p0), .val (.int (17 : Int32)), .val (.ref w_SATURATION_11), .unset] [])) _
        refine XS.iloadN X1.here hx rfl (hb hby at_19) rfl ?_
        show Steps p.tables e below (T1.setTop (mkF m 20 #[.val (.int p0), .val (.int (17 : Int32)), .val (.ref w_SATURATION_11), .unset] [(.int (17 : Int32))])) _
        refine XS.bipush X1.here hx rfl (hb hby at_20) ?_
        show Steps p.tables e below (T1.setTop (mkF m 22 #[.val (.int p0), .val (.int (17 : Int32)), .val (.ref w_SATURATION_11), .unset] [(.int (16 : Int32)), (.int (17 : Int32))])) _
        refine XS.icmpNo X1.here hx rfl (hb hby at_22) rfl (feq (by decide : ¬ ((17 : Int32) = (16 : Int32)))).1 ?_
        show Steps p.tables e below (T1.setTop (mkF m 25 #[.val (.int p0), .val (.int (17 : Int32)), .val (.ref w_SATURATION_11), .unset] [])) _
        refine XS.iloadN X1.here hx rfl (hb hby at_25) rfl ?_
        show Steps p.tables e below (T1.setTop (mkF m 26 #[.val (.int p0), .val (.int (17 : Int32)), .val (.ref w_SATURATION_11), .unset] [(.int (17 : Int32))])) _
        refine XS.bipush X1.here hx rfl (hb hby at_26) ?_
        show Steps p.tables e below (T1.setTop (mkF m 28 #[.val (.int p0), .val (.int (17 : Int32)), .val (.ref w_SATURATION_11), .unset] [(.int (30 : Int32)), (.int (17 : Int32))])) _
        refine XS.icmpYes X1.here hx rfl (pc0 := 28) (pc' := 35) rfl (hb hby at_28) rfl (feq (by decide : ¬ ((17 : Int32) = (30 : Int32)))).2 (by decide) (by decide) ?_
        show Steps p.tables e below (T1.setTop (mkF m 35 #[.val (.int p0), .val (.int (17 : Int32)), .val (.ref w_SATURATION_11), .unset] [])) _
        refine XS.iconst X1.here hx rfl (hb hby at_35) ?_
        show Steps p.tables e below (T1.setTop (mkF m 36 #[.val (.int p0), .val (.int (17 : Int32)), .val (.ref w_SATURATION_11), .unset] [(.int (0 : Int32))])) _
        refine XS.istoreN X1.here hx rfl (hb hby at_36) rfl (l' := #[.val (.int p0), .val (.int (17 : Int32)), .val (.ref w_SATURATION_11), .val (.int (0 : Int32))]) rfl ?_
        show Steps p.tables e below (T1.setTop (mkF m 37 #[.val (.int p0), .val (.int (17 : Int32)), .val (.ref w_SATURATION_11), .val (.int (0 : Int32))] [])) _
        refine XS.aloadN X1.here hx rfl (hb hby at_37) rfl rfl ?_
        show Steps p.tables e below (T1.setTop (mkF m 38 #[.val (.int p0), .val (.int (17 : Int32)), .val (.ref w_SATURATION_11), .val (.int (0 : Int32))] [(.ref w_SATURATION_11)])) _
        refine st72.trans ?_
        exact kt)
    obtain rfl : (1 : Int32) = r73 := Pr73.2 nofun
    have pre75 : ∀ t, Steps p.tables e below (T72.setTop (mkF m 58 #[.val (.int p0), .val (.int (17 : Int32)), .val (.ref w_SATURATION_11), .val (.int (0 : Int32))] [(.int (1 : Int32))])) t → Steps p.tables e below (s₁.setTop (entryFrame m #[(.int p0)] maxLocals)) t := fun t kt => pre74 t (by
        show Steps p.tables e below (T72.setTop (mkF m 41 #[.val (.int p0), .val (.int (17 : Int32)), .val (.ref w_SATURATION_11), .val (.int (0 : Int32))] [(.int (1 : Int32))])) _
        refine XS.iloadN X72.here hx rfl (hb hby at_41) rfl ?_
        show Steps p.tables e below (T72.setTop (mkF m 42 #[.val (.int p0), .val (.int (17 : Int32)), .val (.ref w_SATURATION_11), .val (.int (0 : Int32))] [(.int (0 : Int32)), (.int (1 : Int32))])) _
        refine XS.ifNo X72.here hx rfl (hb hby at_42) rfl ((if0 _ _).trans (teq (rfl : (0 : Int32) = (0 : Int32))).2) ?_
        show Steps p.tables e below (T72.setTop (mkF m 45 #[.val (.int p0), .val (.int (17 : Int32)), .val (.ref w_SATURATION_11), .val (.int (0 : Int32))] [(.int (1 : Int32))])) _
        refine XS.iconst X72.here hx rfl (hb hby at_45) ?_
        show Steps p.tables e below (T72.setTop (mkF m 46 #[.val (.int p0), .val (.int (17 : Int32)), .val (.ref w_SATURATION_11), .val (.int (0 : Int32))] [(.int (1 : Int32)), (.int (1 : Int32))])) _
        refine XS.goto X72.here hx rfl (pc0 := 46) (pc' := 50) rfl (hb hby at_46) (by decide) (by decide) ?_
        show Steps p.tables e below (T72.setTop (mkF m 50 #[.val (.int p0), .val (.int (17 : Int32)), .val (.ref w_SATURATION_11), .val (.int (0 : Int32))] [(.int (1 : Int32)), (.int (1 : Int32))])) _
        refine XS.icmpNo X72.here hx rfl (hb hby at_50) rfl (teq (rfl : (1 : Int32) = (1 : Int32))).2 ?_
        show Steps p.tables e below (T72.setTop (mkF m 53 #[.val (.int p0), .val (.int (17 : Int32)), .val (.ref w_SATURATION_11), .val (.int (0 : Int32))] [])) _
        refine XS.iconst X72.here hx rfl (hb hby at_53) ?_
        show Steps p.tables e below (T72.setTop (mkF m 54 #[.val (.int p0), .val (.int (17 : Int32)), .val (.ref w_SATURATION_11), .val (.int (0 : Int32))] [(.int (1 : Int32))])) _
        refine XS.goto X72.here hx rfl (pc0 := 54) (pc' := 58) rfl (hb hby at_54) (by decide) (by decide) ?_
        exact kt)
    obtain ⟨fs, hr, hrun, hended, hW, hsame⟩ := X72.leave (v := some (.int (1 : Int32))) (fun h => by rw [Bd.returns] at h; cases h)
    refine ⟨_, _, pre75 _ ?_, hrun, hended, _, _, rfl, ?_, ⟨_, rfl⟩, hW, hsame.mono (by decide) (by decide)⟩
    · show Steps p.tables e below (T72.setTop (mkF m 58 #[.val (.int p0), .val (.int (17 : Int32)), .val (.ref w_SATURATION_11), .val (.int (0 : Int32))] [(.int (1 : Int32))])) _
      exact retN X72 hx (t := .boolean) Bd.returns (by simp) (hb hby at_58) hr
    · show Q0 Z _ _ _ _ _ _ _ _ _ _ _ _ _ _ _ _ _ _ _ _ _ _ _ _ _ _ _ _ _ _ _ _ _ _ _ _ _ _ _ _ _ _ _ _ _ h0 n0 _ T72.heap _
      rw [e72]
      exact ⟨rfl, N72, rfl⟩
  · skip
    obtain ⟨cq76, kq76, q76a, q76b, q76c⟩ := isOf hZ e1 E_39
    obtain ⟨_, _, ⟨T76, L76, k76, n76⟩, -, X76, ⟨Lc76, hQ76, l76, y76, z76⟩, st76⟩ := X1.virtualBack hx (y := (⟨"com/example/token_handoff/tokenhandoff/cli/Option", "takesValue", "()Z"⟩ : MethodName)) (z := (⟨"com/example/token_handoff/tokenhandoff/cli/Option", "takesValue", "()Z"⟩ : MethodName)) hown (mvT hZ (hw _ (List.mem_of_getElem? (i := 8) rfl))) (mvT hZ (hw _ (List.mem_of_getElem? (i := 9) rfl))) (notFace_of_selects (args := #[]) (mvT hZ (hw _ (List.mem_of_getElem? (i := 11) rfl)))) (mvT hZ (hw _ (List.mem_of_getElem? (i := 11) rfl))) (mvT hZ (hw _ (List.mem_of_getElem? (i := 10) rfl))) (by decide) (backOf (W := 0) (rm2 l Z aw hw [] w_OP_MS_33 (.ref w_value_9) h0 n0 Z0 rfl F_value_40) hZ (hw _ (List.mem_of_getElem? (i := 12) rfl)) (hw _ (List.mem_of_getElem? (i := 6) rfl)) (by decide) (by decide)) q76a q76c (g := (mkF m 38 #[.val (.int p0), .val (.int (18 : Int32)), .val (.ref w_OP_MS_33), .val (.int (0 : Int32))] [(.ref w_OP_MS_33)])) rfl (by rw [hml]; rfl) (Steps.refl _) (argsL := []) (rest := []) (lenOf pd_1 rfl) rfl (by show 2 * 0 + _ ≤ _; exact Nat.le_of_eq rfl) (hb hby at_38) (fun _ _ => ⟨rfl, e1, (by decide : 0 + 0 ≤ _), (by decide : 0 + 0 ≤ _)⟩)
    dsimp only [Pt.U, Pt.locs, Pt.cells, Pt.slots] at X76 l76 y76 z76 st76 hQ76
    subst l76 y76 z76
    obtain ⟨⟨r77, rfl, Pr77⟩, Nq76, e76⟩ := hQ76
    have N76 := Fr.app N1 Nq76
    have pre78 : ∀ t, Steps p.tables e below (T76.setTop (mkF m 41 #[.val (.int p0), .val (.int (18 : Int32)), .val (.ref w_OP_MS_33), .val (.int (0 : Int32))] [(.int r77)])) t → Steps p.tables e below (s₁.setTop (entryFrame m #[(.int p0)] maxLocals)) t := fun t kt => pre3 t (by
        show Steps p.tables e below (T1.setTop (mkF m 12 #[.val (.int p0), .val (.int (18 : Int32)), .unset, .unset] [(.ref w_OP_MS_33)])) _
        refine XS.astoreN X1.here hx rfl (hb hby at_12) rfl rfl (l' := #[.val (.int p0), .val (.int (18 : Int32)), .val (.ref w_OP_MS_33), .unset]) rfl ?_
        show Steps p.tables e below (T1.setTop (mkF m 13 #[.val (.int p0), .val (.int (18 : Int32)), .val (.ref w_OP_MS_33), .unset] [])) _
        refine XS.iloadN X1.here hx rfl (hb hby at_13) rfl ?_
        show Steps p.tables e below (T1.setTop (mkF m 14 #[.val (.int p0), .val (.int (18 : Int32)), .val (.ref w_OP_MS_33), .unset] [(.int (18 : Int32))])) _
        refine XS.bipush X1.here hx rfl (hb hby at_14) ?_
        show Steps p.tables e below (T1.setTop (mkF m 16 #[.val (.int p0), .val (.int (18 : Int32)), .val (.ref w_OP_MS_33), .unset] [(.int (15 : Int32)), (.int (18 : Int32))])) _
        refine XS.icmpNo X1.here hx rfl (hb hby at_16) rfl (feq (by decide : ¬ ((18 : Int32) = (15 : Int32)))).1 ?_
        show Steps p.tables e below (T1.setTop (mkF m 19 #[.val (.int p0), .val (.int (18 : Int32)), .val (.ref w_OP_MS_33), .unset] [])) _
        refine XS.iloadN X1.here hx rfl (hb hby at_19) rfl ?_
        show Steps p.tables e below (T1.setTop (mkF m 20 #[.val (.int p0), .val (.int (18 : Int32)), .val (.ref w_OP_MS_33), .unset] [(.int (18 : Int32))])) _
        refine XS.bipush X1.here hx rfl (hb hby at_20) ?_
        show Steps p.tables e below (T1.setTop (mkF m 22 #[.val (.int p0), .val (.int (18 : Int32)), .val (.ref w_OP_MS_33), .unset] [(.int (16 : Int32)), (.int (18 : Int32))])) _
        refine XS.icmpNo X1.here hx rfl (hb hby at_22) rfl (feq (by decide : ¬ ((18 : Int32) = (16 : Int32)))).1 ?_
        show Steps p.tables e below (T1.setTop (mkF m 25 #[.val (.int p0), .val (.int (18 : Int32)), .val (.ref w_OP_MS_33), .unset] [])) _
        refine XS.iloadN X1.here hx rfl (hb hby at_25) rfl ?_
        show Steps p.tables e below (T1.setTop (mkF m 26 #[.val (.int p0), .val (.int (18 : Int32)), .val (.ref w_OP_MS_33), .unset] [(.int (18 : Int32))])) _
        refine XS.bipush X1.here hx rfl (hb hby at_26) ?_
        show Steps p.tables e below (T1.setTop (mkF m 28 #[.val (.int p0), .val (.int (18 : Int32)), .val (.ref w_OP_MS_33), .unset] [(.int (30 : Int32)), (.int (18 : Int32))])) _
        refine XS.icmpYes X1.here hx rfl (pc0 := 28) (pc' := 35) rfl (hb hby at_28) rfl (feq (by decide : ¬ ((18 : Int32) = (30 : Int32)))).2 (by decide) (by decide) ?_
        show Steps p.tables e below (T1.setTop (mkF m 35 #[.val (.int p0), .val (.int (18 : Int32)), .val (.ref w_OP_MS_33), .unset] [])) _
        refine XS.iconst X1.here hx rfl (hb hby at_35) ?_
        show Steps p.tables e below (T1.setTop (mkF m 36 #[.val (.int p0), .val (.int (18 : Int32)), .val (.ref w_OP_MS_33), .unset] [(.int (0 : Int32))])) _
        refine XS.istoreN X1.here hx rfl (hb hby at_36) rfl (l' := #[.val (.int p0), .val (.int (18 : Int32)), .val (.ref w_OP_MS_33), .val (.int (0 : Int32))]) rfl ?_
        show Steps p.tables e below (T1.setTop (mkF m 37 #[.val (.int p0), .val (.int (18 : Int32)), .val (.ref w_OP_MS_33), .val (.int (0 : Int32))] [])) _
        refine XS.aloadN X1.here hx rfl (hb hby at_37) rfl rfl ?_
        show Steps p.tables e below (T1.setTop (mkF m 38 #[.val (.int p0), .val (.int (18 : Int32)), .val (.ref w_OP_MS_33), .val (.int (0 : Int32))] [(.ref w_OP_MS_33)])) _
        refine st76.trans ?_
        exact kt)
    obtain rfl : (1 : Int32) = r77 := Pr77.2 nofun
    have pre79 : ∀ t, Steps p.tables e below (T76.setTop (mkF m 58 #[.val (.int p0), .val (.int (18 : Int32)), .val (.ref w_OP_MS_33), .val (.int (0 : Int32))] [(.int (1 : Int32))])) t → Steps p.tables e below (s₁.setTop (entryFrame m #[(.int p0)] maxLocals)) t := fun t kt => pre78 t (by
        show Steps p.tables e below (T76.setTop (mkF m 41 #[.val (.int p0), .val (.int (18 : Int32)), .val (.ref w_OP_MS_33), .val (.int (0 : Int32))] [(.int (1 : Int32))])) _
        refine XS.iloadN X76.here hx rfl (hb hby at_41) rfl ?_
        show Steps p.tables e below (T76.setTop (mkF m 42 #[.val (.int p0), .val (.int (18 : Int32)), .val (.ref w_OP_MS_33), .val (.int (0 : Int32))] [(.int (0 : Int32)), (.int (1 : Int32))])) _
        refine XS.ifNo X76.here hx rfl (hb hby at_42) rfl ((if0 _ _).trans (teq (rfl : (0 : Int32) = (0 : Int32))).2) ?_
        show Steps p.tables e below (T76.setTop (mkF m 45 #[.val (.int p0), .val (.int (18 : Int32)), .val (.ref w_OP_MS_33), .val (.int (0 : Int32))] [(.int (1 : Int32))])) _
        refine XS.iconst X76.here hx rfl (hb hby at_45) ?_
        show Steps p.tables e below (T76.setTop (mkF m 46 #[.val (.int p0), .val (.int (18 : Int32)), .val (.ref w_OP_MS_33), .val (.int (0 : Int32))] [(.int (1 : Int32)), (.int (1 : Int32))])) _
        refine XS.goto X76.here hx rfl (pc0 := 46) (pc' := 50) rfl (hb hby at_46) (by decide) (by decide) ?_
        show Steps p.tables e below (T76.setTop (mkF m 50 #[.val (.int p0), .val (.int (18 : Int32)), .val (.ref w_OP_MS_33), .val (.int (0 : Int32))] [(.int (1 : Int32)), (.int (1 : Int32))])) _
        refine XS.icmpNo X76.here hx rfl (hb hby at_50) rfl (teq (rfl : (1 : Int32) = (1 : Int32))).2 ?_
        show Steps p.tables e below (T76.setTop (mkF m 53 #[.val (.int p0), .val (.int (18 : Int32)), .val (.ref w_OP_MS_33), .val (.int (0 : Int32))] [])) _
        refine XS.iconst X76.here hx rfl (hb hby at_53) ?_
        show Steps p.tables e below (T76.setTop (mkF m 54 #[.val (.int p0), .val (.int (18 : Int32)), .val (.ref w_OP_MS_33), .val (.int (0 : Int32))] [(.int (1 : Int32))])) _
        refine XS.goto X76.here hx rfl (pc0 := 54) (pc' := 58) rfl (hb hby at_54) (by decide) (by decide) ?_
        exact kt)
    obtain ⟨fs, hr, hrun, hended, hW, hsame⟩ := X76.leave (v := some (.int (1 : Int32))) (fun h => by rw [Bd.returns] at h; cases h)
    refine ⟨_, _, pre79 _ ?_, hrun, hended, _, _, rfl, ?_, ⟨_, rfl⟩, hW, hsame.mono (by decide) (by decide)⟩
    · show Steps p.tables e below (T76.setTop (mkF m 58 #[.val (.int p0), .val (.int (18 : Int32)), .val (.ref w_OP_MS_33), .val (.int (0 : Int32))] [(.int (1 : Int32))])) _
      exact retN X76 hx (t := .boolean) Bd.returns (by simp) (hb hby at_58) hr
    · show Q0 Z _ _ _ _ _ _ _ _ _ _ _ _ _ _ _ _ _ _ _ _ _ _ _ _ _ _ _ _ _ _ _ _ _ _ _ _ _ _ _ _ _ _ _ _ _ h0 n0 _ T76.heap _
      rw [e76]
      exact ⟨rfl, N76, rfl⟩
  · skip
    obtain ⟨cq80, kq80, q80a, q80b, q80c⟩ := isOf hZ e1 E_58
    obtain ⟨_, _, ⟨T80, L80, k80, n80⟩, -, X80, ⟨Lc80, hQ80, l80, y80, z80⟩, st80⟩ := X1.virtualBack hx (y := (⟨"com/example/token_handoff/tokenhandoff/cli/Option", "takesValue", "()Z"⟩ : MethodName)) (z := (⟨"com/example/token_handoff/tokenhandoff/cli/Option", "takesValue", "()Z"⟩ : MethodName)) hown (mvT hZ (hw _ (List.mem_of_getElem? (i := 8) rfl))) (mvT hZ (hw _ (List.mem_of_getElem? (i := 9) rfl))) (notFace_of_selects (args := #[]) (mvT hZ (hw _ (List.mem_of_getElem? (i := 11) rfl)))) (mvT hZ (hw _ (List.mem_of_getElem? (i := 11) rfl))) (mvT hZ (hw _ (List.mem_of_getElem? (i := 10) rfl))) (by decide) (backOf (W := 0) (rm2 l Z aw hw [] w_SKIP_MS_47 (.ref w_value_9) h0 n0 Z0 rfl F_value_59) hZ (hw _ (List.mem_of_getElem? (i := 12) rfl)) (hw _ (List.mem_of_getElem? (i := 6) rfl)) (by decide) (by decide)) q80a q80c (g := (mkF m 38 #[.val (.int p0), .val (.int (19 : Int32)), .val (.ref w_SKIP_MS_47), .val (.int (0 : Int32))] [(.ref w_SKIP_MS_47)])) rfl (by rw [hml]; rfl) (Steps.refl _) (argsL := []) (rest := []) (lenOf pd_1 rfl) rfl (by show 2 * 0 + _ ≤ _; exact Nat.le_of_eq rfl) (hb hby at_38) (fun _ _ => ⟨rfl, e1, (by decide : 0 + 0 ≤ _), (by decide : 0 + 0 ≤ _)⟩)
    dsimp only [Pt.U, Pt.locs, Pt.cells, Pt.slots] at X80 l80 y80 z80 st80 hQ80
    subst l80 y80 z80
    obtain ⟨⟨r81, rfl, Pr81⟩, Nq80, e80⟩ := hQ80
    have N80 := Fr.app N1 Nq80
    have pre82 : ∀ t, Steps p.tables e below (T80.setTop (mkF m 41 #[.val (.int p0), .val (.int (19 : Int32)), .val (.ref w_SKIP_MS_47), .val (.int (0 : Int32))] [(.int r81)])) t → Steps p.tables e below (s₁.setTop (entryFrame m #[(.int p0)] maxLocals)) t := fun t kt => pre3 t (by
        show Steps p.tables e below (T1.setTop (mkF m 12 #[.val (.int p0), .val (.int (19 : Int32)), .unset, .unset] [(.ref w_SKIP_MS_47)])) _
        refine XS.astoreN X1.here hx rfl (hb hby at_12) rfl rfl (l' := #[.val (.int p0), .val (.int (19 : Int32)), .val (.ref w_SKIP_MS_47), .unset]) rfl ?_
        show Steps p.tables e below (T1.setTop (mkF m 13 #[.val (.int p0), .val (.int (19 : Int32)), .val (.ref w_SKIP_MS_47), .unset] [])) _
        refine XS.iloadN X1.here hx rfl (hb hby at_13) rfl ?_
        show Steps p.tables e below (T1.setTop (mkF m 14 #[.val (.int p0), .val (.int (19 : Int32)), .val (.ref w_SKIP_MS_47), .unset] [(.int (19 : Int32))])) _
        refine XS.bipush X1.here hx rfl (hb hby at_14) ?_
        show Steps p.tables e below (T1.setTop (mkF m 16 #[.val (.int p0), .val (.int (19 : Int32)), .val (.ref w_SKIP_MS_47), .unset] [(.int (15 : Int32)), (.int (19 : Int32))])) _
        refine XS.icmpNo X1.here hx rfl (hb hby at_16) rfl (feq (by decide : ¬ ((19 : Int32) = (15 : Int32)))).1 ?_
        show Steps p.tables e below (T1.setTop (mkF m 19 #[.val (.int p0), .val (.int (19 : Int32)), .val (.ref w_SKIP_MS_47), .unset] [])) _
        refine XS.iloadN X1.here hx rfl (hb hby at_19) rfl ?_
        show Steps p.tables e below (T1.setTop (mkF m 20 #[.val (.int p0), .val (.int (19 : Int32)), .val (.ref w_SKIP_MS_47), .unset] [(.int (19 : Int32))])) _
        refine XS.bipush X1.here hx rfl (hb hby at_20) ?_
        show Steps p.tables e below (T1.setTop (mkF m 22 #[.val (.int p0), .val (.int (19 : Int32)), .val (.ref w_SKIP_MS_47), .unset] [(.int (16 : Int32)), (.int (19 : Int32))])) _
        refine XS.icmpNo X1.here hx rfl (hb hby at_22) rfl (feq (by decide : ¬ ((19 : Int32) = (16 : Int32)))).1 ?_
        show Steps p.tables e below (T1.setTop (mkF m 25 #[.val (.int p0), .val (.int (19 : Int32)), .val (.ref w_SKIP_MS_47), .unset] [])) _
        refine XS.iloadN X1.here hx rfl (hb hby at_25) rfl ?_
        show Steps p.tables e below (T1.setTop (mkF m 26 #[.val (.int p0), .val (.int (19 : Int32)), .val (.ref w_SKIP_MS_47), .unset] [(.int (19 : Int32))])) _
        refine XS.bipush X1.here hx rfl (hb hby at_26) ?_
        show Steps p.tables e below (T1.setTop (mkF m 28 #[.val (.int p0), .val (.int (19 : Int32)), .val (.ref w_SKIP_MS_47), .unset] [(.int (30 : Int32)), (.int (19 : Int32))])) _
        refine XS.icmpYes X1.here hx rfl (pc0 := 28) (pc' := 35) rfl (hb hby at_28) rfl (feq (by decide : ¬ ((19 : Int32) = (30 : Int32)))).2 (by decide) (by decide) ?_
        show Steps p.tables e below (T1.setTop (mkF m 35 #[.val (.int p0), .val (.int (19 : Int32)), .val (.ref w_SKIP_MS_47), .unset] [])) _
        refine XS.iconst X1.here hx rfl (hb hby at_35) ?_
        show Steps p.tables e below (T1.setTop (mkF m 36 #[.val (.int p0), .val (.int (19 : Int32)), .val (.ref w_SKIP_MS_47), .unset] [(.int (0 : Int32))])) _
        refine XS.istoreN X1.here hx rfl (hb hby at_36) rfl (l' := #[.val (.int p0), .val (.int (19 : Int32)), .val (.ref w_SKIP_MS_47), .val (.int (0 : Int32))]) rfl ?_
        show Steps p.tables e below (T1.setTop (mkF m 37 #[.val (.int p0), .val (.int (19 : Int32)), .val (.ref w_SKIP_MS_47), .val (.int (0 : Int32))] [])) _
        refine XS.aloadN X1.here hx rfl (hb hby at_37) rfl rfl ?_
        show Steps p.tables e below (T1.setTop (mkF m 38 #[.val (.int p0), .val (.int (19 : Int32)), .val (.ref w_SKIP_MS_47), .val (.int (0 : Int32))] [(.ref w_SKIP_MS_47)])) _
        refine st80.trans ?_
        exact kt)
    obtain rfl : (1 : Int32) = r81 := Pr81.2 nofun
    have pre83 : ∀ t, Steps p.tables e below (T80.setTop (mkF m 58 #[.val (.int p0), .val (.int (19 : Int32)), .val (.ref w_SKIP_MS_47), .val (.int (0 : Int32))] [(.int (1 : Int32))])) t → Steps p.tables e below (s₁.setTop (entryFrame m #[(.int p0)] maxLocals)) t := fun t kt => pre82 t (by
        show Steps p.tables e below (T80.setTop (mkF m 41 #[.val (.int p0), .val (.int (19 : Int32)), .val (.ref w_SKIP_MS_47), .val (.int (0 : Int32))] [(.int (1 : Int32))])) _
        refine XS.iloadN X80.here hx rfl (hb hby at_41) rfl ?_
        show Steps p.tables e below (T80.setTop (mkF m 42 #[.val (.int p0), .val (.int (19 : Int32)), .val (.ref w_SKIP_MS_47), .val (.int (0 : Int32))] [(.int (0 : Int32)), (.int (1 : Int32))])) _
        refine XS.ifNo X80.here hx rfl (hb hby at_42) rfl ((if0 _ _).trans (teq (rfl : (0 : Int32) = (0 : Int32))).2) ?_
        show Steps p.tables e below (T80.setTop (mkF m 45 #[.val (.int p0), .val (.int (19 : Int32)), .val (.ref w_SKIP_MS_47), .val (.int (0 : Int32))] [(.int (1 : Int32))])) _
        refine XS.iconst X80.here hx rfl (hb hby at_45) ?_
        show Steps p.tables e below (T80.setTop (mkF m 46 #[.val (.int p0), .val (.int (19 : Int32)), .val (.ref w_SKIP_MS_47), .val (.int (0 : Int32))] [(.int (1 : Int32)), (.int (1 : Int32))])) _
        refine XS.goto X80.here hx rfl (pc0 := 46) (pc' := 50) rfl (hb hby at_46) (by decide) (by decide) ?_
        show Steps p.tables e below (T80.setTop (mkF m 50 #[.val (.int p0), .val (.int (19 : Int32)), .val (.ref w_SKIP_MS_47), .val (.int (0 : Int32))] [(.int (1 : Int32)), (.int (1 : Int32))])) _
        refine XS.icmpNo X80.here hx rfl (hb hby at_50) rfl (teq (rfl : (1 : Int32) = (1 : Int32))).2 ?_
        show Steps p.tables e below (T80.setTop (mkF m 53 #[.val (.int p0), .val (.int (19 : Int32)), .val (.ref w_SKIP_MS_47), .val (.int (0 : Int32))] [])) _
        refine XS.iconst X80.here hx rfl (hb hby at_53) ?_
        show Steps p.tables e below (T80.setTop (mkF m 54 #[.val (.int p0), .val (.int (19 : Int32)), .val (.ref w_SKIP_MS_47), .val (.int (0 : Int32))] [(.int (1 : Int32))])) _
        refine XS.goto X80.here hx rfl (pc0 := 54) (pc' := 58) rfl (hb hby at_54) (by decide) (by decide) ?_
        exact kt)
    obtain ⟨fs, hr, hrun, hended, hW, hsame⟩ := X80.leave (v := some (.int (1 : Int32))) (fun h => by rw [Bd.returns] at h; cases h)
    refine ⟨_, _, pre83 _ ?_, hrun, hended, _, _, rfl, ?_, ⟨_, rfl⟩, hW, hsame.mono (by decide) (by decide)⟩
    · show Steps p.tables e below (T80.setTop (mkF m 58 #[.val (.int p0), .val (.int (19 : Int32)), .val (.ref w_SKIP_MS_47), .val (.int (0 : Int32))] [(.int (1 : Int32))])) _
      exact retN X80 hx (t := .boolean) Bd.returns (by simp) (hb hby at_58) hr
    · show Q0 Z _ _ _ _ _ _ _ _ _ _ _ _ _ _ _ _ _ _ _ _ _ _ _ _ _ _ _ _ _ _ _ _ _ _ _ _ _ _ _ _ _ _ _ _ _ h0 n0 _ T80.heap _
      rw [e80]
      exact ⟨rfl, N80, rfl⟩
  · skip
    obtain ⟨cq84, kq84, q84a, q84b, q84c⟩ := isOf hZ e1 E_86
    obtain ⟨_, _, ⟨T84, L84, k84, n84⟩, -, X84, ⟨Lc84, hQ84, l84, y84, z84⟩, st84⟩ := X1.virtualBack hx (y := (⟨"com/example/token_handoff/tokenhandoff/cli/Option", "takesValue", "()Z"⟩ : MethodName)) (z := (⟨"com/example/token_handoff/tokenhandoff/cli/Option", "takesValue", "()Z"⟩ : MethodName)) hown (mvT hZ (hw _ (List.mem_of_getElem? (i := 8) rfl))) (mvT hZ (hw _ (List.mem_of_getElem? (i := 9) rfl))) (notFace_of_selects (args := #[]) (mvT hZ (hw _ (List.mem_of_getElem? (i := 11) rfl)))) (mvT hZ (hw _ (List.mem_of_getElem? (i := 11) rfl))) (mvT hZ (hw _ (List.mem_of_getElem? (i := 10) rfl))) (by decide) (backOf (W := 0) (rm2 l Z aw hw [] w_RUN_67 (.ref w_value_69) h0 n0 Z0 rfl F_value_87) hZ (hw _ (List.mem_of_getElem? (i := 12) rfl)) (hw _ (List.mem_of_getElem? (i := 6) rfl)) (by decide) (by decide)) q84a q84c (g := (mkF m 38 #[.val (.int p0), .val (.int (20 : Int32)), .val (.ref w_RUN_67), .val (.int (0 : Int32))] [(.ref w_RUN_67)])) rfl (by rw [hml]; rfl) (Steps.refl _) (argsL := []) (rest := []) (lenOf pd_1 rfl) rfl (by show 2 * 0 + _ ≤ _; exact Nat.le_of_eq rfl) (hb hby at_38) (fun _ _ => ⟨rfl, e1, (by decide : 0 + 0 ≤ _), (by decide : 0 + 0 ≤ _)⟩)
    dsimp only [Pt.U, Pt.locs, Pt.cells, Pt.slots] at X84 l84 y84 z84 st84 hQ84
    subst l84 y84 z84
    obtain ⟨⟨r85, rfl, Pr85⟩, Nq84, e84⟩ := hQ84
    have N84 := Fr.app N1 Nq84
    have pre86 : ∀ t, Steps p.tables e below (T84.setTop (mkF m 41 #[.val (.int p0), .val (.int (20 : Int32)), .val (.ref w_RUN_67), .val (.int (0 : Int32))] [(.int r85)])) t → Steps p.tables e below (s₁.setTop (entryFrame m #[(.int p0)] maxLocals)) t := fun t kt => pre3 t (by
        show Steps p.tables e below (T1.setTop (mkF m 12 #[.val (.int p0), .val (.int (20 : Int32)), .unset, .unset] [(.ref w_RUN_67)])) _
        refine XS.astoreN X1.here hx rfl (hb hby at_12) rfl rfl (l' := #[.val (.int p0), .val (.int (20 : Int32)), .val (.ref w_RUN_67), .unset]) rfl ?_
        show Steps p.tables e below (T1.setTop (mkF m 13 #[.val (.int p0), .val (.int (20 : Int32)), .val (.ref w_RUN_67), .unset] [])) _
        refine XS.iloadN X1.here hx rfl (hb hby at_13) rfl ?_
        show Steps p.tables e below (T1.setTop (mkF m 14 #[.val (.int p0), .val (.int (20 : Int32)), .val (.ref w_RUN_67), .unset] [(.int (20 : Int32))])) _
        refine XS.bipush X1.here hx rfl (hb hby at_14) ?_
        show Steps p.tables e below (T1.setTop (mkF m 16 #[.val (.int p0), .val (.int (20 : Int32)), .val (.ref w_RUN_67), .unset] [(.int (15 : Int32)), (.int (20 : Int32))])) _
        refine XS.icmpNo X1.here hx rfl (hb hby at_16) rfl (feq (by decide : ¬ ((20 : Int32) = (15 : Int32)))).1 ?_
        show Steps p.tables e below (T1.setTop (mkF m 19 #[.val (.int p0), .val (.int (20 : Int32)), .val (.ref w_RUN_67), .unset] [])) _
        refine XS.iloadN X1.here hx rfl (hb hby at_19) rfl ?_
        show Steps p.tables e below (T1.setTop (mkF m 20 #[.val (.int p0), .val (.int (20 : Int32)), .val (.ref w_RUN_67), .unset] [(.int (20 : Int32))])) _
        refine XS.bipush X1.here hx rfl (hb hby at_20) ?_
        show Steps p.tables e below (T1.setTop (mkF m 22 #[.val (.int p0), .val (.int (20 : Int32)), .val (.ref w_RUN_67), .unset] [(.int (16 : Int32)), (.int (20 : Int32))])) _
        refine XS.icmpNo X1.here hx rfl (hb hby at_22) rfl (feq (by decide : ¬ ((20 : Int32) = (16 : Int32)))).1 ?_
        show Steps p.tables e below (T1.setTop (mkF m 25 #[.val (.int p0), .val (.int (20 : Int32)), .val (.ref w_RUN_67), .unset] [])) _
        refine XS.iloadN X1.here hx rfl (hb hby at_25) rfl ?_
        show Steps p.tables e below (T1.setTop (mkF m 26 #[.val (.int p0), .val (.int (20 : Int32)), .val (.ref w_RUN_67), .unset] [(.int (20 : Int32))])) _
        refine XS.bipush X1.here hx rfl (hb hby at_26) ?_
        show Steps p.tables e below (T1.setTop (mkF m 28 #[.val (.int p0), .val (.int (20 : Int32)), .val (.ref w_RUN_67), .unset] [(.int (30 : Int32)), (.int (20 : Int32))])) _
        refine XS.icmpYes X1.here hx rfl (pc0 := 28) (pc' := 35) rfl (hb hby at_28) rfl (feq (by decide : ¬ ((20 : Int32) = (30 : Int32)))).2 (by decide) (by decide) ?_
        show Steps p.tables e below (T1.setTop (mkF m 35 #[.val (.int p0), .val (.int (20 : Int32)), .val (.ref w_RUN_67), .unset] [])) _
        refine XS.iconst X1.here hx rfl (hb hby at_35) ?_
        show Steps p.tables e below (T1.setTop (mkF m 36 #[.val (.int p0), .val (.int (20 : Int32)), .val (.ref w_RUN_67), .unset] [(.int (0 : Int32))])) _
        refine XS.istoreN X1.here hx rfl (hb hby at_36) rfl (l' := #[.val (.int p0), .val (.int (20 : Int32)), .val (.ref w_RUN_67), .val (.int (0 : Int32))]) rfl ?_
        show Steps p.tables e below (T1.setTop (mkF m 37 #[.val (.int p0), .val (.int (20 : Int32)), .val (.ref w_RUN_67), .val (.int (0 : Int32))] [])) _
        refine XS.aloadN X1.here hx rfl (hb hby at_37) rfl rfl ?_
        show Steps p.tables e below (T1.setTop (mkF m 38 #[.val (.int p0), .val (.int (20 : Int32)), .val (.ref w_RUN_67), .val (.int (0 : Int32))] [(.ref w_RUN_67)])) _
        refine st84.trans ?_
        exact kt)
    obtain rfl : (1 : Int32) = r85 := Pr85.2 nofun
    have pre87 : ∀ t, Steps p.tables e below (T84.setTop (mkF m 58 #[.val (.int p0), .val (.int (20 : Int32)), .val (.ref w_RUN_67), .val (.int (0 : Int32))] [(.int (1 : Int32))])) t → Steps p.tables e below (s₁.setTop (entryFrame m #[(.int p0)] maxLocals)) t := fun t kt => pre86 t (by
        show Steps p.tables e below (T84.setTop (mkF m 41 #[.val (.int p0), .val (.int (20 : Int32)), .val (.ref w_RUN_67), .val (.int (0 : Int32))] [(.int (1 : Int32))])) _
        refine XS.iloadN X84.here hx rfl (hb hby at_41) rfl ?_
        show Steps p.tables e below (T84.setTop (mkF m 42 #[.val (.int p0), .val (.int (20 : Int32)), .val (.ref w_RUN_67), .val (.int (0 : Int32))] [(.int (0 : Int32)), (.int (1 : Int32))])) _
        refine XS.ifNo X84.here hx rfl (hb hby at_42) rfl ((if0 _ _).trans (teq (rfl : (0 : Int32) = (0 : Int32))).2) ?_
        show Steps p.tables e below (T84.setTop (mkF m 45 #[.val (.int p0), .val (.int (20 : Int32)), .val (.ref w_RUN_67), .val (.int (0 : Int32))] [(.int (1 : Int32))])) _
        refine XS.iconst X84.here hx rfl (hb hby at_45) ?_
        show Steps p.tables e below (T84.setTop (mkF m 46 #[.val (.int p0), .val (.int (20 : Int32)), .val (.ref w_RUN_67), .val (.int (0 : Int32))] [(.int (1 : Int32)), (.int (1 : Int32))])) _
        refine XS.goto X84.here hx rfl (pc0 := 46) (pc' := 50) rfl (hb hby at_46) (by decide) (by decide) ?_
        show Steps p.tables e below (T84.setTop (mkF m 50 #[.val (.int p0), .val (.int (20 : Int32)), .val (.ref w_RUN_67), .val (.int (0 : Int32))] [(.int (1 : Int32)), (.int (1 : Int32))])) _
        refine XS.icmpNo X84.here hx rfl (hb hby at_50) rfl (teq (rfl : (1 : Int32) = (1 : Int32))).2 ?_
        show Steps p.tables e below (T84.setTop (mkF m 53 #[.val (.int p0), .val (.int (20 : Int32)), .val (.ref w_RUN_67), .val (.int (0 : Int32))] [])) _
        refine XS.iconst X84.here hx rfl (hb hby at_53) ?_
        show Steps p.tables e below (T84.setTop (mkF m 54 #[.val (.int p0), .val (.int (20 : Int32)), .val (.ref w_RUN_67), .val (.int (0 : Int32))] [(.int (1 : Int32))])) _
        refine XS.goto X84.here hx rfl (pc0 := 54) (pc' := 58) rfl (hb hby at_54) (by decide) (by decide) ?_
        exact kt)
    obtain ⟨fs, hr, hrun, hended, hW, hsame⟩ := X84.leave (v := some (.int (1 : Int32))) (fun h => by rw [Bd.returns] at h; cases h)
    refine ⟨_, _, pre87 _ ?_, hrun, hended, _, _, rfl, ?_, ⟨_, rfl⟩, hW, hsame.mono (by decide) (by decide)⟩
    · show Steps p.tables e below (T84.setTop (mkF m 58 #[.val (.int p0), .val (.int (20 : Int32)), .val (.ref w_RUN_67), .val (.int (0 : Int32))] [(.int (1 : Int32))])) _
      exact retN X84 hx (t := .boolean) Bd.returns (by simp) (hb hby at_58) hr
    · show Q0 Z _ _ _ _ _ _ _ _ _ _ _ _ _ _ _ _ _ _ _ _ _ _ _ _ _ _ _ _ _ _ _ _ _ _ _ _ _ _ _ _ _ _ _ _ _ h0 n0 _ T84.heap _
      rw [e84]
      exact ⟨rfl, N84, rfl⟩
  · skip
    obtain ⟨cq88, kq88, q88a, q88b, q88c⟩ := isOf hZ e1 E_100
    obtain ⟨_, _, ⟨T88, L88, k88, n88⟩, -, X88, ⟨Lc88, hQ88, l88, y88, z88⟩, st88⟩ := X1.virtualBack hx (y := (⟨"com/example/token_handoff/tokenhandoff/cli/Option", "takesValue", "()Z"⟩ : MethodName)) (z := (⟨"com/example/token_handoff/tokenhandoff/cli/Option", "takesValue", "()Z"⟩ : MethodName)) hown (mvT hZ (hw _ (List.mem_of_getElem? (i := 8) rfl))) (mvT hZ (hw _ (List.mem_of_getElem? (i := 9) rfl))) (notFace_of_selects (args := #[]) (mvT hZ (hw _ (List.mem_of_getElem? (i := 11) rfl)))) (mvT hZ (hw _ (List.mem_of_getElem? (i := 11) rfl))) (mvT hZ (hw _ (List.mem_of_getElem? (i := 10) rfl))) (by decide) (backOf (W := 0) (rm2 l Z aw hw [] w_REGENERATE_79 (.ref w_value_81) h0 n0 Z0 rfl F_value_101) hZ (hw _ (List.mem_of_getElem? (i := 12) rfl)) (hw _ (List.mem_of_getElem? (i := 6) rfl)) (by decide) (by decide)) q88a q88c (g := (mkF m 38 #[.val (.int p0), .val (.int (21 : Int32)), .val (.ref w_REGENERATE_79), .val (.int (0 : Int32))] [(.ref w_REGENERATE_79)])) rfl (by rw [hml]; rfl) (Steps.refl _) (argsL := []) (rest := []) (lenOf pd_1 rfl) rfl (by show 2 * 0 + _ ≤ _; exact Nat.le_of_eq rfl) (hb hby at_38) (fun _ _ => ⟨rfl, e1, (by decide : 0 + 0 ≤ _), (by decide : 0 + 0 ≤ _)⟩)
    dsimp only [Pt.U, Pt.locs, Pt.cells, Pt.slots] at X88 l88 y88 z88 st88 hQ88
    subst l88 y88 z88
    obtain ⟨⟨r89, rfl, Pr89⟩, Nq88, e88⟩ := hQ88
    have N88 := Fr.app N1 Nq88
    have pre90 : ∀ t, Steps p.tables e below (T88.setTop (mkF m 41 #[.val (.int p0), .val (.int (21 : Int32)), .val (.ref w_REGENERATE_79), .val (.int (0 : Int32))] [(.int r89)])) t → Steps p.tables e below (s₁.setTop (entryFrame m #[(.int p0)] maxLocals)) t := fun t kt => pre3 t (by
        show Steps p.tables e below (T1.setTop (mkF m 12 #[.val (.int p0), .val (.int (21 : Int32)), .unset, .unset] [(.ref w_REGENERATE_79)])) _
        refine XS.astoreN X1.here hx rfl (hb hby at_12) rfl rfl (l' := #[.val (.int p0), .val (.int (21 : Int32)), .val (.ref w_REGENERATE_79), .unset]) rfl ?_
        show Steps p.tables e below (T1.setTop (mkF m 13 #[.val (.int p0), .val (.int (21 : Int32)), .val (.ref w_REGENERATE_79), .unset] [])) _
        refine XS.iloadN X1.here hx rfl (hb hby at_13) rfl ?_
        show Steps p.tables e below (T1.setTop (mkF m 14 #[.val (.int p0), .val (.int (21 : Int32)), .val (.ref w_REGENERATE_79), .unset] [(.int (21 : Int32))])) _
        refine XS.bipush X1.here hx rfl (hb hby at_14) ?_
        show Steps p.tables e below (T1.setTop (mkF m 16 #[.val (.int p0), .val (.int (21 : Int32)), .val (.ref w_REGENERATE_79), .unset] [(.int (15 : Int32)), (.int (21 : Int32))])) _
        refine XS.icmpNo X1.here hx rfl (hb hby at_16) rfl (feq (by decide : ¬ ((21 : Int32) = (15 : Int32)))).1 ?_
        show Steps p.tables e below (T1.setTop (mkF m 19 #[.val (.int p0), .val (.int (21 : Int32)), .val (.ref w_REGENERATE_79), .unset] [])) _
        refine XS.iloadN X1.here hx rfl (hb hby at_19) rfl ?_
        show Steps p.tables e below (T1.setTop (mkF m 20 #[.val (.int p0), .val (.int (21 : Int32)), .val (.ref w_REGENERATE_79), .unset] [(.int (21 : Int32))])) _
        refine XS.bipush X1.here hx rfl (hb hby at_20) ?_
        show Steps p.tables e below (T1.setTop (mkF m 22 #[.val (.int p0), .val (.int (21 : Int32)), .val (.ref w_REGENERATE_79), .unset] [(.int (16 : Int32)), (.int (21 : Int32))])) _
        refine XS.icmpNo X1.here hx rfl (hb hby at_22) rfl (feq (by decide : ¬ ((21 : Int32) = (16 : Int32)))).1 ?_
        show Steps p.tables e below (T1.setTop (mkF m 25 #[.val (.int p0), .val (.int (21 : Int32)), .val (.ref w_REGENERATE_79), .unset] [])) _
        refine XS.iloadN X1.here hx rfl (hb hby at_25) rfl ?_
        show Steps p.tables e below (T1.setTop (mkF m 26 #[.val (.int p0), .val (.int (21 : Int32)), .val (.ref w_REGENERATE_79), .unset] [(.int (21 : Int32))])) _
        refine XS.bipush X1.here hx rfl (hb hby at_26) ?_
        show Steps p.tables e below (T1.setTop (mkF m 28 #[.val (.int p0), .val (.int (21 : Int32)), .val (.ref w_REGENERATE_79), .unset] [(.int (30 : Int32)), (.int (21 : Int32))])) _
        refine XS.icmpYes X1.here hx rfl (pc0 := 28) (pc' := 35) rfl (hb hby at_28) rfl (feq (by decide : ¬ ((21 : Int32) = (30 : Int32)))).2 (by decide) (by decide) ?_
        show Steps p.tables e below (T1.setTop (mkF m 35 #[.val (.int p0), .val (.int (21 : Int32)), .val (.ref w_REGENERATE_79), .unset] [])) _
        refine XS.iconst X1.here hx rfl (hb hby at_35) ?_
        show Steps p.tables e below (T1.setTop (mkF m 36 #[.val (.int p0), .val (.int (21 : Int32)), .val (.ref w_REGENERATE_79), .unset] [(.int (0 : Int32))])) _
        refine XS.istoreN X1.here hx rfl (hb hby at_36) rfl (l' := #[.val (.int p0), .val (.int (21 : Int32)), .val (.ref w_REGENERATE_79), .val (.int (0 : Int32))]) rfl ?_
        show Steps p.tables e below (T1.setTop (mkF m 37 #[.val (.int p0), .val (.int (21 : Int32)), .val (.ref w_REGENERATE_79), .val (.int (0 : Int32))] [])) _
        refine XS.aloadN X1.here hx rfl (hb hby at_37) rfl rfl ?_
        show Steps p.tables e below (T1.setTop (mkF m 38 #[.val (.int p0), .val (.int (21 : Int32)), .val (.ref w_REGENERATE_79), .val (.int (0 : Int32))] [(.ref w_REGENERATE_79)])) _
        refine st88.trans ?_
        exact kt)
    obtain rfl : (1 : Int32) = r89 := Pr89.2 nofun
    have pre91 : ∀ t, Steps p.tables e below (T88.setTop (mkF m 58 #[.val (.int p0), .val (.int (21 : Int32)), .val (.ref w_REGENERATE_79), .val (.int (0 : Int32))] [(.int (1 : Int32))])) t → Steps p.tables e below (s₁.setTop (entryFrame m #[(.int p0)] maxLocals)) t := fun t kt => pre90 t (by
        show Steps p.tables e below (T88.setTop (mkF m 41 #[.val (.int p0), .val (.int (21 : Int32)), .val (.ref w_REGENERATE_79), .val (.int (0 : Int32))] [(.int (1 : Int32))])) _
        refine XS.iloadN X88.here hx rfl (hb hby at_41) rfl ?_
        show Steps p.tables e below (T88.setTop (mkF m 42 #[.val (.int p0), .val (.int (21 : Int32)), .val (.ref w_REGENERATE_79), .val (.int (0 : Int32))] [(.int (0 : Int32)), (.int (1 : Int32))])) _
        refine XS.ifNo X88.here hx rfl (hb hby at_42) rfl ((if0 _ _).trans (teq (rfl : (0 : Int32) = (0 : Int32))).2) ?_
        show Steps p.tables e below (T88.setTop (mkF m 45 #[.val (.int p0), .val (.int (21 : Int32)), .val (.ref w_REGENERATE_79), .val (.int (0 : Int32))] [(.int (1 : Int32))])) _
        refine XS.iconst X88.here hx rfl (hb hby at_45) ?_
        show Steps p.tables e below (T88.setTop (mkF m 46 #[.val (.int p0), .val (.int (21 : Int32)), .val (.ref w_REGENERATE_79), .val (.int (0 : Int32))] [(.int (1 : Int32)), (.int (1 : Int32))])) _
        refine XS.goto X88.here hx rfl (pc0 := 46) (pc' := 50) rfl (hb hby at_46) (by decide) (by decide) ?_
        show Steps p.tables e below (T88.setTop (mkF m 50 #[.val (.int p0), .val (.int (21 : Int32)), .val (.ref w_REGENERATE_79), .val (.int (0 : Int32))] [(.int (1 : Int32)), (.int (1 : Int32))])) _
        refine XS.icmpNo X88.here hx rfl (hb hby at_50) rfl (teq (rfl : (1 : Int32) = (1 : Int32))).2 ?_
        show Steps p.tables e below (T88.setTop (mkF m 53 #[.val (.int p0), .val (.int (21 : Int32)), .val (.ref w_REGENERATE_79), .val (.int (0 : Int32))] [])) _
        refine XS.iconst X88.here hx rfl (hb hby at_53) ?_
        show Steps p.tables e below (T88.setTop (mkF m 54 #[.val (.int p0), .val (.int (21 : Int32)), .val (.ref w_REGENERATE_79), .val (.int (0 : Int32))] [(.int (1 : Int32))])) _
        refine XS.goto X88.here hx rfl (pc0 := 54) (pc' := 58) rfl (hb hby at_54) (by decide) (by decide) ?_
        exact kt)
    obtain ⟨fs, hr, hrun, hended, hW, hsame⟩ := X88.leave (v := some (.int (1 : Int32))) (fun h => by rw [Bd.returns] at h; cases h)
    refine ⟨_, _, pre91 _ ?_, hrun, hended, _, _, rfl, ?_, ⟨_, rfl⟩, hW, hsame.mono (by decide) (by decide)⟩
    · show Steps p.tables e below (T88.setTop (mkF m 58 #[.val (.int p0), .val (.int (21 : Int32)), .val (.ref w_REGENERATE_79), .val (.int (0 : Int32))] [(.int (1 : Int32))])) _
      exact retN X88 hx (t := .boolean) Bd.returns (by simp) (hb hby at_58) hr
    · show Q0 Z _ _ _ _ _ _ _ _ _ _ _ _ _ _ _ _ _ _ _ _ _ _ _ _ _ _ _ _ _ _ _ _ _ _ _ _ _ _ _ _ _ _ _ _ _ h0 n0 _ T88.heap _
      rw [e88]
      exact ⟨rfl, N88, rfl⟩
  · skip
    obtain ⟨cq92, kq92, q92a, q92b, q92c⟩ := isOf hZ e1 E_70
    obtain ⟨_, _, ⟨T92, L92, k92, n92⟩, -, X92, ⟨Lc92, hQ92, l92, y92, z92⟩, st92⟩ := X1.virtualBack hx (y := (⟨"com/example/token_handoff/tokenhandoff/cli/Option", "takesValue", "()Z"⟩ : MethodName)) (z := (⟨"com/example/token_handoff/tokenhandoff/cli/Option", "takesValue", "()Z"⟩ : MethodName)) hown (mvT hZ (hw _ (List.mem_of_getElem? (i := 8) rfl))) (mvT hZ (hw _ (List.mem_of_getElem? (i := 9) rfl))) (notFace_of_selects (args := #[]) (mvT hZ (hw _ (List.mem_of_getElem? (i := 11) rfl)))) (mvT hZ (hw _ (List.mem_of_getElem? (i := 11) rfl))) (mvT hZ (hw _ (List.mem_of_getElem? (i := 10) rfl))) (by decide) (backOf (W := 0) (rm2 l Z aw hw [] w_STOP_AT_55 (.ref w_value_9) h0 n0 Z0 rfl F_value_71) hZ (hw _ (List.mem_of_getElem? (i := 12) rfl)) (hw _ (List.mem_of_getElem? (i := 6) rfl)) (by decide) (by decide)) q92a q92c (g := (mkF m 38 #[.val (.int p0), .val (.int (22 : Int32)), .val (.ref w_STOP_AT_55), .val (.int (0 : Int32))] [(.ref w_STOP_AT_55)])) rfl (by rw [hml]; rfl) (Steps.refl _) (argsL := []) (rest := []) (lenOf pd_1 rfl) rfl (by show 2 * 0 + _ ≤ _; exact Nat.le_of_eq rfl) (hb hby at_38) (fun _ _ => ⟨rfl, e1, (by decide : 0 + 0 ≤ _), (by decide : 0 + 0 ≤ _)⟩)
    dsimp only [Pt.U, Pt.locs, Pt.cells, Pt.slots] at X92 l92 y92 z92 st92 hQ92
    subst l92 y92 z92
    obtain ⟨⟨r93, rfl, Pr93⟩, Nq92, e92⟩ := hQ92
    have N92 := Fr.app N1 Nq92
    have pre94 : ∀ t, Steps p.tables e below (T92.setTop (mkF m 41 #[.val (.int p0), .val (.int (22 : Int32)), .val (.ref w_STOP_AT_55), .val (.int (0 : Int32))] [(.int r93)])) t → Steps p.tables e below (s₁.setTop (entryFrame m #[(.int p0)] maxLocals)) t := fun t kt => pre3 t (by
        show Steps p.tables e below (T1.setTop (mkF m 12 #[.val (.int p0), .val (.int (22 : Int32)), .unset, .unset] [(.ref w_STOP_AT_55)])) _
        refine XS.astoreN X1.here hx rfl (hb hby at_12) rfl rfl (l' := #[.val (.int p0), .val (.int (22 : Int32)), .val (.ref w_STOP_AT_55), .unset]) rfl ?_
        show Steps p.tables e below (T1.setTop (mkF m 13 #[.val (.int p0), .val (.int (22 : Int32)), .val (.ref w_STOP_AT_55), .unset] [])) _
        refine XS.iloadN X1.here hx rfl (hb hby at_13) rfl ?_
        show Steps p.tables e below (T1.setTop (mkF m 14 #[.val (.int p0), .val (.int (22 : Int32)), .val (.ref w_STOP_AT_55), .unset] [(.int (22 : Int32))])) _
        refine XS.bipush X1.here hx rfl (hb hby at_14) ?_
        show Steps p.tables e below (T1.setTop (mkF m 16 #[.val (.int p0), .val (.int (22 : Int32)), .val (.ref w_STOP_AT_55), .unset] [(.int (15 : Int32)), (.int (22 : Int32))])) _
        refine XS.icmpNo X1.here hx rfl (hb hby at_16) rfl (feq (by decide : ¬ ((22 : Int32) = (15 : Int32)))).1 ?_
        show Steps p.tables e below (T1.setTop (mkF m 19 #[.val (.int p0), .val (.int (22 : Int32)), .val (.ref w_STOP_AT_55), .unset] [])) _
        refine XS.iloadN X1.here hx rfl (hb hby at_19) rfl ?_
        show Steps p.tables e below (T1.setTop (mkF m 20 #[.val (.int p0), .val (.int (22 : Int32)), .val (.ref w_STOP_AT_55), .unset] [(.int (22 : Int32))])) _
        refine XS.bipush X1.here hx rfl (hb hby at_20) ?_
        show Steps p.tables e below (T1.setTop (mkF m 22 #[.val (.int p0), .val (.int (22 : Int32)), .val (.ref w_STOP_AT_55), .unset] [(.int (16 : Int32)), (.int (22 : Int32))])) _
        refine XS.icmpNo X1.here hx rfl (hb hby at_22) rfl (feq (by decide : ¬ ((22 : Int32) = (16 : Int32)))).1 ?_
        show Steps p.tables e below (T1.setTop (mkF m 25 #[.val (.int p0), .val (.int (22 : Int32)), .val (.ref w_STOP_AT_55), .unset] [])) _
        refine XS.iloadN X1.here hx rfl (hb hby at_25) rfl ?_
        show Steps p.tables e below (T1.setTop (mkF m 26 #[.val (.int p0), .val (.int (22 : Int32)), .val (.ref w_STOP_AT_55), .unset] [(.int (22 : Int32))])) _
        refine XS.bipush X1.here hx rfl (hb hby at_26) ?_
        show Steps p.tables e below (T1.setTop (mkF m 28 #[.val (.int p0), .val (.int (22 : Int32)), .val (.ref w_STOP_AT_55), .unset] [(.int (30 : Int32)), (.int (22 : Int32))])) _
        refine XS.icmpYes X1.here hx rfl (pc0 := 28) (pc' := 35) rfl (hb hby at_28) rfl (feq (by decide : ¬ ((22 : Int32) = (30 : Int32)))).2 (by decide) (by decide) ?_
        show Steps p.tables e below (T1.setTop (mkF m 35 #[.val (.int p0), .val (.int (22 : Int32)), .val (.ref w_STOP_AT_55), .unset] [])) _
        refine XS.iconst X1.here hx rfl (hb hby at_35) ?_
        show Steps p.tables e below (T1.setTop (mkF m 36 #[.val (.int p0), .val (.int (22 : Int32)), .val (.ref w_STOP_AT_55), .unset] [(.int (0 : Int32))])) _
        refine XS.istoreN X1.here hx rfl (hb hby at_36) rfl (l' := #[.val (.int p0), .val (.int (22 : Int32)), .val (.ref w_STOP_AT_55), .val (.int (0 : Int32))]) rfl ?_
        show Steps p.tables e below (T1.setTop (mkF m 37 #[.val (.int p0), .val (.int (22 : Int32)), .val (.ref w_STOP_AT_55), .val (.int (0 : Int32))] [])) _
        refine XS.aloadN X1.here hx rfl (hb hby at_37) rfl rfl ?_
        show Steps p.tables e below (T1.setTop (mkF m 38 #[.val (.int p0), .val (.int (22 : Int32)), .val (.ref w_STOP_AT_55), .val (.int (0 : Int32))] [(.ref w_STOP_AT_55)])) _
        refine st92.trans ?_
        exact kt)
    obtain rfl : (1 : Int32) = r93 := Pr93.2 nofun
    have pre95 : ∀ t, Steps p.tables e below (T92.setTop (mkF m 58 #[.val (.int p0), .val (.int (22 : Int32)), .val (.ref w_STOP_AT_55), .val (.int (0 : Int32))] [(.int (1 : Int32))])) t → Steps p.tables e below (s₁.setTop (entryFrame m #[(.int p0)] maxLocals)) t := fun t kt => pre94 t (by
        show Steps p.tables e below (T92.setTop (mkF m 41 #[.val (.int p0), .val (.int (22 : Int32)), .val (.ref w_STOP_AT_55), .val (.int (0 : Int32))] [(.int (1 : Int32))])) _
        refine XS.iloadN X92.here hx rfl (hb hby at_41) rfl ?_
        show Steps p.tables e below (T92.setTop (mkF m 42 #[.val (.int p0), .val (.int (22 : Int32)), .val (.ref w_STOP_AT_55), .val (.int (0 : Int32))] [(.int (0 : Int32)), (.int (1 : Int32))])) _
        refine XS.ifNo X92.here hx rfl (hb hby at_42) rfl ((if0 _ _).trans (teq (rfl : (0 : Int32) = (0 : Int32))).2) ?_
        show Steps p.tables e below (T92.setTop (mkF m 45 #[.val (.int p0), .val (.int (22 : Int32)), .val (.ref w_STOP_AT_55), .val (.int (0 : Int32))] [(.int (1 : Int32))])) _
        refine XS.iconst X92.here hx rfl (hb hby at_45) ?_
        show Steps p.tables e below (T92.setTop (mkF m 46 #[.val (.int p0), .val (.int (22 : Int32)), .val (.ref w_STOP_AT_55), .val (.int (0 : Int32))] [(.int (1 : Int32)), (.int (1 : Int32))])) _
        refine XS.goto X92.here hx rfl (pc0 := 46) (pc' := 50) rfl (hb hby at_46) (by decide) (by decide) ?_
        show Steps p.tables e below (T92.setTop (mkF m 50 #[.val (.int p0), .val (.int (22 : Int32)), .val (.ref w_STOP_AT_55), .val (.int (0 : Int32))] [(.int (1 : Int32)), (.int (1 : Int32))])) _
        refine XS.icmpNo X92.here hx rfl (hb hby at_50) rfl (teq (rfl : (1 : Int32) = (1 : Int32))).2 ?_
        show Steps p.tables e below (T92.setTop (mkF m 53 #[.val (.int p0), .val (.int (22 : Int32)), .val (.ref w_STOP_AT_55), .val (.int (0 : Int32))] [])) _
        refine XS.iconst X92.here hx rfl (hb hby at_53) ?_
        show Steps p.tables e below (T92.setTop (mkF m 54 #[.val (.int p0), .val (.int (22 : Int32)), .val (.ref w_STOP_AT_55), .val (.int (0 : Int32))] [(.int (1 : Int32))])) _
        refine XS.goto X92.here hx rfl (pc0 := 54) (pc' := 58) rfl (hb hby at_54) (by decide) (by decide) ?_
        exact kt)
    obtain ⟨fs, hr, hrun, hended, hW, hsame⟩ := X92.leave (v := some (.int (1 : Int32))) (fun h => by rw [Bd.returns] at h; cases h)
    refine ⟨_, _, pre95 _ ?_, hrun, hended, _, _, rfl, ?_, ⟨_, rfl⟩, hW, hsame.mono (by decide) (by decide)⟩
    · show Steps p.tables e below (T92.setTop (mkF m 58 #[.val (.int p0), .val (.int (22 : Int32)), .val (.ref w_STOP_AT_55), .val (.int (0 : Int32))] [(.int (1 : Int32))])) _
      exact retN X92 hx (t := .boolean) Bd.returns (by simp) (hb hby at_58) hr
    · show Q0 Z _ _ _ _ _ _ _ _ _ _ _ _ _ _ _ _ _ _ _ _ _ _ _ _ _ _ _ _ _ _ _ _ _ _ _ _ _ _ _ _ _ _ _ _ _ h0 n0 _ T92.heap _
      rw [e92]
      exact ⟨rfl, N92, rfl⟩
  · skip
    obtain ⟨cq96, kq96, q96a, q96b, q96c⟩ := isOf hZ e1 E_67
    obtain ⟨_, _, ⟨T96, L96, k96, n96⟩, -, X96, ⟨Lc96, hQ96, l96, y96, z96⟩, st96⟩ := X1.virtualBack hx (y := (⟨"com/example/token_handoff/tokenhandoff/cli/Option", "takesValue", "()Z"⟩ : MethodName)) (z := (⟨"com/example/token_handoff/tokenhandoff/cli/Option", "takesValue", "()Z"⟩ : MethodName)) hown (mvT hZ (hw _ (List.mem_of_getElem? (i := 8) rfl))) (mvT hZ (hw _ (List.mem_of_getElem? (i := 9) rfl))) (notFace_of_selects (args := #[]) (mvT hZ (hw _ (List.mem_of_getElem? (i := 11) rfl)))) (mvT hZ (hw _ (List.mem_of_getElem? (i := 11) rfl))) (mvT hZ (hw _ (List.mem_of_getElem? (i := 10) rfl))) (by decide) (backOf (W := 0) (rm2 l Z aw hw [] w_TO_53 (.ref w_value_31) h0 n0 Z0 rfl F_value_68) hZ (hw _ (List.mem_of_getElem? (i := 12) rfl)) (hw _ (List.mem_of_getElem? (i := 6) rfl)) (by decide) (by decide)) q96a q96c (g := (mkF m 38 #[.val (.int p0), .val (.int (23 : Int32)), .val (.ref w_TO_53), .val (.int (0 : Int32))] [(.ref w_TO_53)])) rfl (by rw [hml]; rfl) (Steps.refl _) (argsL := []) (rest := []) (lenOf pd_1 rfl) rfl (by show 2 * 0 + _ ≤ _; exact Nat.le_of_eq rfl) (hb hby at_38) (fun _ _ => ⟨rfl, e1, (by decide : 0 + 0 ≤ _), (by decide : 0 + 0 ≤ _)⟩)
    dsimp only [Pt.U, Pt.locs, Pt.cells, Pt.slots] at X96 l96 y96 z96 st96 hQ96
    subst l96 y96 z96
    obtain ⟨⟨r97, rfl, Pr97⟩, Nq96, e96⟩ := hQ96
    have N96 := Fr.app N1 Nq96
    have pre98 : ∀ t, Steps p.tables e below (T96.setTop (mkF m 41 #[.val (.int p0), .val (.int (23 : Int32)), .val (.ref w_TO_53), .val (.int (0 : Int32))] [(.int r97)])) t → Steps p.tables e below (s₁.setTop (entryFrame m #[(.int p0)] maxLocals)) t := fun t kt => pre3 t (by
        show Steps p.tables e below (T1.setTop (mkF m 12 #[.val (.int p0), .val (.int (23 : Int32)), .unset, .unset] [(.ref w_TO_53)])) _
        refine XS.astoreN X1.here hx rfl (hb hby at_12) rfl rfl (l' := #[.val (.int p0), .val (.int (23 : Int32)), .val (.ref w_TO_53), .unset]) rfl ?_
        show Steps p.tables e below (T1.setTop (mkF m 13 #[.val (.int p0), .val (.int (23 : Int32)), .val (.ref w_TO_53), .unset] [])) _
        refine XS.iloadN X1.here hx rfl (hb hby at_13) rfl ?_
        show Steps p.tables e below (T1.setTop (mkF m 14 #[.val (.int p0), .val (.int (23 : Int32)), .val (.ref w_TO_53), .unset] [(.int (23 : Int32))])) _
        refine XS.bipush X1.here hx rfl (hb hby at_14) ?_
        show Steps p.tables e below (T1.setTop (mkF m 16 #[.val (.int p0), .val (.int (23 : Int32)), .val (.ref w_TO_53), .unset] [(.int (15 : Int32)), (.int (23 : Int32))])) _
        refine XS.icmpNo X1.here hx rfl (hb hby at_16) rfl (feq (by decide : ¬ ((23 : Int32) = (15 : Int32)))).1 ?_
        show Steps p.tables e below (T1.setTop (mkF m 19 #[.val (.int p0), .val (.int (23 : Int32)), .val (.ref w_TO_53), .unset] [])) _
        refine XS.iloadN X1.here hx rfl (hb hby at_19) rfl ?_
        show Steps p.tables e below (T1.setTop (mkF m 20 #[.val (.int p0), .val (.int (23 : Int32)), .val (.ref w_TO_53), .unset] [(.int (23 : Int32))])) _
        refine XS.bipush X1.here hx rfl (hb hby at_20) ?_
        show Steps p.tables e below (T1.setTop (mkF m 22 #[.val (.int p0), .val (.int (23 : Int32)), .val (.ref w_TO_53), .unset] [(.int (16 : Int32)), (.int (23 : Int32))])) _
        refine XS.icmpNo X1.here hx rfl (hb hby at_22) rfl (feq (by decide : ¬ ((23 : Int32) = (16 : Int32)))).1 ?_
        show Steps p.tables e below (T1.setTop (mkF m 25 #[.val (.int p0), .val (.int (23 : Int32)), .val (.ref w_TO_53), .unset] [])) _
        refine XS.iloadN X1.here hx rfl (hb hby at_25) rfl ?_
        show Steps p.tables e below (T1.setTop (mkF m 26 #[.val (.int p0), .val (.int (23 : Int32)), .val (.ref w_TO_53), .unset] [(.int (23 : Int32))])) _
        refine XS.bipush X1.here hx rfl (hb hby at_26) ?_
        show Steps p.tables e below (T1.setTop (mkF m 28 #[.val (.int p0), .val (.int (23 : Int32)), .val (.ref w_TO_53), .unset] [(.int (30 : Int32)), (.int (23 : Int32))])) _
        refine XS.icmpYes X1.here hx rfl (pc0 := 28) (pc' := 35) rfl (hb hby at_28) rfl (feq (by decide : ¬ ((23 : Int32) = (30 : Int32)))).2 (by decide) (by decide) ?_
        show Steps p.tables e below (T1.setTop (mkF m 35 #[.val (.int p0), .val (.int (23 : Int32)), .val (.ref w_TO_53), .unset] [])) _
        refine XS.iconst X1.here hx rfl (hb hby at_35) ?_
        show Steps p.tables e below (T1.setTop (mkF m 36 #[.val (.int p0), .val (.int (23 : Int32)), .val (.ref w_TO_53), .unset] [(.int (0 : Int32))])) _
        refine XS.istoreN X1.here hx rfl (hb hby at_36) rfl (l' := #[.val (.int p0), .val (.int (23 : Int32)), .val (.ref w_TO_53), .val (.int (0 : Int32))]) rfl ?_
        show Steps p.tables e below (T1.setTop (mkF m 37 #[.val (.int p0), .val (.int (23 : Int32)), .val (.ref w_TO_53), .val (.int (0 : Int32))] [])) _
        refine XS.aloadN X1.here hx rfl (hb hby at_37) rfl rfl ?_
        show Steps p.tables e below (T1.setTop (mkF m 38 #[.val (.int p0), .val (.int (23 : Int32)), .val (.ref w_TO_53), .val (.int (0 : Int32))] [(.ref w_TO_53)])) _
        refine st96.trans ?_
        exact kt)
    obtain rfl : (1 : Int32) = r97 := Pr97.2 nofun
    have pre99 : ∀ t, Steps p.tables e below (T96.setTop (mkF m 58 #[.val (.int p0), .val (.int (23 : Int32)), .val (.ref w_TO_53), .val (.int (0 : Int32))] [(.int (1 : Int32))])) t → Steps p.tables e below (s₁.setTop (entryFrame m #[(.int p0)] maxLocals)) t := fun t kt => pre98 t (by
        show Steps p.tables e below (T96.setTop (mkF m 41 #[.val (.int p0), .val (.int (23 : Int32)), .val (.ref w_TO_53), .val (.int (0 : Int32))] [(.int (1 : Int32))])) _
        refine XS.iloadN X96.here hx rfl (hb hby at_41) rfl ?_
        show Steps p.tables e below (T96.setTop (mkF m 42 #[.val (.int p0), .val (.int (23 : Int32)), .val (.ref w_TO_53), .val (.int (0 : Int32))] [(.int (0 : Int32)), (.int (1 : Int32))])) _
        refine XS.ifNo X96.here hx rfl (hb hby at_42) rfl ((if0 _ _).trans (teq (rfl : (0 : Int32) = (0 : Int32))).2) ?_
        show Steps p.tables e below (T96.setTop (mkF m 45 #[.val (.int p0), .val (.int (23 : Int32)), .val (.ref w_TO_53), .val (.int (0 : Int32))] [(.int (1 : Int32))])) _
        refine XS.iconst X96.here hx rfl (hb hby at_45) ?_
        show Steps p.tables e below (T96.setTop (mkF m 46 #[.val (.int p0), .val (.int (23 : Int32)), .val (.ref w_TO_53), .val (.int (0 : Int32))] [(.int (1 : Int32)), (.int (1 : Int32))])) _
        refine XS.goto X96.here hx rfl (pc0 := 46) (pc' := 50) rfl (hb hby at_46) (by decide) (by decide) ?_
        show Steps p.tables e below (T96.setTop (mkF m 50 #[.val (.int p0), .val (.int (23 : Int32)), .val (.ref w_TO_53), .val (.int (0 : Int32))] [(.int (1 : Int32)), (.int (1 : Int32))])) _
        refine XS.icmpNo X96.here hx rfl (hb hby at_50) rfl (teq (rfl : (1 : Int32) = (1 : Int32))).2 ?_
        show Steps p.tables e below (T96.setTop (mkF m 53 #[.val (.int p0), .val (.int (23 : Int32)), .val (.ref w_TO_53), .val (.int (0 : Int32))] [])) _
        refine XS.iconst X96.here hx rfl (hb hby at_53) ?_
        show Steps p.tables e below (T96.setTop (mkF m 54 #[.val (.int p0), .val (.int (23 : Int32)), .val (.ref w_TO_53), .val (.int (0 : Int32))] [(.int (1 : Int32))])) _
        refine XS.goto X96.here hx rfl (pc0 := 54) (pc' := 58) rfl (hb hby at_54) (by decide) (by decide) ?_
        exact kt)
    obtain ⟨fs, hr, hrun, hended, hW, hsame⟩ := X96.leave (v := some (.int (1 : Int32))) (fun h => by rw [Bd.returns] at h; cases h)
    refine ⟨_, _, pre99 _ ?_, hrun, hended, _, _, rfl, ?_, ⟨_, rfl⟩, hW, hsame.mono (by decide) (by decide)⟩
    · show Steps p.tables e below (T96.setTop (mkF m 58 #[.val (.int p0), .val (.int (23 : Int32)), .val (.ref w_TO_53), .val (.int (0 : Int32))] [(.int (1 : Int32))])) _
      exact retN X96 hx (t := .boolean) Bd.returns (by simp) (hb hby at_58) hr
    · show Q0 Z _ _ _ _ _ _ _ _ _ _ _ _ _ _ _ _ _ _ _ _ _ _ _ _ _ _ _ _ _ _ _ _ _ _ _ _ _ _ _ _ _ _ _ _ _ h0 n0 _ T96.heap _
      rw [e96]
      exact ⟨rfl, N96, rfl⟩
  · skip
    obtain ⟨cq100, kq100, q100a, q100b, q100c⟩ := isOf hZ e1 E_64
    obtain ⟨_, _, ⟨T100, L100, k100, n100⟩, -, X100, ⟨Lc100, hQ100, l100, y100, z100⟩, st100⟩ := X1.virtualBack hx (y := (⟨"com/example/token_handoff/tokenhandoff/cli/Option", "takesValue", "()Z"⟩ : MethodName)) (z := (⟨"com/example/token_handoff/tokenhandoff/cli/Option", "takesValue", "()Z"⟩ : MethodName)) hown (mvT hZ (hw _ (List.mem_of_getElem? (i := 8) rfl))) (mvT hZ (hw _ (List.mem_of_getElem? (i := 9) rfl))) (notFace_of_selects (args := #[]) (mvT hZ (hw _ (List.mem_of_getElem? (i := 11) rfl)))) (mvT hZ (hw _ (List.mem_of_getElem? (i := 11) rfl))) (mvT hZ (hw _ (List.mem_of_getElem? (i := 10) rfl))) (by decide) (backOf (W := 0) (rm2 l Z aw hw [] w_ATTEMPTS_51 (.ref w_value_9) h0 n0 Z0 rfl F_value_65) hZ (hw _ (List.mem_of_getElem? (i := 12) rfl)) (hw _ (List.mem_of_getElem? (i := 6) rfl)) (by decide) (by decide)) q100a q100c (g := (mkF m 38 #[.val (.int p0), .val (.int (24 : Int32)), .val (.ref w_ATTEMPTS_51), .val (.int (0 : Int32))] [(.ref w_ATTEMPTS_51)])) rfl (by rw [hml]; rfl) (Steps.refl _) (argsL := []) (rest := []) (lenOf pd_1 rfl) rfl (by show 2 * 0 + _ ≤ _; exact Nat.le_of_eq rfl) (hb hby at_38) (fun _ _ => ⟨rfl, e1, (by decide : 0 + 0 ≤ _), (by decide : 0 + 0 ≤ _)⟩)
    dsimp only [Pt.U, Pt.locs, Pt.cells, Pt.slots] at X100 l100 y100 z100 st100 hQ100
    subst l100 y100 z100
    obtain ⟨⟨r101, rfl, Pr101⟩, Nq100, e100⟩ := hQ100
    have N100 := Fr.app N1 Nq100
    have pre102 : ∀ t, Steps p.tables e below (T100.setTop (mkF m 41 #[.val (.int p0), .val (.int (24 : Int32)), .val (.ref w_ATTEMPTS_51), .val (.int (0 : Int32))] [(.int r101)])) t → Steps p.tables e below (s₁.setTop (entryFrame m #[(.int p0)] maxLocals)) t := fun t kt => pre3 t (by
        show Steps p.tables e below (T1.setTop (mkF m 12 #[.val (.int p0), .val (.int (24 : Int32)), .unset, .unset] [(.ref w_ATTEMPTS_51)])) _
        refine XS.astoreN X1.here hx rfl (hb hby at_12) rfl rfl (l' := #[.val (.int p0), .val (.int (24 : Int32)), .val (.ref w_ATTEMPTS_51), .unset]) rfl ?_
        show Steps p.tables e below (T1.setTop (mkF m 13 #[.val (.int p0), .val (.int (24 : Int32)), .val (.ref w_ATTEMPTS_51), .unset] [])) _
        refine XS.iloadN X1.here hx rfl (hb hby at_13) rfl ?_
        show Steps p.tables e below (T1.setTop (mkF m 14 #[.val (.int p0), .val (.int (24 : Int32)), .val (.ref w_ATTEMPTS_51), .unset] [(.int (24 : Int32))])) _
        refine XS.bipush X1.here hx rfl (hb hby at_14) ?_
        show Steps p.tables e below (T1.setTop (mkF m 16 #[.val (.int p0), .val (.int (24 : Int32)), .val (.ref w_ATTEMPTS_51), .unset] [(.int (15 : Int32)), (.int (24 : Int32))])) _
        refine XS.icmpNo X1.here hx rfl (hb hby at_16) rfl (feq (by decide : ¬ ((24 : Int32) = (15 : Int32)))).1 ?_
        show Steps p.tables e below (T1.setTop (mkF m 19 #[.val (.int p0), .val (.int (24 : Int32)), .val (.ref w_ATTEMPTS_51), .unset] [])) _
        refine XS.iloadN X1.here hx rfl (hb hby at_19) rfl ?_
        show Steps p.tables e below (T1.setTop (mkF m 20 #[.val (.int p0), .val (.int (24 : Int32)), .val (.ref w_ATTEMPTS_51), .unset] [(.int (24 : Int32))])) _
        refine XS.bipush X1.here hx rfl (hb hby at_20) ?_
        show Steps p.tables e below (T1.setTop (mkF m 22 #[.val (.int p0), .val (.int (24 : Int32)), .val (.ref w_ATTEMPTS_51), .unset] [(.int (16 : Int32)), (.int (24 : Int32))])) _
        refine XS.icmpNo X1.here hx rfl (hb hby at_22) rfl (feq (by decide : ¬ ((24 : Int32) = (16 : Int32)))).1 ?_
        show Steps p.tables e below (T1.setTop (mkF m 25 #[.val (.int p0), .val (.int (24 : Int32)), .val (.ref w_ATTEMPTS_51), .unset] [])) _
        refine XS.iloadN X1.here hx rfl (hb hby at_25) rfl ?_
        show Steps p.tables e below (T1.setTop (mkF m 26 #[.val (.int p0), .val (.int (24 : Int32)), .val (.ref w_ATTEMPTS_51), .unset] [(.int (24 : Int32))])) _
        refine XS.bipush X1.here hx rfl (hb hby at_26) ?_
        show Steps p.tables e below (T1.setTop (mkF m 28 #[.val (.int p0), .val (.int (24 : Int32)), .val (.ref w_ATTEMPTS_51), .unset] [(.int (30 : Int32)), (.int (24 : Int32))])) _
        refine XS.icmpYes X1.here hx rfl (pc0 := 28) (pc' := 35) rfl (hb hby at_28) rfl (feq (by decide : ¬ ((24 : Int32) = (30 : Int32)))).2 (by decide) (by decide) ?_
        show Steps p.tables e below (T1.setTop (mkF m 35 #[.val (.int p0), .val (.int (24 : Int32)), .val (.ref w_ATTEMPTS_51), .unset] [])) _
        refine XS.iconst X1.here hx rfl (hb hby at_35) ?_
        show Steps p.tables e below (T1.setTop (mkF m 36 #[.val (.int p0), .val (.int (24 : Int32)), .val (.ref w_ATTEMPTS_51), .unset] [(.int (0 : Int32))])) _
        refine XS.istoreN X1.here hx rfl (hb hby at_36) rfl (l' := #[.val (.int p0), .val (.int (24 : Int32)), .val (.ref w_ATTEMPTS_51), .val (.int (0 : Int32))]) rfl ?_
        show Steps p.tables e below (T1.setTop (mkF m 37 #[.val (.int p0), .val (.int (24 : Int32)), .val (.ref w_ATTEMPTS_51), .val (.int (0 : Int32))] [])) _
        refine XS.aloadN X1.here hx rfl (hb hby at_37) rfl rfl ?_
        show Steps p.tables e below (T1.setTop (mkF m 38 #[.val (.int p0), .val (.int (24 : Int32)), .val (.ref w_ATTEMPTS_51), .val (.int (0 : Int32))] [(.ref w_ATTEMPTS_51)])) _
        refine st100.trans ?_
        exact kt)
    obtain rfl : (1 : Int32) = r101 := Pr101.2 nofun
    have pre103 : ∀ t, Steps p.tables e below (T100.setTop (mkF m 58 #[.val (.int p0), .val (.int (24 : Int32)), .val (.ref w_ATTEMPTS_51), .val (.int (0 : Int32))] [(.int (1 : Int32))])) t → Steps p.tables e below (s₁.setTop (entryFrame m #[(.int p0)] maxLocals)) t := fun t kt => pre102 t (by
        show Steps p.tables e below (T100.setTop (mkF m 41 #[.val (.int p0), .val (.int (24 : Int32)), .val (.ref w_ATTEMPTS_51), .val (.int (0 : Int32))] [(.int (1 : Int32))])) _
        refine XS.iloadN X100.here hx rfl (hb hby at_41) rfl ?_
        show Steps p.tables e below (T100.setTop (mkF m 42 #[.val (.int p0), .val (.int (24 : Int32)), .val (.ref w_ATTEMPTS_51), .val (.int (0 : Int32))] [(.int (0 : Int32)), (.int (1 : Int32))])) _
        refine XS.ifNo X100.here hx rfl (hb hby at_42) rfl ((if0 _ _).trans (teq (rfl : (0 : Int32) = (0 : Int32))).2) ?_
        show Steps p.tables e below (T100.setTop (mkF m 45 #[.val (.int p0), .val (.int (24 : Int32)), .val (.ref w_ATTEMPTS_51), .val (.int (0 : Int32))] [(.int (1 : Int32))])) _
        refine XS.iconst X100.here hx rfl (hb hby at_45) ?_
        show Steps p.tables e below (T100.setTop (mkF m 46 #[.val (.int p0), .val (.int (24 : Int32)), .val (.ref w_ATTEMPTS_51), .val (.int (0 : Int32))] [(.int (1 : Int32)), (.int (1 : Int32))])) _
        refine XS.goto X100.here hx rfl (pc0 := 46) (pc' := 50) rfl (hb hby at_46) (by decide) (by decide) ?_
        show Steps p.tables e below (T100.setTop (mkF m 50 #[.val (.int p0), .val (.int (24 : Int32)), .val (.ref w_ATTEMPTS_51), .val (.int (0 : Int32))] [(.int (1 : Int32)), (.int (1 : Int32))])) _
        refine XS.icmpNo X100.here hx rfl (hb hby at_50) rfl (teq (rfl : (1 : Int32) = (1 : Int32))).2 ?_
        show Steps p.tables e below (T100.setTop (mkF m 53 #[.val (.int p0), .val (.int (24 : Int32)), .val (.ref w_ATTEMPTS_51), .val (.int (0 : Int32))] [])) _
        refine XS.iconst X100.here hx rfl (hb hby at_53) ?_
        show Steps p.tables e below (T100.setTop (mkF m 54 #[.val (.int p0), .val (.int (24 : Int32)), .val (.ref w_ATTEMPTS_51), .val (.int (0 : Int32))] [(.int (1 : Int32))])) _
        refine XS.goto X100.here hx rfl (pc0 := 54) (pc' := 58) rfl (hb hby at_54) (by decide) (by decide) ?_
        exact kt)
    obtain ⟨fs, hr, hrun, hended, hW, hsame⟩ := X100.leave (v := some (.int (1 : Int32))) (fun h => by rw [Bd.returns] at h; cases h)
    refine ⟨_, _, pre103 _ ?_, hrun, hended, _, _, rfl, ?_, ⟨_, rfl⟩, hW, hsame.mono (by decide) (by decide)⟩
    · show Steps p.tables e below (T100.setTop (mkF m 58 #[.val (.int p0), .val (.int (24 : Int32)), .val (.ref w_ATTEMPTS_51), .val (.int (0 : Int32))] [(.int (1 : Int32))])) _
      exact retN X100 hx (t := .boolean) Bd.returns (by simp) (hb hby at_58) hr
    · show Q0 Z _ _ _ _ _ _ _ _ _ _ _ _ _ _ _ _ _ _ _ _ _ _ _ _ _ _ _ _ _ _ _ _ _ _ _ _ _ _ _ _ _ _ _ _ _ h0 n0 _ T100.heap _
      rw [e100]
      exact ⟨rfl, N100, rfl⟩
  · skip
    obtain ⟨cq104, kq104, q104a, q104b, q104c⟩ := isOf hZ e1 E_90
    obtain ⟨_, _, ⟨T104, L104, k104, n104⟩, -, X104, ⟨Lc104, hQ104, l104, y104, z104⟩, st104⟩ := X1.virtualBack hx (y := (⟨"com/example/token_handoff/tokenhandoff/cli/Option", "takesValue", "()Z"⟩ : MethodName)) (z := (⟨"com/example/token_handoff/tokenhandoff/cli/Option", "takesValue", "()Z"⟩ : MethodName)) hown (mvT hZ (hw _ (List.mem_of_getElem? (i := 8) rfl))) (mvT hZ (hw _ (List.mem_of_getElem? (i := 9) rfl))) (notFace_of_selects (args := #[]) (mvT hZ (hw _ (List.mem_of_getElem? (i := 11) rfl)))) (mvT hZ (hw _ (List.mem_of_getElem? (i := 11) rfl))) (mvT hZ (hw _ (List.mem_of_getElem? (i := 10) rfl))) (by decide) (backOf (W := 0) (rm2 l Z aw hw [] w_MEMBERS_71 (.ref w_value_73) h0 n0 Z0 rfl F_value_91) hZ (hw _ (List.mem_of_getElem? (i := 12) rfl)) (hw _ (List.mem_of_getElem? (i := 6) rfl)) (by decide) (by decide)) q104a q104c (g := (mkF m 38 #[.val (.int p0), .val (.int (25 : Int32)), .val (.ref w_MEMBERS_71), .val (.int (0 : Int32))] [(.ref w_MEMBERS_71)])) rfl (by rw [hml]; rfl) (Steps.refl _) (argsL := []) (rest := []) (lenOf pd_1 rfl) rfl (by show 2 * 0 + _ ≤ _; exact Nat.le_of_eq rfl) (hb hby at_38) (fun _ _ => ⟨rfl, e1, (by decide : 0 + 0 ≤ _), (by decide : 0 + 0 ≤ _)⟩)
    dsimp only [Pt.U, Pt.locs, Pt.cells, Pt.slots] at X104 l104 y104 z104 st104 hQ104
    subst l104 y104 z104
    obtain ⟨⟨r105, rfl, Pr105⟩, Nq104, e104⟩ := hQ104
    have N104 := Fr.app N1 Nq104
    have pre106 : ∀ t, Steps p.tables e below (T104.setTop (mkF m 41 #[.val (.int p0), .val (.int (25 : Int32)), .val (.ref w_MEMBERS_71), .val (.int (0 : Int32))] [(.int r105)])) t → Steps p.tables e below (s₁.setTop (entryFrame m #[(.int p0)] maxLocals)) t := fun t kt => pre3 t (by
        show Steps p.tables e below (T1.setTop (mkF m 12 #[.val (.int p0), .val (.int (25 : Int32)), .unset, .unset] [(.ref w_MEMBERS_71)])) _
        refine XS.astoreN X1.here hx rfl (hb hby at_12) rfl rfl (l' := #[.val (.int p0), .val (.int (25 : Int32)), .val (.ref w_MEMBERS_71), .unset]) rfl ?_
        show Steps p.tables e below (T1.setTop (mkF m 13 #[.val (.int p0), .val (.int (25 : Int32)), .val (.ref w_MEMBERS_71), .unset] [])) _
        refine XS.iloadN X1.here hx rfl (hb hby at_13) rfl ?_
        show Steps p.tables e below (T1.setTop (mkF m 14 #[.val (.int p0), .val (.int (25 : Int32)), .val (.ref w_MEMBERS_71), .unset] [(.int (25 : Int32))])) _
        refine XS.bipush X1.here hx rfl (hb hby at_14) ?_
        show Steps p.tables e below (T1.setTop (mkF m 16 #[.val (.int p0), .val (.int (25 : Int32)), .val (.ref w_MEMBERS_71), .unset] [(.int (15 : Int32)), (.int (25 : Int32))])) _
        refine XS.icmpNo X1.here hx rfl (hb hby at_16) rfl (feq (by decide : ¬ ((25 : Int32) = (15 : Int32)))).1 ?_
        show Steps p.tables e below (T1.setTop (mkF m 19 #[.val (.int p0), .val (.int (25 : Int32)), .val (.ref w_MEMBERS_71), .unset] [])) _
        refine XS.iloadN X1.here hx rfl (hb hby at_19) rfl ?_
        show Steps p.tables e below (T1.setTop (mkF m 20 #[.val (.int p0), .val (.int (25 : Int32)), .val (.ref w_MEMBERS_71), .unset] [(.int (25 : Int32))])) _
        refine XS.bipush X1.here hx rfl (hb hby at_20) ?_
        show Steps p.tables e below (T1.setTop (mkF m 22 #[.val (.int p0), .val (.int (25 : Int32)), .val (.ref w_MEMBERS_71), .unset] [(.int (16 : Int32)), (.int (25 : Int32))])) _
        refine XS.icmpNo X1.here hx rfl (hb hby at_22) rfl (feq (by decide : ¬ ((25 : Int32) = (16 : Int32)))).1 ?_
        show Steps p.tables e below (T1.setTop (mkF m 25 #[.val (.int p0), .val (.int (25 : Int32)), .val (.ref w_MEMBERS_71), .unset] [])) _
        refine XS.iloadN X1.here hx rfl (hb hby at_25) rfl ?_
        show Steps p.tables e below (T1.setTop (mkF m 26 #[.val (.int p0), .val (.int (25 : Int32)), .val (.ref w_MEMBERS_71), .unset] [(.int (25 : Int32))])) _
        refine XS.bipush X1.here hx rfl (hb hby at_26) ?_
        show Steps p.tables e below (T1.setTop (mkF m 28 #[.val (.int p0), .val (.int (25 : Int32)), .val (.ref w_MEMBERS_71), .unset] [(.int (30 : Int32)), (.int (25 : Int32))])) _
        refine XS.icmpYes X1.here hx rfl (pc0 := 28) (pc' := 35) rfl (hb hby at_28) rfl (feq (by decide : ¬ ((25 : Int32) = (30 : Int32)))).2 (by decide) (by decide) ?_
        show Steps p.tables e below (T1.setTop (mkF m 35 #[.val (.int p0), .val (.int (25 : Int32)), .val (.ref w_MEMBERS_71), .unset] [])) _
        refine XS.iconst X1.here hx rfl (hb hby at_35) ?_
        show Steps p.tables e below (T1.setTop (mkF m 36 #[.val (.int p0), .val (.int (25 : Int32)), .val (.ref w_MEMBERS_71), .unset] [(.int (0 : Int32))])) _
        refine XS.istoreN X1.here hx rfl (hb hby at_36) rfl (l' := #[.val (.int p0), .val (.int (25 : Int32)), .val (.ref w_MEMBERS_71), .val (.int (0 : Int32))]) rfl ?_
        show Steps p.tables e below (T1.setTop (mkF m 37 #[.val (.int p0), .val (.int (25 : Int32)), .val (.ref w_MEMBERS_71), .val (.int (0 : Int32))] [])) _
        refine XS.aloadN X1.here hx rfl (hb hby at_37) rfl rfl ?_
        show Steps p.tables e below (T1.setTop (mkF m 38 #[.val (.int p0), .val (.int (25 : Int32)), .val (.ref w_MEMBERS_71), .val (.int (0 : Int32))] [(.ref w_MEMBERS_71)])) _
        refine st104.trans ?_
        exact kt)
    obtain rfl : (1 : Int32) = r105 := Pr105.2 nofun
    have pre107 : ∀ t, Steps p.tables e below (T104.setTop (mkF m 58 #[.val (.int p0), .val (.int (25 : Int32)), .val (.ref w_MEMBERS_71), .val (.int (0 : Int32))] [(.int (1 : Int32))])) t → Steps p.tables e below (s₁.setTop (entryFrame m #[(.int p0)] maxLocals)) t := fun t kt => pre106 t (by
        show Steps p.tables e below (T104.setTop (mkF m 41 #[.val (.int p0), .val (.int (25 : Int32)), .val (.ref w_MEMBERS_71), .val (.int (0 : Int32))] [(.int (1 : Int32))])) _
        refine XS.iloadN X104.here hx rfl (hb hby at_41) rfl ?_
        show Steps p.tables e below (T104.setTop (mkF m 42 #[.val (.int p0), .val (.int (25 : Int32)), .val (.ref w_MEMBERS_71), .val (.int (0 : Int32))] [(.int (0 : Int32)), (.int (1 : Int32))])) _
        refine XS.ifNo X104.here hx rfl (hb hby at_42) rfl ((if0 _ _).trans (teq (rfl : (0 : Int32) = (0 : Int32))).2) ?_
        show Steps p.tables e below (T104.setTop (mkF m 45 #[.val (.int p0), .val (.int (25 : Int32)), .val (.ref w_MEMBERS_71), .val (.int (0 : Int32))] [(.int (1 : Int32))])) _
        refine XS.iconst X104.here hx rfl (hb hby at_45) ?_
        show Steps p.tables e below (T104.setTop (mkF m 46 #[.val (.int p0), .val (.int (25 : Int32)), .val (.ref w_MEMBERS_71), .val (.int (0 : Int32))] [(.int (1 : Int32)), (.int (1 : Int32))])) _
        refine XS.goto X104.here hx rfl (pc0 := 46) (pc' := 50) rfl (hb hby at_46) (by decide) (by decide) ?_
        show Steps p.tables e below (T104.setTop (mkF m 50 #[.val (.int p0), .val (.int (25 : Int32)), .val (.ref w_MEMBERS_71), .val (.int (0 : Int32))] [(.int (1 : Int32)), (.int (1 : Int32))])) _
        refine XS.icmpNo X104.here hx rfl (hb hby at_50) rfl (teq (rfl : (1 : Int32) = (1 : Int32))).2 ?_
        show Steps p.tables e below (T104.setTop (mkF m 53 #[.val (.int p0), .val (.int (25 : Int32)), .val (.ref w_MEMBERS_71), .val (.int (0 : Int32))] [])) _
        refine XS.iconst X104.here hx rfl (hb hby at_53) ?_
        show Steps p.tables e below (T104.setTop (mkF m 54 #[.val (.int p0), .val (.int (25 : Int32)), .val (.ref w_MEMBERS_71), .val (.int (0 : Int32))] [(.int (1 : Int32))])) _
        refine XS.goto X104.here hx rfl (pc0 := 54) (pc' := 58) rfl (hb hby at_54) (by decide) (by decide) ?_
        exact kt)
    obtain ⟨fs, hr, hrun, hended, hW, hsame⟩ := X104.leave (v := some (.int (1 : Int32))) (fun h => by rw [Bd.returns] at h; cases h)
    refine ⟨_, _, pre107 _ ?_, hrun, hended, _, _, rfl, ?_, ⟨_, rfl⟩, hW, hsame.mono (by decide) (by decide)⟩
    · show Steps p.tables e below (T104.setTop (mkF m 58 #[.val (.int p0), .val (.int (25 : Int32)), .val (.ref w_MEMBERS_71), .val (.int (0 : Int32))] [(.int (1 : Int32))])) _
      exact retN X104 hx (t := .boolean) Bd.returns (by simp) (hb hby at_58) hr
    · show Q0 Z _ _ _ _ _ _ _ _ _ _ _ _ _ _ _ _ _ _ _ _ _ _ _ _ _ _ _ _ _ _ _ _ _ _ _ _ _ _ _ _ _ _ _ _ _ h0 n0 _ T104.heap _
      rw [e104]
      exact ⟨rfl, N104, rfl⟩
  · skip
    obtain ⟨cq108, kq108, q108a, q108b, q108c⟩ := isOf hZ e1 E_110
    obtain ⟨_, _, ⟨T108, L108, k108, n108⟩, -, X108, ⟨Lc108, hQ108, l108, y108, z108⟩, st108⟩ := X1.virtualBack hx (y := (⟨"com/example/token_handoff/tokenhandoff/cli/Option", "takesValue", "()Z"⟩ : MethodName)) (z := (⟨"com/example/token_handoff/tokenhandoff/cli/Option", "takesValue", "()Z"⟩ : MethodName)) hown (mvT hZ (hw _ (List.mem_of_getElem? (i := 8) rfl))) (mvT hZ (hw _ (List.mem_of_getElem? (i := 9) rfl))) (notFace_of_selects (args := #[]) (mvT hZ (hw _ (List.mem_of_getElem? (i := 11) rfl)))) (mvT hZ (hw _ (List.mem_of_getElem? (i := 11) rfl))) (mvT hZ (hw _ (List.mem_of_getElem? (i := 10) rfl))) (by decide) (backOf (W := 0) (rm2 l Z aw hw [] w_OP_87 (.ref w_value_43) h0 n0 Z0 rfl F_value_111) hZ (hw _ (List.mem_of_getElem? (i := 12) rfl)) (hw _ (List.mem_of_getElem? (i := 6) rfl)) (by decide) (by decide)) q108a q108c (g := (mkF m 38 #[.val (.int p0), .val (.int (26 : Int32)), .val (.ref w_OP_87), .val (.int (0 : Int32))] [(.ref w_OP_87)])) rfl (by rw [hml]; rfl) (Steps.refl _) (argsL := []) (rest := []) (lenOf pd_1 rfl) rfl (by show 2 * 0 + _ ≤ _; exact Nat.le_of_eq rfl) (hb hby at_38) (fun _ _ => ⟨rfl, e1, (by decide : 0 + 0 ≤ _), (by decide : 0 + 0 ≤ _)⟩)
    dsimp only [Pt.U, Pt.locs, Pt.cells, Pt.slots] at X108 l108 y108 z108 st108 hQ108
    subst l108 y108 z108
    obtain ⟨⟨r109, rfl, Pr109⟩, Nq108, e108⟩ := hQ108
    have N108 := Fr.app N1 Nq108
    have pre110 : ∀ t, Steps p.tables e below (T108.setTop (mkF m 41 #[.val (.int p0), .val (.int (26 : Int32)), .val (.ref w_OP_87), .val (.int (0 : Int32))] [(.int r109)])) t → Steps p.tables e below (s₁.setTop (entryFrame m #[(.int p0)] maxLocals)) t := fun t kt => pre3 t (by
        show Steps p.tables e below (T1.setTop (mkF m 12 #[.val (.int p0), .val (.int (26 : Int32)), .unset, .unset] [(.ref w_OP_87)])) _
        refine XS.astoreN X1.here hx rfl (hb hby at_12) rfl rfl (l' := #[.val (.int p0), .val (.int (26 : Int32)), .val (.ref w_OP_87), .unset]) rfl ?_
        show Steps p.tables e below (T1.setTop (mkF m 13 #[.val (.int p0), .val (.int (26 : Int32)), .val (.ref w_OP_87), .unset] [])) _
        refine XS.iloadN X1.here hx rfl (hb hby at_13) rfl ?_
        show Steps p.tables e below (T1.setTop (mkF m 14 #[.val (.int p0), .val (.int (26 : Int32)), .val (.ref w_OP_87), .unset] [(.int (26 : Int32))])) _
        refine XS.bipush X1.here hx rfl (hb hby at_14) ?_
        show Steps p.tables e below (T1.setTop (mkF m 16 #[.val (.int p0), .val (.int (26 : Int32)), .val (.ref w_OP_87), .unset] [(.int (15 : Int32)), (.int (26 : Int32))])) _
        refine XS.icmpNo X1.here hx rfl (hb hby at_16) rfl (feq (by decide : ¬ ((26 : Int32) = (15 : Int32)))).1 ?_
        show Steps p.tables e below (T1.setTop (mkF m 19 #[.val (.int p0), .val (.int (26 : Int32)), .val (.ref w_OP_87), .unset] [])) _
        refine XS.iloadN X1.here hx rfl (hb hby at_19) rfl ?_
        show Steps p.tables e below (T1.setTop (mkF m 20 #[.val (.int p0), .val (.int (26 : Int32)), .val (.ref w_OP_87), .unset] [(.int (26 : Int32))])) _
        refine XS.bipush X1.here hx rfl (hb hby at_20) ?_
        show Steps p.tables e below (T1.setTop (mkF m 22 #[.val (.int p0), .val (.int (26 : Int32)), .val (.ref w_OP_87), .unset] [(.int (16 : Int32)), (.int (26 : Int32))])) _
        refine XS.icmpNo X1.here hx rfl (hb hby at_22) rfl (feq (by decide : ¬ ((26 : Int32) = (16 : Int32)))).1 ?_
        show Steps p.tables e below (T1.setTop (mkF m 25 #[.val (.int p0), .val (.int (26 : Int32)), .val (.ref w_OP_87), .unset] [])) _
        refine XS.iloadN X1.here hx rfl (hb hby at_25) rfl ?_
        show Steps p.tables e below (T1.setTop (mkF m 26 #[.val (.int p0), .val (.int (26 : Int32)), .val (.ref w_OP_87), .unset] [(.int (26 : Int32))])) _
        refine XS.bipush X1.here hx rfl (hb hby at_26) ?_
        show Steps p.tables e below (T1.setTop (mkF m 28 #[.val (.int p0), .val (.int (26 : Int32)), .val (.ref w_OP_87), .unset] [(.int (30 : Int32)), (.int (26 : Int32))])) _
        refine XS.icmpYes X1.here hx rfl (pc0 := 28) (pc' := 35) rfl (hb hby at_28) rfl (feq (by decide : ¬ ((26 : Int32) = (30 : Int32)))).2 (by decide) (by decide) ?_
        show Steps p.tables e below (T1.setTop (mkF m 35 #[.val (.int p0), .val (.int (26 : Int32)), .val (.ref w_OP_87), .unset] [])) _
        refine XS.iconst X1.here hx rfl (hb hby at_35) ?_
        show Steps p.tables e below (T1.setTop (mkF m 36 #[.val (.int p0), .val (.int (26 : Int32)), .val (.ref w_OP_87), .unset] [(.int (0 : Int32))])) _
        refine XS.istoreN X1.here hx rfl (hb hby at_36) rfl (l' := #[.val (.int p0), .val (.int (26 : Int32)), .val (.ref w_OP_87), .val (.int (0 : Int32))]) rfl ?_
        show Steps p.tables e below (T1.setTop (mkF m 37 #[.val (.int p0), .val (.int (26 : Int32)), .val (.ref w_OP_87), .val (.int (0 : Int32))] [])) _
        refine XS.aloadN X1.here hx rfl (hb hby at_37) rfl rfl ?_
        show Steps p.tables e below (T1.setTop (mkF m 38 #[.val (.int p0), .val (.int (26 : Int32)), .val (.ref w_OP_87), .val (.int (0 : Int32))] [(.ref w_OP_87)])) _
        refine st108.trans ?_
        exact kt)
    obtain rfl : (1 : Int32) = r109 := Pr109.2 nofun
    have pre111 : ∀ t, Steps p.tables e below (T108.setTop (mkF m 58 #[.val (.int p0), .val (.int (26 : Int32)), .val (.ref w_OP_87), .val (.int (0 : Int32))] [(.int (1 : Int32))])) t → Steps p.tables e below (s₁.setTop (entryFrame m #[(.int p0)] maxLocals)) t := fun t kt => pre110 t (by
        show Steps p.tables e below (T108.setTop (mkF m 41 #[.val (.int p0), .val (.int (26 : Int32)), .val (.ref w_OP_87), .val (.int (0 : Int32))] [(.int (1 : Int32))])) _
        refine XS.iloadN X108.here hx rfl (hb hby at_41) rfl ?_
        show Steps p.tables e below (T108.setTop (mkF m 42 #[.val (.int p0), .val (.int (26 : Int32)), .val (.ref w_OP_87), .val (.int (0 : Int32))] [(.int (0 : Int32)), (.int (1 : Int32))])) _
        refine XS.ifNo X108.here hx rfl (hb hby at_42) rfl ((if0 _ _).trans (teq (rfl : (0 : Int32) = (0 : Int32))).2) ?_
        show Steps p.tables e below (T108.setTop (mkF m 45 #[.val (.int p0), .val (.int (26 : Int32)), .val (.ref w_OP_87), .val (.int (0 : Int32))] [(.int (1 : Int32))])) _
        refine XS.iconst X108.here hx rfl (hb hby at_45) ?_
        show Steps p.tables e below (T108.setTop (mkF m 46 #[.val (.int p0), .val (.int (26 : Int32)), .val (.ref w_OP_87), .val (.int (0 : Int32))] [(.int (1 : Int32)), (.int (1 : Int32))])) _
        refine XS.goto X108.here hx rfl (pc0 := 46) (pc' := 50) rfl (hb hby at_46) (by decide) (by decide) ?_
        show Steps p.tables e below (T108.setTop (mkF m 50 #[.val (.int p0), .val (.int (26 : Int32)), .val (.ref w_OP_87), .val (.int (0 : Int32))] [(.int (1 : Int32)), (.int (1 : Int32))])) _
        refine XS.icmpNo X108.here hx rfl (hb hby at_50) rfl (teq (rfl : (1 : Int32) = (1 : Int32))).2 ?_
        show Steps p.tables e below (T108.setTop (mkF m 53 #[.val (.int p0), .val (.int (26 : Int32)), .val (.ref w_OP_87), .val (.int (0 : Int32))] [])) _
        refine XS.iconst X108.here hx rfl (hb hby at_53) ?_
        show Steps p.tables e below (T108.setTop (mkF m 54 #[.val (.int p0), .val (.int (26 : Int32)), .val (.ref w_OP_87), .val (.int (0 : Int32))] [(.int (1 : Int32))])) _
        refine XS.goto X108.here hx rfl (pc0 := 54) (pc' := 58) rfl (hb hby at_54) (by decide) (by decide) ?_
        exact kt)
    obtain ⟨fs, hr, hrun, hended, hW, hsame⟩ := X108.leave (v := some (.int (1 : Int32))) (fun h => by rw [Bd.returns] at h; cases h)
    refine ⟨_, _, pre111 _ ?_, hrun, hended, _, _, rfl, ?_, ⟨_, rfl⟩, hW, hsame.mono (by decide) (by decide)⟩
    · show Steps p.tables e below (T108.setTop (mkF m 58 #[.val (.int p0), .val (.int (26 : Int32)), .val (.ref w_OP_87), .val (.int (0 : Int32))] [(.int (1 : Int32))])) _
      exact retN X108 hx (t := .boolean) Bd.returns (by simp) (hb hby at_58) hr
    · show Q0 Z _ _ _ _ _ _ _ _ _ _ _ _ _ _ _ _ _ _ _ _ _ _ _ _ _ _ _ _ _ _ _ _ _ _ _ _ _ _ _ _ _ _ _ _ _ h0 n0 _ T108.heap _
      rw [e108]
      exact ⟨rfl, N108, rfl⟩
  · skip
    obtain ⟨cq112, kq112, q112a, q112b, q112c⟩ := isOf hZ e1 E_97
    obtain ⟨_, _, ⟨T112, L112, k112, n112⟩, -, X112, ⟨Lc112, hQ112, l112, y112, z112⟩, st112⟩ := X1.virtualBack hx (y := (⟨"com/example/token_handoff/tokenhandoff/cli/Option", "takesValue", "()Z"⟩ : MethodName)) (z := (⟨"com/example/token_handoff/tokenhandoff/cli/Option", "takesValue", "()Z"⟩ : MethodName)) hown (mvT hZ (hw _ (List.mem_of_getElem? (i := 8) rfl))) (mvT hZ (hw _ (List.mem_of_getElem? (i := 9) rfl))) (notFace_of_selects (args := #[]) (mvT hZ (hw _ (List.mem_of_getElem? (i := 11) rfl)))) (mvT hZ (hw _ (List.mem_of_getElem? (i := 11) rfl))) (mvT hZ (hw _ (List.mem_of_getElem? (i := 10) rfl))) (by decide) (backOf (W := 0) (rm2 l Z aw hw [] w_SKIP_77 (.ref w_value_43) h0 n0 Z0 rfl F_value_98) hZ (hw _ (List.mem_of_getElem? (i := 12) rfl)) (hw _ (List.mem_of_getElem? (i := 6) rfl)) (by decide) (by decide)) q112a q112c (g := (mkF m 38 #[.val (.int p0), .val (.int (27 : Int32)), .val (.ref w_SKIP_77), .val (.int (0 : Int32))] [(.ref w_SKIP_77)])) rfl (by rw [hml]; rfl) (Steps.refl _) (argsL := []) (rest := []) (lenOf pd_1 rfl) rfl (by show 2 * 0 + _ ≤ _; exact Nat.le_of_eq rfl) (hb hby at_38) (fun _ _ => ⟨rfl, e1, (by decide : 0 + 0 ≤ _), (by decide : 0 + 0 ≤ _)⟩)
    dsimp only [Pt.U, Pt.locs, Pt.cells, Pt.slots] at X112 l112 y112 z112 st112 hQ112
    subst l112 y112 z112
    obtain ⟨⟨r113, rfl, Pr113⟩, Nq112, e112⟩ := hQ112
    have N112 := Fr.app N1 Nq112
    have pre114 : ∀ t, Steps p.tables e below (T112.setTop (mkF m 41 #[.val (.int p0), .val (.int (27 : Int32)), .val (.ref w_SKIP_77), .val (.int (0 : Int32))] [(.int r113)])) t → Steps p.tables e below (s₁.setTop (entryFrame m #[(.int p0)] maxLocals)) t := fun t kt => pre3 t (by
        show Steps p.tables e below (T1.setTop (mkF m 12 #[.val (.int p0), .val (.int (27 : Int32)), .unset, .unset] [(.ref w_SKIP_77)])) _
        refine XS.astoreN X1.here hx rfl (hb hby at_12) rfl rfl (l' := #[.val (.int p0), .val (.int (27 : Int32)), .val (.ref w_SKIP_77), .unset]) rfl ?_
        show Steps p.tables e below (T1.setTop (mkF m 13 #[.val (.int p0), .val (.int (27 : Int32)), .val (.ref w_SKIP_77), .unset] [])) _
        refine XS.iloadN X1.here hx rfl (hb hby at_13) rfl ?_
        show Steps p.tables e below (T1.setTop (mkF m 14 #[.val (.int p0), .val (.int (27 : Int32)), .val (.ref w_SKIP_77), .unset] [(.int (27 : Int32))])) _
        refine XS.bipush X1.here hx rfl (hb hby at_14) ?_
        show Steps p.tables e below (T1.setTop (mkF m 16 #[.val (.int p0), .val (.int (27 : Int32)), .val (.ref w_SKIP_77), .unset] [(.int (15 : Int32)), (.int (27 : Int32))])) _
        refine XS.icmpNo X1.here hx rfl (hb hby at_16) rfl (feq (by decide : ¬ ((27 : Int32) = (15 : Int32)))).1 ?_
        show Steps p.tables e below (T1.setTop (mkF m 19 #[.val (.int p0), .val (.int (27 : Int32)), .val (.ref w_SKIP_77), .unset] [])) _
        refine XS.iloadN X1.here hx rfl (hb hby at_19) rfl ?_
        show Steps p.tables e below (T1.setTop (mkF m 20 #[.val (.int p0), .val (.int (27 : Int32)), .val (.ref w_SKIP_77), .unset] [(.int (27 : Int32))])) _
        refine XS.bipush X1.here hx rfl (hb hby at_20) ?_
        show Steps p.tables e below (T1.setTop (mkF m 22 #[.val (.int p0), .val (.int (27 : Int32)), .val (.ref w_SKIP_77), .unset] [(.int (16 : Int32)), (.int (27 : Int32))])) _
        refine XS.icmpNo X1.here hx rfl (hb hby at_22) rfl (feq (by decide : ¬ ((27 : Int32) = (16 : Int32)))).1 ?_
        show Steps p.tables e below (T1.setTop (mkF m 25 #[.val (.int p0), .val (.int (27 : Int32)), .val (.ref w_SKIP_77), .unset] [])) _
        refine XS.iloadN X1.here hx rfl (hb hby at_25) rfl ?_
        show Steps p.tables e below (T1.setTop (mkF m 26 #[.val (.int p0), .val (.int (27 : Int32)), .val (.ref w_SKIP_77), .unset] [(.int (27 : Int32))])) _
        refine XS.bipush X1.here hx rfl (hb hby at_26) ?_
        show Steps p.tables e below (T1.setTop (mkF m 28 #[.val (.int p0), .val (.int (27 : Int32)), .val (.ref w_SKIP_77), .unset] [(.int (30 : Int32)), (.int (27 : Int32))])) _
        refine XS.icmpYes X1.here hx rfl (pc0 := 28) (pc' := 35) rfl (hb hby at_28) rfl (feq (by decide : ¬ ((27 : Int32) = (30 : Int32)))).2 (by decide) (by decide) ?_
        show Steps p.tables e below (T1.setTop (mkF m 35 #[.val (.int p0), .val (.int (27 : Int32)), .val (.ref w_SKIP_77), .unset] [])) _
        refine XS.iconst X1.here hx rfl (hb hby at_35) ?_
        show Steps p.tables e below (T1.setTop (mkF m 36 #[.val (.int p0), .val (.int (27 : Int32)), .val (.ref w_SKIP_77), .unset] [(.int (0 : Int32))])) _
        refine XS.istoreN X1.here hx rfl (hb hby at_36) rfl (l' := #[.val (.int p0), .val (.int (27 : Int32)), .val (.ref w_SKIP_77), .val (.int (0 : Int32))]) rfl ?_
        show Steps p.tables e below (T1.setTop (mkF m 37 #[.val (.int p0), .val (.int (27 : Int32)), .val (.ref w_SKIP_77), .val (.int (0 : Int32))] [])) _
        refine XS.aloadN X1.here hx rfl (hb hby at_37) rfl rfl ?_
        show Steps p.tables e below (T1.setTop (mkF m 38 #[.val (.int p0), .val (.int (27 : Int32)), .val (.ref w_SKIP_77), .val (.int (0 : Int32))] [(.ref w_SKIP_77)])) _
        refine st112.trans ?_
        exact kt)
    obtain rfl : (1 : Int32) = r113 := Pr113.2 nofun
    have pre115 : ∀ t, Steps p.tables e below (T112.setTop (mkF m 58 #[.val (.int p0), .val (.int (27 : Int32)), .val (.ref w_SKIP_77), .val (.int (0 : Int32))] [(.int (1 : Int32))])) t → Steps p.tables e below (s₁.setTop (entryFrame m #[(.int p0)] maxLocals)) t := fun t kt => pre114 t (by
        show Steps p.tables e below (T112.setTop (mkF m 41 #[.val (.int p0), .val (.int (27 : Int32)), .val (.ref w_SKIP_77), .val (.int (0 : Int32))] [(.int (1 : Int32))])) _
        refine XS.iloadN X112.here hx rfl (hb hby at_41) rfl ?_
        show Steps p.tables e below (T112.setTop (mkF m 42 #[.val (.int p0), .val (.int (27 : Int32)), .val (.ref w_SKIP_77), .val (.int (0 : Int32))] [(.int (0 : Int32)), (.int (1 : Int32))])) _
        refine XS.ifNo X112.here hx rfl (hb hby at_42) rfl ((if0 _ _).trans (teq (rfl : (0 : Int32) = (0 : Int32))).2) ?_
        show Steps p.tables e below (T112.setTop (mkF m 45 #[.val (.int p0), .val (.int (27 : Int32)), .val (.ref w_SKIP_77), .val (.int (0 : Int32))] [(.int (1 : Int32))])) _
        refine XS.iconst X112.here hx rfl (hb hby at_45) ?_
        show Steps p.tables e below (T112.setTop (mkF m 46 #[.val (.int p0), .val (.int (27 : Int32)), .val (.ref w_SKIP_77), .val (.int (0 : Int32))] [(.int (1 : Int32)), (.int (1 : Int32))])) _
        refine XS.goto X112.here hx rfl (pc0 := 46) (pc' := 50) rfl (hb hby at_46) (by decide) (by decide) ?_
        show Steps p.tables e below (T112.setTop (mkF m 50 #[.val (.int p0), .val (.int (27 : Int32)), .val (.ref w_SKIP_77), .val (.int (0 : Int32))] [(.int (1 : Int32)), (.int (1 : Int32))])) _
        refine XS.icmpNo X112.here hx rfl (hb hby at_50) rfl (teq (rfl : (1 : Int32) = (1 : Int32))).2 ?_
        show Steps p.tables e below (T112.setTop (mkF m 53 #[.val (.int p0), .val (.int (27 : Int32)), .val (.ref w_SKIP_77), .val (.int (0 : Int32))] [])) _
        refine XS.iconst X112.here hx rfl (hb hby at_53) ?_
        show Steps p.tables e below (T112.setTop (mkF m 54 #[.val (.int p0), .val (.int (27 : Int32)), .val (.ref w_SKIP_77), .val (.int (0 : Int32))] [(.int (1 : Int32))])) _
        refine XS.goto X112.here hx rfl (pc0 := 54) (pc' := 58) rfl (hb hby at_54) (by decide) (by decide) ?_
        exact kt)
    obtain ⟨fs, hr, hrun, hended, hW, hsame⟩ := X112.leave (v := some (.int (1 : Int32))) (fun h => by rw [Bd.returns] at h; cases h)
    refine ⟨_, _, pre115 _ ?_, hrun, hended, _, _, rfl, ?_, ⟨_, rfl⟩, hW, hsame.mono (by decide) (by decide)⟩
    · show Steps p.tables e below (T112.setTop (mkF m 58 #[.val (.int p0), .val (.int (27 : Int32)), .val (.ref w_SKIP_77), .val (.int (0 : Int32))] [(.int (1 : Int32))])) _
      exact retN X112 hx (t := .boolean) Bd.returns (by simp) (hb hby at_58) hr
    · show Q0 Z _ _ _ _ _ _ _ _ _ _ _ _ _ _ _ _ _ _ _ _ _ _ _ _ _ _ _ _ _ _ _ _ _ _ _ _ _ _ _ _ _ _ _ _ _ h0 n0 _ T112.heap _
      rw [e112]
      exact ⟨rfl, N112, rfl⟩
  · skip
    obtain ⟨cq116, kq116, q116a, q116b, q116c⟩ := isOf hZ e1 E_55
    obtain ⟨_, _, ⟨T116, L116, k116, n116⟩, -, X116, ⟨Lc116, hQ116, l116, y116, z116⟩, st116⟩ := X1.virtualBack hx (y := (⟨"com/example/token_handoff/tokenhandoff/cli/Option", "takesValue", "()Z"⟩ : MethodName)) (z := (⟨"com/example/token_handoff/tokenhandoff/cli/Option", "takesValue", "()Z"⟩ : MethodName)) hown (mvT hZ (hw _ (List.mem_of_getElem? (i := 8) rfl))) (mvT hZ (hw _ (List.mem_of_getElem? (i := 9) rfl))) (notFace_of_selects (args := #[]) (mvT hZ (hw _ (List.mem_of_getElem? (i := 11) rfl)))) (mvT hZ (hw _ (List.mem_of_getElem? (i := 11) rfl))) (mvT hZ (hw _ (List.mem_of_getElem? (i := 10) rfl))) (by decide) (backOf (W := 0) (rm2 l Z aw hw [] w_DURATION_45 (.ref w_value_43) h0 n0 Z0 rfl F_value_56) hZ (hw _ (List.mem_of_getElem? (i := 12) rfl)) (hw _ (List.mem_of_getElem? (i := 6) rfl)) (by decide) (by decide)) q116a q116c (g := (mkF m 38 #[.val (.int p0), .val (.int (28 : Int32)), .val (.ref w_DURATION_45), .val (.int (0 : Int32))] [(.ref w_DURATION_45)])) rfl (by rw [hml]; rfl) (Steps.refl _) (argsL := []) (rest := []) (lenOf pd_1 rfl) rfl (by show 2 * 0 + _ ≤ _; exact Nat.le_of_eq rfl) (hb hby at_38) (fun _ _ => ⟨rfl, e1, (by decide : 0 + 0 ≤ _), (by decide : 0 + 0 ≤ _)⟩)
    dsimp only [Pt.U, Pt.locs, Pt.cells, Pt.slots] at X116 l116 y116 z116 st116 hQ116
    subst l116 y116 z116
    obtain ⟨⟨r117, rfl, Pr117⟩, Nq116, e116⟩ := hQ116
    have N116 := Fr.app N1 Nq116
    have pre118 : ∀ t, Steps p.tables e below (T116.setTop (mkF m 41 #[.val (.int p0), .val (.int (28 : Int32)), .val (.ref w_DURATION_45), .val (.int (0 : Int32))] [(.int r117)])) t → Steps p.tables e below (s₁.setTop (entryFrame m #[(.int p0)] maxLocals)) t := fun t kt => pre3 t (by
        show Steps p.tables e below (T1.setTop (mkF m 12 #[.val (.int p0), .val (.int (28 : Int32)), .unset, .unset] [(.ref w_DURATION_45)])) _
        refine XS.astoreN X1.here hx rfl (hb hby at_12) rfl rfl (l' := #[.val (.int p0), .val (.int (28 : Int32)), .val (.ref w_DURATION_45), .unset]) rfl ?_
        show Steps p.tables e below (T1.setTop (mkF m 13 #[.val (.int p0), .val (.int (28 : Int32)), .val (.ref w_DURATION_45), .unset] [])) _
        refine XS.iloadN X1.here hx rfl (hb hby at_13) rfl ?_
        show Steps p.tables e below (T1.setTop (mkF m 14 #[.val (.int p0), .val (.int (28 : Int32)), .val (.ref w_DURATION_45), .unset] [(.int (28 : Int32))])) _
        refine XS.bipush X1.here hx rfl (hb hby at_14) ?_
        show Steps p.tables e below (T1.setTop (mkF m 16 #[.val (.int p0), .val (.int (28 : Int32)), .val (.ref w_DURATION_45), .unset] [(.int (15 : Int32)), (.int (28 : Int32))])) _
        refine XS.icmpNo X1.here hx rfl (hb hby at_16) rfl (feq (by decide : ¬ ((28 : Int32) = (15 : Int32)))).1 ?_
        show Steps p.tables e below (T1.setTop (mkF m 19 #[.val (.int p0), .val (.int (28 : Int32)), .val (.ref w_DURATION_45), .unset] [])) _
        refine XS.iloadN X1.here hx rfl (hb hby at_19) rfl ?_
        show Steps p.tables e below (T1.setTop (mkF m 20 #[.val (.int p0), .val (.int (28 : Int32)), .val (.ref w_DURATION_45), .unset] [(.int (28 : Int32))])) _
        refine XS.bipush X1.here hx rfl (hb hby at_20) ?_
        show Steps p.tables e below (T1.setTop (mkF m 22 #[.val (.int p0), .val (.int (28 : Int32)), .val (.ref w_DURATION_45), .unset] [(.int (16 : Int32)), (.int (28 : Int32))])) _
        refine XS.icmpNo X1.here hx rfl (hb hby at_22) rfl (feq (by decide : ¬ ((28 : Int32) = (16 : Int32)))).1 ?_
        show Steps p.tables e below (T1.setTop (mkF m 25 #[.val (.int p0), .val (.int (28 : Int32)), .val (.ref w_DURATION_45), .unset] [])) _
        refine XS.iloadN X1.here hx rfl (hb hby at_25) rfl ?_
        show Steps p.tables e below (T1.setTop (mkF m 26 #[.val (.int p0), .val (.int (28 : Int32)), .val (.ref w_DURATION_45), .unset] [(.int (28 : Int32))])) _
        refine XS.bipush X1.here hx rfl (hb hby at_26) ?_
        show Steps p.tables e below (T1.setTop (mkF m 28 #[.val (.int p0), .val (.int (28 : Int32)), .val (.ref w_DURATION_45), .unset] [(.int (30 : Int32)), (.int (28 : Int32))])) _
        refine XS.icmpYes X1.here hx rfl (pc0 := 28) (pc' := 35) rfl (hb hby at_28) rfl (feq (by decide : ¬ ((28 : Int32) = (30 : Int32)))).2 (by decide) (by decide) ?_
        show Steps p.tables e below (T1.setTop (mkF m 35 #[.val (.int p0), .val (.int (28 : Int32)), .val (.ref w_DURATION_45), .unset] [])) _
        refine XS.iconst X1.here hx rfl (hb hby at_35) ?_
        show Steps p.tables e below (T1.setTop (mkF m 36 #[.val (.int p0), .val (.int (28 : Int32)), .val (.ref w_DURATION_45), .unset] [(.int (0 : Int32))])) _
        refine XS.istoreN X1.here hx rfl (hb hby at_36) rfl (l' := #[.val (.int p0), .val (.int (28 : Int32)), .val (.ref w_DURATION_45), .val (.int (0 : Int32))]) rfl ?_
        show Steps p.tables e below (T1.setTop (mkF m 37 #[.val (.int p0), .val (.int (28 : Int32)), .val (.ref w_DURATION_45), .val (.int (0 : Int32))] [])) _
        refine XS.aloadN X1.here hx rfl (hb hby at_37) rfl rfl ?_
        show Steps p.tables e below (T1.setTop (mkF m 38 #[.val (.int p0), .val (.int (28 : Int32)), .val (.ref w_DURATION_45), .val (.int (0 : Int32))] [(.ref w_DURATION_45)])) _
        refine st116.trans ?_
        exact kt)
    obtain rfl : (1 : Int32) = r117 := Pr117.2 nofun
    have pre119 : ∀ t, Steps p.tables e below (T116.setTop (mkF m 58 #[.val (.int p0), .val (.int (28 : Int32)), .val (.ref w_DURATION_45), .val (.int (0 : Int32))] [(.int (1 : Int32))])) t → Steps p.tables e below (s₁.setTop (entryFrame m #[(.int p0)] maxLocals)) t := fun t kt => pre118 t (by
        show Steps p.tables e below (T116.setTop (mkF m 41 #[.val (.int p0), .val (.int (28 : Int32)), .val (.ref w_DURATION_45), .val (.int (0 : Int32))] [(.int (1 : Int32))])) _
        refine XS.iloadN X116.here hx rfl (hb hby at_41) rfl ?_
        show Steps p.tables e below (T116.setTop (mkF m 42 #[.val (.int p0), .val (.int (28 : Int32)), .val (.ref w_DURATION_45), .val (.int (0 : Int32))] [(.int (0 : Int32)), (.int (1 : Int32))])) _
        refine XS.ifNo X116.here hx rfl (hb hby at_42) rfl ((if0 _ _).trans (teq (rfl : (0 : Int32) = (0 : Int32))).2) ?_
        show Steps p.tables e below (T116.setTop (mkF m 45 #[.val (.int p0), .val (.int (28 : Int32)), .val (.ref w_DURATION_45), .val (.int (0 : Int32))] [(.int (1 : Int32))])) _
        refine XS.iconst X116.here hx rfl (hb hby at_45) ?_
        show Steps p.tables e below (T116.setTop (mkF m 46 #[.val (.int p0), .val (.int (28 : Int32)), .val (.ref w_DURATION_45), .val (.int (0 : Int32))] [(.int (1 : Int32)), (.int (1 : Int32))])) _
        refine XS.goto X116.here hx rfl (pc0 := 46) (pc' := 50) rfl (hb hby at_46) (by decide) (by decide) ?_
        show Steps p.tables e below (T116.setTop (mkF m 50 #[.val (.int p0), .val (.int (28 : Int32)), .val (.ref w_DURATION_45), .val (.int (0 : Int32))] [(.int (1 : Int32)), (.int (1 : Int32))])) _
        refine XS.icmpNo X116.here hx rfl (hb hby at_50) rfl (teq (rfl : (1 : Int32) = (1 : Int32))).2 ?_
        show Steps p.tables e below (T116.setTop (mkF m 53 #[.val (.int p0), .val (.int (28 : Int32)), .val (.ref w_DURATION_45), .val (.int (0 : Int32))] [])) _
        refine XS.iconst X116.here hx rfl (hb hby at_53) ?_
        show Steps p.tables e below (T116.setTop (mkF m 54 #[.val (.int p0), .val (.int (28 : Int32)), .val (.ref w_DURATION_45), .val (.int (0 : Int32))] [(.int (1 : Int32))])) _
        refine XS.goto X116.here hx rfl (pc0 := 54) (pc' := 58) rfl (hb hby at_54) (by decide) (by decide) ?_
        exact kt)
    obtain ⟨fs, hr, hrun, hended, hW, hsame⟩ := X116.leave (v := some (.int (1 : Int32))) (fun h => by rw [Bd.returns] at h; cases h)
    refine ⟨_, _, pre119 _ ?_, hrun, hended, _, _, rfl, ?_, ⟨_, rfl⟩, hW, hsame.mono (by decide) (by decide)⟩
    · show Steps p.tables e below (T116.setTop (mkF m 58 #[.val (.int p0), .val (.int (28 : Int32)), .val (.ref w_DURATION_45), .val (.int (0 : Int32))] [(.int (1 : Int32))])) _
      exact retN X116 hx (t := .boolean) Bd.returns (by simp) (hb hby at_58) hr
    · show Q0 Z _ _ _ _ _ _ _ _ _ _ _ _ _ _ _ _ _ _ _ _ _ _ _ _ _ _ _ _ _ _ _ _ _ _ _ _ _ _ _ _ _ _ _ _ _ h0 n0 _ T116.heap _
      rw [e116]
      exact ⟨rfl, N116, rfl⟩
  · skip
    obtain ⟨cq120, kq120, q120a, q120b, q120c⟩ := isOf hZ e1 E_107
    obtain ⟨_, _, ⟨T120, L120, k120, n120⟩, -, X120, ⟨Lc120, hQ120, l120, y120, z120⟩, st120⟩ := X1.virtualBack hx (y := (⟨"com/example/token_handoff/tokenhandoff/cli/Option", "takesValue", "()Z"⟩ : MethodName)) (z := (⟨"com/example/token_handoff/tokenhandoff/cli/Option", "takesValue", "()Z"⟩ : MethodName)) hown (mvT hZ (hw _ (List.mem_of_getElem? (i := 8) rfl))) (mvT hZ (hw _ (List.mem_of_getElem? (i := 9) rfl))) (notFace_of_selects (args := #[]) (mvT hZ (hw _ (List.mem_of_getElem? (i := 11) rfl)))) (mvT hZ (hw _ (List.mem_of_getElem? (i := 11) rfl))) (mvT hZ (hw _ (List.mem_of_getElem? (i := 10) rfl))) (by decide) (backOf (W := 0) (rm2 l Z aw hw [] w_LOSS_EVERY_85 (.ref w_value_43) h0 n0 Z0 rfl F_value_108) hZ (hw _ (List.mem_of_getElem? (i := 12) rfl)) (hw _ (List.mem_of_getElem? (i := 6) rfl)) (by decide) (by decide)) q120a q120c (g := (mkF m 38 #[.val (.int p0), .val (.int (29 : Int32)), .val (.ref w_LOSS_EVERY_85), .val (.int (0 : Int32))] [(.ref w_LOSS_EVERY_85)])) rfl (by rw [hml]; rfl) (Steps.refl _) (argsL := []) (rest := []) (lenOf pd_1 rfl) rfl (by show 2 * 0 + _ ≤ _; exact Nat.le_of_eq rfl) (hb hby at_38) (fun _ _ => ⟨rfl, e1, (by decide : 0 + 0 ≤ _), (by decide : 0 + 0 ≤ _)⟩)
    dsimp only [Pt.U, Pt.locs, Pt.cells, Pt.slots] at X120 l120 y120 z120 st120 hQ120
    subst l120 y120 z120
    obtain ⟨⟨r121, rfl, Pr121⟩, Nq120, e120⟩ := hQ120
    have N120 := Fr.app N1 Nq120
    have pre122 : ∀ t, Steps p.tables e below (T120.setTop (mkF m 41 #[.val (.int p0), .val (.int (29 : Int32)), .val (.ref w_LOSS_EVERY_85), .val (.int (0 : Int32))] [(.int r121)])) t → Steps p.tables e below (s₁.setTop (entryFrame m #[(.int p0)] maxLocals)) t := fun t kt => pre3 t (by
        show Steps p.tables e below (T1.setTop (mkF m 12 #[.val (.int p0), .val (.int (29 : Int32)), .unset, .unset] [(.ref w_LOSS_EVERY_85)])) _
        refine XS.astoreN X1.here hx rfl (hb hby at_12) rfl rfl (l' := #[.val (.int p0), .val (.int (29 : Int32)), .val (.ref w_LOSS_EVERY_85), .unset]) rfl ?_
        show Steps p.tables e below (T1.setTop (mkF m 13 #[.val (.int p0), .val (.int (29 : Int32)), .val (.ref w_LOSS_EVERY_85), .unset] [])) _
        refine XS.iloadN X1.here hx rfl (hb hby at_13) rfl ?_
        show Steps p.tables e below (T1.setTop (mkF m 14 #[.val (.int p0), .val (.int (29 : Int32)), .val (.ref w_LOSS_EVERY_85), .unset] [(.int (29 : Int32))])) _
        refine XS.bipush X1.here hx rfl (hb hby at_14) ?_
        show Steps p.tables e below (T1.setTop (mkF m 16 #[.val (.int p0), .val (.int (29 : Int32)), .val (.ref w_LOSS_EVERY_85), .unset] [(.int (15 : Int32)), (.int (29 : Int32))])) _
        refine XS.icmpNo X1.here hx rfl (hb hby at_16) rfl (feq (by decide : ¬ ((29 : Int32) = (15 : Int32)))).1 ?_
        show Steps p.tables e below (T1.setTop (mkF m 19 #[.val (.int p0), .val (.int (29 : Int32)), .val (.ref w_LOSS_EVERY_85), .unset] [])) _
        refine XS.iloadN X1.here hx rfl (hb hby at_19) rfl ?_
        show Steps p.tables e below (T1.setTop (mkF m 20 #[.val (.int p0), .val (.int (29 : Int32)), .val (.ref w_LOSS_EVERY_85), .unset] [(.int (29 : Int32))])) _
        refine XS.bipush X1.here hx rfl (hb hby at_20) ?_
        show Steps p.tables e below (T1.setTop (mkF m 22 #[.val (.int p0), .val (.int (29 : Int32)), .val (.ref w_LOSS_EVERY_85), .unset] [(.int (16 : Int32)), (.int (29 : Int32))])) _
        refine XS.icmpNo X1.here hx rfl (hb hby at_22) rfl (feq (by decide : ¬ ((29 : Int32) = (16 : Int32)))).1 ?_
        show Steps p.tables e below (T1.setTop (mkF m 25 #[.val (.int p0), .val (.int (29 : Int32)), .val (.ref w_LOSS_EVERY_85), .unset] [])) _
        refine XS.iloadN X1.here hx rfl (hb hby at_25) rfl ?_
        show Steps p.tables e below (T1.setTop (mkF m 26 #[.val (.int p0), .val (.int (29 : Int32)), .val (.ref w_LOSS_EVERY_85), .unset] [(.int (29 : Int32))])) _
        refine XS.bipush X1.here hx rfl (hb hby at_26) ?_
        show Steps p.tables e below (T1.setTop (mkF m 28 #[.val (.int p0), .val (.int (29 : Int32)), .val (.ref w_LOSS_EVERY_85), .unset] [(.int (30 : Int32)), (.int (29 : Int32))])) _
        refine XS.icmpYes X1.here hx rfl (pc0 := 28) (pc' := 35) rfl (hb hby at_28) rfl (feq (by decide : ¬ ((29 : Int32) = (30 : Int32)))).2 (by decide) (by decide) ?_
        show Steps p.tables e below (T1.setTop (mkF m 35 #[.val (.int p0), .val (.int (29 : Int32)), .val (.ref w_LOSS_EVERY_85), .unset] [])) _
        refine XS.iconst X1.here hx rfl (hb hby at_35) ?_
        show Steps p.tables e below (T1.setTop (mkF m 36 #[.val (.int p0), .val (.int (29 : Int32)), .val (.ref w_LOSS_EVERY_85), .unset] [(.int (0 : Int32))])) _
        refine XS.istoreN X1.here hx rfl (hb hby at_36) rfl (l' := #[.val (.int p0), .val (.int (29 : Int32)), .val (.ref w_LOSS_EVERY_85), .val (.int (0 : Int32))]) rfl ?_
        show Steps p.tables e below (T1.setTop (mkF m 37 #[.val (.int p0), .val (.int (29 : Int32)), .val (.ref w_LOSS_EVERY_85), .val (.int (0 : Int32))] [])) _
        refine XS.aloadN X1.here hx rfl (hb hby at_37) rfl rfl ?_
        show Steps p.tables e below (T1.setTop (mkF m 38 #[.val (.int p0), .val (.int (29 : Int32)), .val (.ref w_LOSS_EVERY_85), .val (.int (0 : Int32))] [(.ref w_LOSS_EVERY_85)])) _
        refine st120.trans ?_
        exact kt)
    obtain rfl : (1 : Int32) = r121 := Pr121.2 nofun
    have pre123 : ∀ t, Steps p.tables e below (T120.setTop (mkF m 58 #[.val (.int p0), .val (.int (29 : Int32)), .val (.ref w_LOSS_EVERY_85), .val (.int (0 : Int32))] [(.int (1 : Int32))])) t → Steps p.tables e below (s₁.setTop (entryFrame m #[(.int p0)] maxLocals)) t := fun t kt => pre122 t (by
        show Steps p.tables e below (T120.setTop (mkF m 41 #[.val (.int p0), .val (.int (29 : Int32)), .val (.ref w_LOSS_EVERY_85), .val (.int (0 : Int32))] [(.int (1 : Int32))])) _
        refine XS.iloadN X120.here hx rfl (hb hby at_41) rfl ?_
        show Steps p.tables e below (T120.setTop (mkF m 42 #[.val (.int p0), .val (.int (29 : Int32)), .val (.ref w_LOSS_EVERY_85), .val (.int (0 : Int32))] [(.int (0 : Int32)), (.int (1 : Int32))])) _
        refine XS.ifNo X120.here hx rfl (hb hby at_42) rfl ((if0 _ _).trans (teq (rfl : (0 : Int32) = (0 : Int32))).2) ?_
        show Steps p.tables e below (T120.setTop (mkF m 45 #[.val (.int p0), .val (.int (29 : Int32)), .val (.ref w_LOSS_EVERY_85), .val (.int (0 : Int32))] [(.int (1 : Int32))])) _
        refine XS.iconst X120.here hx rfl (hb hby at_45) ?_
        show Steps p.tables e below (T120.setTop (mkF m 46 #[.val (.int p0), .val (.int (29 : Int32)), .val (.ref w_LOSS_EVERY_85), .val (.int (0 : Int32))] [(.int (1 : Int32)), (.int (1 : Int32))])) _
        refine XS.goto X120.here hx rfl (pc0 := 46) (pc' := 50) rfl (hb hby at_46) (by decide) (by decide) ?_
        show Steps p.tables e below (T120.setTop (mkF m 50 #[.val (.int p0), .val (.int (29 : Int32)), .val (.ref w_LOSS_EVERY_85), .val (.int (0 : Int32))] [(.int (1 : Int32)), (.int (1 : Int32))])) _
        refine XS.icmpNo X120.here hx rfl (hb hby at_50) rfl (teq (rfl : (1 : Int32) = (1 : Int32))).2 ?_
        show Steps p.tables e below (T120.setTop (mkF m 53 #[.val (.int p0), .val (.int (29 : Int32)), .val (.ref w_LOSS_EVERY_85), .val (.int (0 : Int32))] [])) _
        refine XS.iconst X120.here hx rfl (hb hby at_53) ?_
        show Steps p.tables e below (T120.setTop (mkF m 54 #[.val (.int p0), .val (.int (29 : Int32)), .val (.ref w_LOSS_EVERY_85), .val (.int (0 : Int32))] [(.int (1 : Int32))])) _
        refine XS.goto X120.here hx rfl (pc0 := 54) (pc' := 58) rfl (hb hby at_54) (by decide) (by decide) ?_
        exact kt)
    obtain ⟨fs, hr, hrun, hended, hW, hsame⟩ := X120.leave (v := some (.int (1 : Int32))) (fun h => by rw [Bd.returns] at h; cases h)
    refine ⟨_, _, pre123 _ ?_, hrun, hended, _, _, rfl, ?_, ⟨_, rfl⟩, hW, hsame.mono (by decide) (by decide)⟩
    · show Steps p.tables e below (T120.setTop (mkF m 58 #[.val (.int p0), .val (.int (29 : Int32)), .val (.ref w_LOSS_EVERY_85), .val (.int (0 : Int32))] [(.int (1 : Int32))])) _
      exact retN X120 hx (t := .boolean) Bd.returns (by simp) (hb hby at_58) hr
    · show Q0 Z _ _ _ _ _ _ _ _ _ _ _ _ _ _ _ _ _ _ _ _ _ _ _ _ _ _ _ _ _ _ _ _ _ _ _ _ _ _ _ _ _ _ _ _ _ h0 n0 _ T120.heap _
      rw [e120]
      exact ⟨rfl, N120, rfl⟩
  · skip
    obtain ⟨cq124, kq124, q124a, q124b, q124c⟩ := isOf hZ e1 E_94
    obtain ⟨_, _, ⟨T124, L124, k124, n124⟩, -, X124, ⟨Lc124, hQ124, l124, y124, z124⟩, st124⟩ := X1.virtualBack hx (y := (⟨"com/example/token_handoff/tokenhandoff/cli/Option", "takesValue", "()Z"⟩ : MethodName)) (z := (⟨"com/example/token_handoff/tokenhandoff/cli/Option", "takesValue", "()Z"⟩ : MethodName)) hown (mvT hZ (hw _ (List.mem_of_getElem? (i := 8) rfl))) (mvT hZ (hw _ (List.mem_of_getElem? (i := 9) rfl))) (notFace_of_selects (args := #[]) (mvT hZ (hw _ (List.mem_of_getElem? (i := 11) rfl)))) (mvT hZ (hw _ (List.mem_of_getElem? (i := 11) rfl))) (mvT hZ (hw _ (List.mem_of_getElem? (i := 10) rfl))) (by decide) (backOf (W := 0) (rm2 l Z aw hw [] w_UNCOORDINATED_75 .null h0 n0 Z0 rfl F_value_95) hZ (hw _ (List.mem_of_getElem? (i := 12) rfl)) (hw _ (List.mem_of_getElem? (i := 6) rfl)) (by decide) (by decide)) q124a q124c (g := (mkF m 38 #[.val (.int p0), .val (.int (30 : Int32)), .val (.ref w_UNCOORDINATED_75), .val (.int (1 : Int32))] [(.ref w_UNCOORDINATED_75)])) rfl (by rw [hml]; rfl) (Steps.refl _) (argsL := []) (rest := []) (lenOf pd_1 rfl) rfl (by show 2 * 0 + _ ≤ _; exact Nat.le_of_eq rfl) (hb hby at_38) (fun _ _ => ⟨rfl, e1, (by decide : 0 + 0 ≤ _), (by decide : 0 + 0 ≤ _)⟩)
    dsimp only [Pt.U, Pt.locs, Pt.cells, Pt.slots] at X124 l124 y124 z124 st124 hQ124
    subst l124 y124 z124
    obtain ⟨⟨r125, rfl, Pr125⟩, Nq124, e124⟩ := hQ124
    have N124 := Fr.app N1 Nq124
    have pre126 : ∀ t, Steps p.tables e below (T124.setTop (mkF m 41 #[.val (.int p0), .val (.int (30 : Int32)), .val (.ref w_UNCOORDINATED_75), .val (.int (1 : Int32))] [(.int r125)])) t → Steps p.tables e below (s₁.setTop (entryFrame m #[(.int p0)] maxLocals)) t := fun t kt => pre3 t (by
        show Steps p.tables e below (T1.setTop (mkF m 12 #[.val (.int p0), .val (.int (30 : Int32)), .unset, .unset] [(.ref w_UNCOORDINATED_75)])) _
        refine XS.astoreN X1.here hx rfl (hb hby at_12) rfl rfl (l' := #[.val (.int p0), .val (.int (30 : Int32)), .val (.ref w_UNCOORDINATED_75), .unset]) rfl ?_
        show Steps p.tables e below (T1.setTop (mkF m 13 #[.val (.int p0), .val (.int (30 : Int32)), .val (.ref w_UNCOORDINATED_75), .unset] [])) _
        refine XS.iloadN X1.here hx rfl (hb hby at_13) rfl ?_
        show Steps p.tables e below (T1.setTop (mkF m 14 #[.val (.int p0), .val (.int (30 : Int32)), .val (.ref w_UNCOORDINATED_75), .unset] [(.int (30 : Int32))])) _
        refine XS.bipush X1.here hx rfl (hb hby at_14) ?_
        show Steps p.tables e below (T1.setTop (mkF m 16 #[.val (.int p0), .val (.int (30 : Int32)), .val (.ref w_UNCOORDINATED_75), .unset] [(.int (15 : Int32)), (.int (30 : Int32))])) _
        refine XS.icmpNo X1.here hx rfl (hb hby at_16) rfl (feq (by decide : ¬ ((30 : Int32) = (15 : Int32)))).1 ?_
        show Steps p.tables e below (T1.setTop (mkF m 19 #[.val (.int p0), .val (.int (30 : Int32)), .val (.ref w_UNCOORDINATED_75), .unset] [])) _
        refine XS.iloadN X1.here hx rfl (hb hby at_19) rfl ?_
        show Steps p.tables e below (T1.setTop (mkF m 20 #[.val (.int p0), .val (.int (30 : Int32)), .val (.ref w_UNCOORDINATED_75), .unset] [(.int (30 : Int32))])) _
        refine XS.bipush X1.here hx rfl (hb hby at_20) ?_
        show Steps p.tables e below (T1.setTop (mkF m 22 #[.val (.int p0), .val (.int (30 : Int32)), .val (.ref w_UNCOORDINATED_75), .unset] [(.int (16 : Int32)), (.int (30 : Int32))])) _
        refine XS.icmpNo X1.here hx rfl (hb hby at_22) rfl (feq (by decide : ¬ ((30 : Int32) = (16 : Int32)))).1 ?_
        show Steps p.tables e below (T1.setTop (mkF m 25 #[.val (.int p0), .val (.int (30 : Int32)), .val (.ref w_UNCOORDINATED_75), .unset] [])) _
        refine XS.iloadN X1.here hx rfl (hb hby at_25) rfl ?_
        show Steps p.tables e below (T1.setTop (mkF m 26 #[.val (.int p0), .val (.int (30 : Int32)), .val (.ref w_UNCOORDINATED_75), .unset] [(.int (30 : Int32))])) _
        refine XS.bipush X1.here hx rfl (hb hby at_26) ?_
        show Steps p.tables e below (T1.setTop (mkF m 28 #[.val (.int p0), .val (.int (30 : Int32)), .val (.ref w_UNCOORDINATED_75), .unset] [(.int (30 : Int32)), (.int (30 : Int32))])) _
        refine XS.icmpNo X1.here hx rfl (hb hby at_28) rfl (teq (rfl : (30 : Int32) = (30 : Int32))).2 ?_
        show Steps p.tables e below (T1.setTop (mkF m 31 #[.val (.int p0), .val (.int (30 : Int32)), .val (.ref w_UNCOORDINATED_75), .unset] [])) _
        refine XS.iconst X1.here hx rfl (hb hby at_31) ?_
        show Steps p.tables e below (T1.setTop (mkF m 32 #[.val (.int p0), .val (.int (30 : Int32)), .val (.ref w_UNCOORDINATED_75), .unset] [(.int (1 : Int32))])) _
        refine XS.goto X1.here hx rfl (pc0 := 32) (pc' := 36) rfl (hb hby at_32) (by decide) (by decide) ?_
        show Steps p.tables e below (T1.setTop (mkF m 36 #[.val (.int p0), .val (.int (30 : Int32)), .val (.ref w_UNCOORDINATED_75), .unset] [(.int (1 : Int32))])) _
        refine XS.istoreN X1.here hx rfl (hb hby at_36) rfl (l' := #[.val (.int p0), .val (.int (30 : Int32)), .val (.ref w_UNCOORDINATED_75), .val (.int (1 : Int32))]) rfl ?_
        show Steps p.tables e below (T1.setTop (mkF m 37 #[.val (.int p0), .val (.int (30 : Int32)), .val (.ref w_UNCOORDINATED_75), .val (.int (1 : Int32))] [])) _
        refine XS.aloadN X1.here hx rfl (hb hby at_37) rfl rfl ?_
        show Steps p.tables e below (T1.setTop (mkF m 38 #[.val (.int p0), .val (.int (30 : Int32)), .val (.ref w_UNCOORDINATED_75), .val (.int (1 : Int32))] [(.ref w_UNCOORDINATED_75)])) _
        refine st124.trans ?_
        exact kt)
    obtain rfl : (0 : Int32) = r125 := Pr125.1 rfl
    have pre127 : ∀ t, Steps p.tables e below (T124.setTop (mkF m 58 #[.val (.int p0), .val (.int (30 : Int32)), .val (.ref w_UNCOORDINATED_75), .val (.int (1 : Int32))] [(.int (1 : Int32))])) t → Steps p.tables e below (s₁.setTop (entryFrame m #[(.int p0)] maxLocals)) t := fun t kt => pre126 t (by
        show Steps p.tables e below (T124.setTop (mkF m 41 #[.val (.int p0), .val (.int (30 : Int32)), .val (.ref w_UNCOORDINATED_75), .val (.int (1 : Int32))] [(.int (0 : Int32))])) _
        refine XS.iloadN X124.here hx rfl (hb hby at_41) rfl ?_
        show Steps p.tables e below (T124.setTop (mkF m 42 #[.val (.int p0), .val (.int (30 : Int32)), .val (.ref w_UNCOORDINATED_75), .val (.int (1 : Int32))] [(.int (1 : Int32)), (.int (0 : Int32))])) _
        refine XS.ifYes X124.here hx rfl (pc0 := 42) (pc' := 49) rfl (hb hby at_42) rfl ((if0 _ _).trans (feq (by decide : ¬ ((1 : Int32) = (0 : Int32)))).2) (by decide) (by decide) ?_
        show Steps p.tables e below (T124.setTop (mkF m 49 #[.val (.int p0), .val (.int (30 : Int32)), .val (.ref w_UNCOORDINATED_75), .val (.int (1 : Int32))] [(.int (0 : Int32))])) _
        refine XS.iconst X124.here hx rfl (hb hby at_49) ?_
        show Steps p.tables e below (T124.setTop (mkF m 50 #[.val (.int p0), .val (.int (30 : Int32)), .val (.ref w_UNCOORDINATED_75), .val (.int (1 : Int32))] [(.int (0 : Int32)), (.int (0 : Int32))])) _
        refine XS.icmpNo X124.here hx rfl (hb hby at_50) rfl (teq (rfl : (0 : Int32) = (0 : Int32))).2 ?_
        show Steps p.tables e below (T124.setTop (mkF m 53 #[.val (.int p0), .val (.int (30 : Int32)), .val (.ref w_UNCOORDINATED_75), .val (.int (1 : Int32))] [])) _
        refine XS.iconst X124.here hx rfl (hb hby at_53) ?_
        show Steps p.tables e below (T124.setTop (mkF m 54 #[.val (.int p0), .val (.int (30 : Int32)), .val (.ref w_UNCOORDINATED_75), .val (.int (1 : Int32))] [(.int (1 : Int32))])) _
        refine XS.goto X124.here hx rfl (pc0 := 54) (pc' := 58) rfl (hb hby at_54) (by decide) (by decide) ?_
        exact kt)
    obtain ⟨fs, hr, hrun, hended, hW, hsame⟩ := X124.leave (v := some (.int (1 : Int32))) (fun h => by rw [Bd.returns] at h; cases h)
    refine ⟨_, _, pre127 _ ?_, hrun, hended, _, _, rfl, ?_, ⟨_, rfl⟩, hW, hsame.mono (by decide) (by decide)⟩
    · show Steps p.tables e below (T124.setTop (mkF m 58 #[.val (.int p0), .val (.int (30 : Int32)), .val (.ref w_UNCOORDINATED_75), .val (.int (1 : Int32))] [(.int (1 : Int32))])) _
      exact retN X124 hx (t := .boolean) Bd.returns (by simp) (hb hby at_58) hr
    · show Q0 Z _ _ _ _ _ _ _ _ _ _ _ _ _ _ _ _ _ _ _ _ _ _ _ _ _ _ _ _ _ _ _ _ _ _ _ _ _ _ _ _ _ _ _ _ _ h0 n0 _ T124.heap _
      rw [e124]
      exact ⟨rfl, N124, rfl⟩
  · skip
    obtain ⟨cq128, kq128, q128a, q128b, q128c⟩ := isOf hZ e1 E_104
    obtain ⟨_, _, ⟨T128, L128, k128, n128⟩, -, X128, ⟨Lc128, hQ128, l128, y128, z128⟩, st128⟩ := X1.virtualBack hx (y := (⟨"com/example/token_handoff/tokenhandoff/cli/Option", "takesValue", "()Z"⟩ : MethodName)) (z := (⟨"com/example/token_handoff/tokenhandoff/cli/Option", "takesValue", "()Z"⟩ : MethodName)) hown (mvT hZ (hw _ (List.mem_of_getElem? (i := 8) rfl))) (mvT hZ (hw _ (List.mem_of_getElem? (i := 9) rfl))) (notFace_of_selects (args := #[]) (mvT hZ (hw _ (List.mem_of_getElem? (i := 11) rfl)))) (mvT hZ (hw _ (List.mem_of_getElem? (i := 11) rfl))) (mvT hZ (hw _ (List.mem_of_getElem? (i := 10) rfl))) (by decide) (backOf (W := 0) (rm2 l Z aw hw [] w_INTERVAL_83 (.ref w_value_43) h0 n0 Z0 rfl F_value_105) hZ (hw _ (List.mem_of_getElem? (i := 12) rfl)) (hw _ (List.mem_of_getElem? (i := 6) rfl)) (by decide) (by decide)) q128a q128c (g := (mkF m 38 #[.val (.int p0), .val (.int (31 : Int32)), .val (.ref w_INTERVAL_83), .val (.int (0 : Int32))] [(.ref w_INTERVAL_83)])) rfl (by rw [hml]; rfl) (Steps.refl _) (argsL := []) (rest := []) (lenOf pd_1 rfl) rfl (by show 2 * 0 + _ ≤ _; exact Nat.le_of_eq rfl) (hb hby at_38) (fun _ _ => ⟨rfl, e1, (by decide : 0 + 0 ≤ _), (by decide : 0 + 0 ≤ _)⟩)
    dsimp only [Pt.U, Pt.locs, Pt.cells, Pt.slots] at X128 l128 y128 z128 st128 hQ128
    subst l128 y128 z128
    obtain ⟨⟨r129, rfl, Pr129⟩, Nq128, e128⟩ := hQ128
    have N128 := Fr.app N1 Nq128
    have pre130 : ∀ t, Steps p.tables e below (T128.setTop (mkF m 41 #[.val (.int p0), .val (.int (31 : Int32)), .val (.ref w_INTERVAL_83), .val (.int (0 : Int32))] [(.int r129)])) t → Steps p.tables e below (s₁.setTop (entryFrame m #[(.int p0)] maxLocals)) t := fun t kt => pre3 t (by
        show Steps p.tables e below (T1.setTop (mkF m 12 #[.val (.int p0), .val (.int (31 : Int32)), .unset, .unset] [(.ref w_INTERVAL_83)])) _
        refine XS.astoreN X1.here hx rfl (hb hby at_12) rfl rfl (l' := #[.val (.int p0), .val (.int (31 : Int32)), .val (.ref w_INTERVAL_83), .unset]) rfl ?_
        show Steps p.tables e below (T1.setTop (mkF m 13 #[.val (.int p0), .val (.int (31 : Int32)), .val (.ref w_INTERVAL_83), .unset] [])) _
        refine XS.iloadN X1.here hx rfl (hb hby at_13) rfl ?_
        show Steps p.tables e below (T1.setTop (mkF m 14 #[.val (.int p0), .val (.int (31 : Int32)), .val (.ref w_INTERVAL_83), .unset] [(.int (31 : Int32))])) _
        refine XS.bipush X1.here hx rfl (hb hby at_14) ?_
        show Steps p.tables e below (T1.setTop (mkF m 16 #[.val (.int p0), .val (.int (31 : Int32)), .val (.ref w_INTERVAL_83), .unset] [(.int (15 : Int32)), (.int (31 : Int32))])) _
        refine XS.icmpNo X1.here hx rfl (hb hby at_16) rfl (feq (by decide : ¬ ((31 : Int32) = (15 : Int32)))).1 ?_
        show Steps p.tables e below (T1.setTop (mkF m 19 #[.val (.int p0), .val (.int (31 : Int32)), .val (.ref w_INTERVAL_83), .unset] [])) _
        refine XS.iloadN X1.here hx rfl (hb hby at_19) rfl ?_
        show Steps p.tables e below (T1.setTop (mkF m 20 #[.val (.int p0), .val (.int (31 : Int32)), .val (.ref w_INTERVAL_83), .unset] [(.int (31 : Int32))])) _
        refine XS.bipush X1.here hx rfl (hb hby at_20) ?_
        show Steps p.tables e below (T1.setTop (mkF m 22 #[.val (.int p0), .val (.int (31 : Int32)), .val (.ref w_INTERVAL_83), .unset] [(.int (16 : Int32)), (.int (31 : Int32))])) _
        refine XS.icmpNo X1.here hx rfl (hb hby at_22) rfl (feq (by decide : ¬ ((31 : Int32) = (16 : Int32)))).1 ?_
        show Steps p.tables e below (T1.setTop (mkF m 25 #[.val (.int p0), .val (.int (31 : Int32)), .val (.ref w_INTERVAL_83), .unset] [])) _
        refine XS.iloadN X1.here hx rfl (hb hby at_25) rfl ?_
        show Steps p.tables e below (T1.setTop (mkF m 26 #[.val (.int p0), .val (.int (31 : Int32)), .val (.ref w_INTERVAL_83), .unset] [(.int (31 : Int32))])) _
        refine XS.bipush X1.here hx rfl (hb hby at_26) ?_
        show Steps p.tables e below (T1.setTop (mkF m 28 #[.val (.int p0), .val (.int (31 : Int32)), .val (.ref w_INTERVAL_83), .unset] [(.int (30 : Int32)), (.int (31 : Int32))])) _
        refine XS.icmpYes X1.here hx rfl (pc0 := 28) (pc' := 35) rfl (hb hby at_28) rfl (feq (by decide : ¬ ((31 : Int32) = (30 : Int32)))).2 (by decide) (by decide) ?_
        show Steps p.tables e below (T1.setTop (mkF m 35 #[.val (.int p0), .val (.int (31 : Int32)), .val (.ref w_INTERVAL_83), .unset] [])) _
        refine XS.iconst X1.here hx rfl (hb hby at_35) ?_
        show Steps p.tables e below (T1.setTop (mkF m 36 #[.val (.int p0), .val (.int (31 : Int32)), .val (.ref w_INTERVAL_83), .unset] [(.int (0 : Int32))])) _
        refine XS.istoreN X1.here hx rfl (hb hby at_36) rfl (l' := #[.val (.int p0), .val (.int (31 : Int32)), .val (.ref w_INTERVAL_83), .val (.int (0 : Int32))]) rfl ?_
        show Steps p.tables e below (T1.setTop (mkF m 37 #[.val (.int p0), .val (.int (31 : Int32)), .val (.ref w_INTERVAL_83), .val (.int (0 : Int32))] [])) _
        refine XS.aloadN X1.here hx rfl (hb hby at_37) rfl rfl ?_
        show Steps p.tables e below (T1.setTop (mkF m 38 #[.val (.int p0), .val (.int (31 : Int32)), .val (.ref w_INTERVAL_83), .val (.int (0 : Int32))] [(.ref w_INTERVAL_83)])) _
        refine st128.trans ?_
        exact kt)
    obtain rfl : (1 : Int32) = r129 := Pr129.2 nofun
    have pre131 : ∀ t, Steps p.tables e below (T128.setTop (mkF m 58 #[.val (.int p0), .val (.int (31 : Int32)), .val (.ref w_INTERVAL_83), .val (.int (0 : Int32))] [(.int (1 : Int32))])) t → Steps p.tables e below (s₁.setTop (entryFrame m #[(.int p0)] maxLocals)) t := fun t kt => pre130 t (by
        show Steps p.tables e below (T128.setTop (mkF m 41 #[.val (.int p0), .val (.int (31 : Int32)), .val (.ref w_INTERVAL_83), .val (.int (0 : Int32))] [(.int (1 : Int32))])) _
        refine XS.iloadN X128.here hx rfl (hb hby at_41) rfl ?_
        show Steps p.tables e below (T128.setTop (mkF m 42 #[.val (.int p0), .val (.int (31 : Int32)), .val (.ref w_INTERVAL_83), .val (.int (0 : Int32))] [(.int (0 : Int32)), (.int (1 : Int32))])) _
        refine XS.ifNo X128.here hx rfl (hb hby at_42) rfl ((if0 _ _).trans (teq (rfl : (0 : Int32) = (0 : Int32))).2) ?_
        show Steps p.tables e below (T128.setTop (mkF m 45 #[.val (.int p0), .val (.int (31 : Int32)), .val (.ref w_INTERVAL_83), .val (.int (0 : Int32))] [(.int (1 : Int32))])) _
        refine XS.iconst X128.here hx rfl (hb hby at_45) ?_
        show Steps p.tables e below (T128.setTop (mkF m 46 #[.val (.int p0), .val (.int (31 : Int32)), .val (.ref w_INTERVAL_83), .val (.int (0 : Int32))] [(.int (1 : Int32)), (.int (1 : Int32))])) _
        refine XS.goto X128.here hx rfl (pc0 := 46) (pc' := 50) rfl (hb hby at_46) (by decide) (by decide) ?_
        show Steps p.tables e below (T128.setTop (mkF m 50 #[.val (.int p0), .val (.int (31 : Int32)), .val (.ref w_INTERVAL_83), .val (.int (0 : Int32))] [(.int (1 : Int32)), (.int (1 : Int32))])) _
        refine XS.icmpNo X128.here hx rfl (hb hby at_50) rfl (teq (rfl : (1 : Int32) = (1 : Int32))).2 ?_
        show Steps p.tables e below (T128.setTop (mkF m 53 #[.val (.int p0), .val (.int (31 : Int32)), .val (.ref w_INTERVAL_83), .val (.int (0 : Int32))] [])) _
        refine XS.iconst X128.here hx rfl (hb hby at_53) ?_
        show Steps p.tables e below (T128.setTop (mkF m 54 #[.val (.int p0), .val (.int (31 : Int32)), .val (.ref w_INTERVAL_83), .val (.int (0 : Int32))] [(.int (1 : Int32))])) _
        refine XS.goto X128.here hx rfl (pc0 := 54) (pc' := 58) rfl (hb hby at_54) (by decide) (by decide) ?_
        exact kt)
    obtain ⟨fs, hr, hrun, hended, hW, hsame⟩ := X128.leave (v := some (.int (1 : Int32))) (fun h => by rw [Bd.returns] at h; cases h)
    refine ⟨_, _, pre131 _ ?_, hrun, hended, _, _, rfl, ?_, ⟨_, rfl⟩, hW, hsame.mono (by decide) (by decide)⟩
    · show Steps p.tables e below (T128.setTop (mkF m 58 #[.val (.int p0), .val (.int (31 : Int32)), .val (.ref w_INTERVAL_83), .val (.int (0 : Int32))] [(.int (1 : Int32))])) _
      exact retN X128 hx (t := .boolean) Bd.returns (by simp) (hb hby at_58) hr
    · show Q0 Z _ _ _ _ _ _ _ _ _ _ _ _ _ _ _ _ _ _ _ _ _ _ _ _ _ _ _ _ _ _ _ _ _ _ _ _ _ _ _ _ _ _ _ _ _ h0 n0 _ T128.heap _
      rw [e128]
      exact ⟨rfl, N128, rfl⟩
  · skip
    obtain ⟨cq132, kq132, q132a, q132b, q132c⟩ := isOf hZ e1 E_51
    obtain ⟨_, _, ⟨T132, L132, k132, n132⟩, -, X132, ⟨Lc132, hQ132, l132, y132, z132⟩, st132⟩ := X1.virtualBack hx (y := (⟨"com/example/token_handoff/tokenhandoff/cli/Option", "takesValue", "()Z"⟩ : MethodName)) (z := (⟨"com/example/token_handoff/tokenhandoff/cli/Option", "takesValue", "()Z"⟩ : MethodName)) hown (mvT hZ (hw _ (List.mem_of_getElem? (i := 8) rfl))) (mvT hZ (hw _ (List.mem_of_getElem? (i := 9) rfl))) (notFace_of_selects (args := #[]) (mvT hZ (hw _ (List.mem_of_getElem? (i := 11) rfl)))) (mvT hZ (hw _ (List.mem_of_getElem? (i := 11) rfl))) (mvT hZ (hw _ (List.mem_of_getElem? (i := 10) rfl))) (by decide) (backOf (W := 0) (rm2 l Z aw hw [] w_JITTER_41 (.ref w_value_43) h0 n0 Z0 rfl F_value_52) hZ (hw _ (List.mem_of_getElem? (i := 12) rfl)) (hw _ (List.mem_of_getElem? (i := 6) rfl)) (by decide) (by decide)) q132a q132c (g := (mkF m 38 #[.val (.int p0), .val (.int (32 : Int32)), .val (.ref w_JITTER_41), .val (.int (0 : Int32))] [(.ref w_JITTER_41)])) rfl (by rw [hml]; rfl) (Steps.refl _) (argsL := []) (rest := []) (lenOf pd_1 rfl) rfl (by show 2 * 0 + _ ≤ _; exact Nat.le_of_eq rfl) (hb hby at_38) (fun _ _ => ⟨rfl, e1, (by decide : 0 + 0 ≤ _), (by decide : 0 + 0 ≤ _)⟩)
    dsimp only [Pt.U, Pt.locs, Pt.cells, Pt.slots] at X132 l132 y132 z132 st132 hQ132
    subst l132 y132 z132
    obtain ⟨⟨r133, rfl, Pr133⟩, Nq132, e132⟩ := hQ132
    have N132 := Fr.app N1 Nq132
    have pre134 : ∀ t, Steps p.tables e below (T132.setTop (mkF m 41 #[.val (.int p0), .val (.int (32 : Int32)), .val (.ref w_JITTER_41), .val (.int (0 : Int32))] [(.int r133)])) t → Steps p.tables e below (s₁.setTop (entryFrame m #[(.int p0)] maxLocals)) t := fun t kt => pre3 t (by
        show Steps p.tables e below (T1.setTop (mkF m 12 #[.val (.int p0), .val (.int (32 : Int32)), .unset, .unset] [(.ref w_JITTER_41)])) _
        refine XS.astoreN X1.here hx rfl (hb hby at_12) rfl rfl (l' := #[.val (.int p0), .val (.int (32 : Int32)), .val (.ref w_JITTER_41), .unset]) rfl ?_
        show Steps p.tables e below (T1.setTop (mkF m 13 #[.val (.int p0), .val (.int (32 : Int32)), .val (.ref w_JITTER_41), .unset] [])) _
        refine XS.iloadN X1.here hx rfl (hb hby at_13) rfl ?_
        show Steps p.tables e below (T1.setTop (mkF m 14 #[.val (.int p0), .val (.int (32 : Int32)), .val (.ref w_JITTER_41), .unset] [(.int (32 : Int32))])) _
        refine XS.bipush X1.here hx rfl (hb hby at_14) ?_
        show Steps p.tables e below (T1.setTop (mkF m 16 #[.val (.int p0), .val (.int (32 : Int32)), .val (.ref w_JITTER_41), .unset] [(.int (15 : Int32)), (.int (32 : Int32))])) _
        refine XS.icmpNo X1.here hx rfl (hb hby at_16) rfl (feq (by decide : ¬ ((32 : Int32) = (15 : Int32)))).1 ?_
        show Steps p.tables e below (T1.setTop (mkF m 19 #[.val (.int p0), .val (.int (32 : Int32)), .val (.ref w_JITTER_41), .unset] [])) _
        refine XS.iloadN X1.here hx rfl (hb hby at_19) rfl ?_
        show Steps p.tables e below (T1.setTop (mkF m 20 #[.val (.int p0), .val (.int (32 : Int32)), .val (.ref w_JITTER_41), .unset] [(.int (32 : Int32))])) _
        refine XS.bipush X1.here hx rfl (hb hby at_20) ?_
        show Steps p.tables e below (T1.setTop (mkF m 22 #[.val (.int p0), .val (.int (32 : Int32)), .val (.ref w_JITTER_41), .unset] [(.int (16 : Int32)), (.int (32 : Int32))])) _
        refine XS.icmpNo X1.here hx rfl (hb hby at_22) rfl (feq (by decide : ¬ ((32 : Int32) = (16 : Int32)))).1 ?_
        show Steps p.tables e below (T1.setTop (mkF m 25 #[.val (.int p0), .val (.int (32 : Int32)), .val (.ref w_JITTER_41), .unset] [])) _
        refine XS.iloadN X1.here hx rfl (hb hby at_25) rfl ?_
        show Steps p.tables e below (T1.setTop (mkF m 26 #[.val (.int p0), .val (.int (32 : Int32)), .val (.ref w_JITTER_41), .unset] [(.int (32 : Int32))])) _
        refine XS.bipush X1.here hx rfl (hb hby at_26) ?_
        show Steps p.tables e below (T1.setTop (mkF m 28 #[.val (.int p0), .val (.int (32 : Int32)), .val (.ref w_JITTER_41), .unset] [(.int (30 : Int32)), (.int (32 : Int32))])) _
        refine XS.icmpYes X1.here hx rfl (pc0 := 28) (pc' := 35) rfl (hb hby at_28) rfl (feq (by decide : ¬ ((32 : Int32) = (30 : Int32)))).2 (by decide) (by decide) ?_
        show Steps p.tables e below (T1.setTop (mkF m 35 #[.val (.int p0), .val (.int (32 : Int32)), .val (.ref w_JITTER_41), .unset] [])) _
        refine XS.iconst X1.here hx rfl (hb hby at_35) ?_
        show Steps p.tables e below (T1.setTop (mkF m 36 #[.val (.int p0), .val (.int (32 : Int32)), .val (.ref w_JITTER_41), .unset] [(.int (0 : Int32))])) _
        refine XS.istoreN X1.here hx rfl (hb hby at_36) rfl (l' := #[.val (.int p0), .val (.int (32 : Int32)), .val (.ref w_JITTER_41), .val (.int (0 : Int32))]) rfl ?_
        show Steps p.tables e below (T1.setTop (mkF m 37 #[.val (.int p0), .val (.int (32 : Int32)), .val (.ref w_JITTER_41), .val (.int (0 : Int32))] [])) _
        refine XS.aloadN X1.here hx rfl (hb hby at_37) rfl rfl ?_
        show Steps p.tables e below (T1.setTop (mkF m 38 #[.val (.int p0), .val (.int (32 : Int32)), .val (.ref w_JITTER_41), .val (.int (0 : Int32))] [(.ref w_JITTER_41)])) _
        refine st132.trans ?_
        exact kt)
    obtain rfl : (1 : Int32) = r133 := Pr133.2 nofun
    have pre135 : ∀ t, Steps p.tables e below (T132.setTop (mkF m 58 #[.val (.int p0), .val (.int (32 : Int32)), .val (.ref w_JITTER_41), .val (.int (0 : Int32))] [(.int (1 : Int32))])) t → Steps p.tables e below (s₁.setTop (entryFrame m #[(.int p0)] maxLocals)) t := fun t kt => pre134 t (by
        show Steps p.tables e below (T132.setTop (mkF m 41 #[.val (.int p0), .val (.int (32 : Int32)), .val (.ref w_JITTER_41), .val (.int (0 : Int32))] [(.int (1 : Int32))])) _
        refine XS.iloadN X132.here hx rfl (hb hby at_41) rfl ?_
        show Steps p.tables e below (T132.setTop (mkF m 42 #[.val (.int p0), .val (.int (32 : Int32)), .val (.ref w_JITTER_41), .val (.int (0 : Int32))] [(.int (0 : Int32)), (.int (1 : Int32))])) _
        refine XS.ifNo X132.here hx rfl (hb hby at_42) rfl ((if0 _ _).trans (teq (rfl : (0 : Int32) = (0 : Int32))).2) ?_
        show Steps p.tables e below (T132.setTop (mkF m 45 #[.val (.int p0), .val (.int (32 : Int32)), .val (.ref w_JITTER_41), .val (.int (0 : Int32))] [(.int (1 : Int32))])) _
        refine XS.iconst X132.here hx rfl (hb hby at_45) ?_
        show Steps p.tables e below (T132.setTop (mkF m 46 #[.val (.int p0), .val (.int (32 : Int32)), .val (.ref w_JITTER_41), .val (.int (0 : Int32))] [(.int (1 : Int32)), (.int (1 : Int32))])) _
        refine XS.goto X132.here hx rfl (pc0 := 46) (pc' := 50) rfl (hb hby at_46) (by decide) (by decide) ?_
        show Steps p.tables e below (T132.setTop (mkF m 50 #[.val (.int p0), .val (.int (32 : Int32)), .val (.ref w_JITTER_41), .val (.int (0 : Int32))] [(.int (1 : Int32)), (.int (1 : Int32))])) _
        refine XS.icmpNo X132.here hx rfl (hb hby at_50) rfl (teq (rfl : (1 : Int32) = (1 : Int32))).2 ?_
        show Steps p.tables e below (T132.setTop (mkF m 53 #[.val (.int p0), .val (.int (32 : Int32)), .val (.ref w_JITTER_41), .val (.int (0 : Int32))] [])) _
        refine XS.iconst X132.here hx rfl (hb hby at_53) ?_
        show Steps p.tables e below (T132.setTop (mkF m 54 #[.val (.int p0), .val (.int (32 : Int32)), .val (.ref w_JITTER_41), .val (.int (0 : Int32))] [(.int (1 : Int32))])) _
        refine XS.goto X132.here hx rfl (pc0 := 54) (pc' := 58) rfl (hb hby at_54) (by decide) (by decide) ?_
        exact kt)
    obtain ⟨fs, hr, hrun, hended, hW, hsame⟩ := X132.leave (v := some (.int (1 : Int32))) (fun h => by rw [Bd.returns] at h; cases h)
    refine ⟨_, _, pre135 _ ?_, hrun, hended, _, _, rfl, ?_, ⟨_, rfl⟩, hW, hsame.mono (by decide) (by decide)⟩
    · show Steps p.tables e below (T132.setTop (mkF m 58 #[.val (.int p0), .val (.int (32 : Int32)), .val (.ref w_JITTER_41), .val (.int (0 : Int32))] [(.int (1 : Int32))])) _
      exact retN X132 hx (t := .boolean) Bd.returns (by simp) (hb hby at_58) hr
    · show Q0 Z _ _ _ _ _ _ _ _ _ _ _ _ _ _ _ _ _ _ _ _ _ _ _ _ _ _ _ _ _ _ _ _ _ _ _ _ _ _ _ _ _ _ _ _ _ h0 n0 _ T132.heap _
      rw [e132]
      exact ⟨rfl, N132, rfl⟩
  · skip
    obtain ⟨cq136, kq136, q136a, q136b, q136c⟩ := isOf hZ e1 E_83
    obtain ⟨_, _, ⟨T136, L136, k136, n136⟩, -, X136, ⟨Lc136, hQ136, l136, y136, z136⟩, st136⟩ := X1.virtualBack hx (y := (⟨"com/example/token_handoff/tokenhandoff/cli/Option", "takesValue", "()Z"⟩ : MethodName)) (z := (⟨"com/example/token_handoff/tokenhandoff/cli/Option", "takesValue", "()Z"⟩ : MethodName)) hown (mvT hZ (hw _ (List.mem_of_getElem? (i := 8) rfl))) (mvT hZ (hw _ (List.mem_of_getElem? (i := 9) rfl))) (notFace_of_selects (args := #[]) (mvT hZ (hw _ (List.mem_of_getElem? (i := 11) rfl)))) (mvT hZ (hw _ (List.mem_of_getElem? (i := 11) rfl))) (mvT hZ (hw _ (List.mem_of_getElem? (i := 10) rfl))) (by decide) (backOf (W := 0) (rm2 l Z aw hw [] w_HANDOFFS_65 (.ref w_value_61) h0 n0 Z0 rfl F_value_84) hZ (hw _ (List.mem_of_getElem? (i := 12) rfl)) (hw _ (List.mem_of_getElem? (i := 6) rfl)) (by decide) (by decide)) q136a q136c (g := (mkF m 38 #[.val (.int p0), .val (.int (33 : Int32)), .val (.ref w_HANDOFFS_65), .val (.int (0 : Int32))] [(.ref w_HANDOFFS_65)])) rfl (by rw [hml]; rfl) (Steps.refl _) (argsL := []) (rest := []) (lenOf pd_1 rfl) rfl (by show 2 * 0 + _ ≤ _; exact Nat.le_of_eq rfl) (hb hby at_38) (fun _ _ => ⟨rfl, e1, (by decide : 0 + 0 ≤ _), (by decide : 0 + 0 ≤ _)⟩)
    dsimp only [Pt.U, Pt.locs, Pt.cells, Pt.slots] at X136 l136 y136 z136 st136 hQ136
    subst l136 y136 z136
    obtain ⟨⟨r137, rfl, Pr137⟩, Nq136, e136⟩ := hQ136
    have N136 := Fr.app N1 Nq136
    have pre138 : ∀ t, Steps p.tables e below (T136.setTop (mkF m 41 #[.val (.int p0), .val (.int (33 : Int32)), .val (.ref w_HANDOFFS_65), .val (.int (0 : Int32))] [(.int r137)])) t → Steps p.tables e below (s₁.setTop (entryFrame m #[(.int p0)] maxLocals)) t := fun t kt => pre3 t (by
        show Steps p.tables e below (T1.setTop (mkF m 12 #[.val (.int p0), .val (.int (33 : Int32)), .unset, .unset] [(.ref w_HANDOFFS_65)])) _
        refine XS.astoreN X1.here hx rfl (hb hby at_12) rfl rfl (l' := #[.val (.int p0), .val (.int (33 : Int32)), .val (.ref w_HANDOFFS_65), .unset]) rfl ?_
        show Steps p.tables e below (T1.setTop (mkF m 13 #[.val (.int p0), .val (.int (33 : Int32)), .val (.ref w_HANDOFFS_65), .unset] [])) _
        refine XS.iloadN X1.here hx rfl (hb hby at_13) rfl ?_
        show Steps p.tables e below (T1.setTop (mkF m 14 #[.val (.int p0), .val (.int (33 : Int32)), .val (.ref w_HANDOFFS_65), .unset] [(.int (33 : Int32))])) _
        refine XS.bipush X1.here hx rfl (hb hby at_14) ?_
        show Steps p.tables e below (T1.setTop (mkF m 16 #[.val (.int p0), .val (.int (33 : Int32)), .val (.ref w_HANDOFFS_65), .unset] [(.int (15 : Int32)), (.int (33 : Int32))])) _
        refine XS.icmpNo X1.here hx rfl (hb hby at_16) rfl (feq (by decide : ¬ ((33 : Int32) = (15 : Int32)))).1 ?_
        show Steps p.tables e below (T1.setTop (mkF m 19 #[.val (.int p0), .val (.int (33 : Int32)), .val (.ref w_HANDOFFS_65), .unset] [])) _
        refine XS.iloadN X1.here hx rfl (hb hby at_19) rfl ?_
        show Steps p.tables e below (T1.setTop (mkF m 20 #[.val (.int p0), .val (.int (33 : Int32)), .val (.ref w_HANDOFFS_65), .unset] [(.int (33 : Int32))])) _
        refine XS.bipush X1.here hx rfl (hb hby at_20) ?_
        show Steps p.tables e below (T1.setTop (mkF m 22 #[.val (.int p0), .val (.int (33 : Int32)), .val (.ref w_HANDOFFS_65), .unset] [(.int (16 : Int32)), (.int (33 : Int32))])) _
        refine XS.icmpNo X1.here hx rfl (hb hby at_22) rfl (feq (by decide : ¬ ((33 : Int32) = (16 : Int32)))).1 ?_
        show Steps p.tables e below (T1.setTop (mkF m 25 #[.val (.int p0), .val (.int (33 : Int32)), .val (.ref w_HANDOFFS_65), .unset] [])) _
        refine XS.iloadN X1.here hx rfl (hb hby at_25) rfl ?_
        show Steps p.tables e below (T1.setTop (mkF m 26 #[.val (.int p0), .val (.int (33 : Int32)), .val (.ref w_HANDOFFS_65), .unset] [(.int (33 : Int32))])) _
        refine XS.bipush X1.here hx rfl (hb hby at_26) ?_
        show Steps p.tables e below (T1.setTop (mkF m 28 #[.val (.int p0), .val (.int (33 : Int32)), .val (.ref w_HANDOFFS_65), .unset] [(.int (30 : Int32)), (.int (33 : Int32))])) _
        refine XS.icmpYes X1.here hx rfl (pc0 := 28) (pc' := 35) rfl (hb hby at_28) rfl (feq (by decide : ¬ ((33 : Int32) = (30 : Int32)))).2 (by decide) (by decide) ?_
        show Steps p.tables e below (T1.setTop (mkF m 35 #[.val (.int p0), .val (.int (33 : Int32)), .val (.ref w_HANDOFFS_65), .unset] [])) _
        refine XS.iconst X1.here hx rfl (hb hby at_35) ?_
        show Steps p.tables e below (T1.setTop (mkF m 36 #[.val (.int p0), .val (.int (33 : Int32)), .val (.ref w_HANDOFFS_65), .unset] [(.int (0 : Int32))])) _
        refine XS.istoreN X1.here hx rfl (hb hby at_36) rfl (l' := #[.val (.int p0), .val (.int (33 : Int32)), .val (.ref w_HANDOFFS_65), .val (.int (0 : Int32))]) rfl ?_
        show Steps p.tables e below (T1.setTop (mkF m 37 #[.val (.int p0), .val (.int (33 : Int32)), .val (.ref w_HANDOFFS_65), .val (.int (0 : Int32))] [])) _
        refine XS.aloadN X1.here hx rfl (hb hby at_37) rfl rfl ?_
        show Steps p.tables e below (T1.setTop (mkF m 38 #[.val (.int p0), .val (.int (33 : Int32)), .val (.ref w_HANDOFFS_65), .val (.int (0 : Int32))] [(.ref w_HANDOFFS_65)])) _
        refine st136.trans ?_
        exact kt)
    obtain rfl : (1 : Int32) = r137 := Pr137.2 nofun
    have pre139 : ∀ t, Steps p.tables e below (T136.setTop (mkF m 58 #[.val (.int p0), .val (.int (33 : Int32)), .val (.ref w_HANDOFFS_65), .val (.int (0 : Int32))] [(.int (1 : Int32))])) t → Steps p.tables e below (s₁.setTop (entryFrame m #[(.int p0)] maxLocals)) t := fun t kt => pre138 t (by
        show Steps p.tables e below (T136.setTop (mkF m 41 #[.val (.int p0), .val (.int (33 : Int32)), .val (.ref w_HANDOFFS_65), .val (.int (0 : Int32))] [(.int (1 : Int32))])) _
        refine XS.iloadN X136.here hx rfl (hb hby at_41) rfl ?_
        show Steps p.tables e below (T136.setTop (mkF m 42 #[.val (.int p0), .val (.int (33 : Int32)), .val (.ref w_HANDOFFS_65), .val (.int (0 : Int32))] [(.int (0 : Int32)), (.int (1 : Int32))])) _
        refine XS.ifNo X136.here hx rfl (hb hby at_42) rfl ((if0 _ _).trans (teq (rfl : (0 : Int32) = (0 : Int32))).2) ?_
        show Steps p.tables e below (T136.setTop (mkF m 45 #[.val (.int p0), .val (.int (33 : Int32)), .val (.ref w_HANDOFFS_65), .val (.int (0 : Int32))] [(.int (1 : Int32))])) _
        refine XS.iconst X136.here hx rfl (hb hby at_45) ?_
        show Steps p.tables e below (T136.setTop (mkF m 46 #[.val (.int p0), .val (.int (33 : Int32)), .val (.ref w_HANDOFFS_65), .val (.int (0 : Int32))] [(.int (1 : Int32)), (.int (1 : Int32))])) _
        refine XS.goto X136.here hx rfl (pc0 := 46) (pc' := 50) rfl (hb hby at_46) (by decide) (by decide) ?_
        show Steps p.tables e below (T136.setTop (mkF m 50 #[.val (.int p0), .val (.int (33 : Int32)), .val (.ref w_HANDOFFS_65), .val (.int (0 : Int32))] [(.int (1 : Int32)), (.int (1 : Int32))])) _
        refine XS.icmpNo X136.here hx rfl (hb hby at_50) rfl (teq (rfl : (1 : Int32) = (1 : Int32))).2 ?_
        show Steps p.tables e below (T136.setTop (mkF m 53 #[.val (.int p0), .val (.int (33 : Int32)), .val (.ref w_HANDOFFS_65), .val (.int (0 : Int32))] [])) _
        refine XS.iconst X136.here hx rfl (hb hby at_53) ?_
        show Steps p.tables e below (T136.setTop (mkF m 54 #[.val (.int p0), .val (.int (33 : Int32)), .val (.ref w_HANDOFFS_65), .val (.int (0 : Int32))] [(.int (1 : Int32))])) _
        refine XS.goto X136.here hx rfl (pc0 := 54) (pc' := 58) rfl (hb hby at_54) (by decide) (by decide) ?_
        exact kt)
    obtain ⟨fs, hr, hrun, hended, hW, hsame⟩ := X136.leave (v := some (.int (1 : Int32))) (fun h => by rw [Bd.returns] at h; cases h)
    refine ⟨_, _, pre139 _ ?_, hrun, hended, _, _, rfl, ?_, ⟨_, rfl⟩, hW, hsame.mono (by decide) (by decide)⟩
    · show Steps p.tables e below (T136.setTop (mkF m 58 #[.val (.int p0), .val (.int (33 : Int32)), .val (.ref w_HANDOFFS_65), .val (.int (0 : Int32))] [(.int (1 : Int32))])) _
      exact retN X136 hx (t := .boolean) Bd.returns (by simp) (hb hby at_58) hr
    · show Q0 Z _ _ _ _ _ _ _ _ _ _ _ _ _ _ _ _ _ _ _ _ _ _ _ _ _ _ _ _ _ _ _ _ _ _ _ _ _ _ _ _ _ _ _ _ _ h0 n0 _ T136.heap _
      rw [e136]
      exact ⟨rfl, N136, rfl⟩
set_option maxRecDepth 65536 in
set_option maxHeartbeats 40000000 in
theorem comes_1 {Post : Tables → Env → Array Value → State → Outcome → State → Prop} (hpost : ∀ tb e args s v u, (limb_1_1.after args s (.returned v) u = true ∧ limb_1_2.after args s (.returned v) u = true ∧ True) → FrameEnd s (.returned v) u (Jvm.fieldLocs frame_1_writes args s ++ Jvm.arrayLocs frame_1_arrays args s ++ Jvm.staticLocs frame_1_statics s) 0 0 → Post tb e args s (.returned v) u) :
    ArmFor flags0 classFile x code maxLocals ret World_1 tables_1 room_1 Calls_1 rest_1 Pre_1 Post := by
  intro l hfl _ _ p e ha hc hk s m args below hf hA hF happ hP
  obtain ⟨hcalls, hrest, hpre⟩ := hP
  obtain ⟨-, -, -, hnamed, -, -, -, hat⟩ := (Spec.applies_iff hf).mp happ
  obtain ⟨hg, hn⟩ := and_e (Cond.before_iff.mp (show (Jvm.Cond.and given_1 narrow_1).before args s = true from hpre))
  obtain ⟨hg0, hgr0⟩ := and_e hg
  obtain ⟨w0, rfl⟩ : ∃ w0 : Value, args = #[w0] := by
    have hs : args.size = 1 := by simpa [Cond.value, given_1] using hg0
    obtain ⟨L⟩ := args
    match L, hs with
    | [w0], _ => exact ⟨w0, rfl⟩
  have hw := fun d (hd : d ∈ tables_1) => atoms_spec (ws := Jvm.Cond.code x code maxLocals ret :: tables_1) hat d (List.mem_cons_of_mem _ hd)
  have hfit : Fit s := fun {y c} hc i hi => by
    obtain ⟨ha, rfl⟩ := Array.getElem?_eq_some_iff.mp hc
    have q := List.all_eq_true.mp ((Array.all_eq_true_iff_forall_mem.mp hF) _ (Array.getElem_mem ha)) i (List.mem_range.mpr hi)
    simpa [Array.getElem?_eq_getElem hi] using q
  obtain ⟨i0, ei0⟩ := is_v hgr0
  obtain rfl : w0 = (.int i0) := Option.some.inj ei0
  obtain ⟨hn0, hr0⟩ := and_e hn
  obtain ⟨hn1, hr1⟩ := and_e hr0
  obtain ⟨hn2, hr2⟩ := and_e hr1
  obtain ⟨hn3, hr3⟩ := and_e hr2
  obtain ⟨hn4, hr4⟩ := and_e hr3
  obtain ⟨hn5, hr5⟩ := and_e hr4
  obtain ⟨hn6, hr6⟩ := and_e hr5
  obtain ⟨hn7, hr7⟩ := and_e hr6
  obtain ⟨hn8, hr8⟩ := and_e hr7
  obtain ⟨hn9, hr9⟩ := and_e hr8
  obtain ⟨hn10, hr10⟩ := and_e hr9
  obtain ⟨hn11, hr11⟩ := and_e hr10
  obtain ⟨hn12, hr12⟩ := and_e hr11
  obtain ⟨hn13, hr13⟩ := and_e hr12
  obtain ⟨hn14, hr14⟩ := and_e hr13
  obtain ⟨hn15, hr15⟩ := and_e hr14
  obtain ⟨hn16, hr16⟩ := and_e hr15
  obtain ⟨hn17, hr17⟩ := and_e hr16
  obtain ⟨hn18, hr18⟩ := and_e hr17
  obtain ⟨hn19, hr19⟩ := and_e hr18
  obtain ⟨hn20, hr20⟩ := and_e hr19
  obtain ⟨hn21, hr21⟩ := and_e hr20
  obtain ⟨hn22, hr22⟩ := and_e hr21
  obtain ⟨hn23, hr23⟩ := and_e hr22
  obtain ⟨hn24, hr24⟩ := and_e hr23
  obtain ⟨hn25, hr25⟩ := and_e hr24
  obtain ⟨hn26, hr26⟩ := and_e hr25
  obtain ⟨hn27, hr27⟩ := and_e hr26
  obtain ⟨hn28, hr28⟩ := and_e hr27
  obtain ⟨hn29, hr29⟩ := and_e hr28
  obtain ⟨hn30, hr30⟩ := and_e hr29
  obtain ⟨hn31, hr31⟩ := and_e hr30
  obtain ⟨hn32, hr32⟩ := and_e hr31
  obtain ⟨hn33, hr33⟩ := and_e hr32
  obtain ⟨hn34, hr34⟩ := and_e hr33
  obtain ⟨hn35, hr35⟩ := and_e hr34
  obtain ⟨hn36, hr36⟩ := and_e hr35
  obtain ⟨hn37, hr37⟩ := and_e hr36
  obtain ⟨hn38, hr38⟩ := and_e hr37
  obtain ⟨hn39, hr39⟩ := and_e hr38
  obtain ⟨hn40, hr40⟩ := and_e hr39
  obtain ⟨hn41, hr41⟩ := and_e hr40
  obtain ⟨hn42, hr42⟩ := and_e hr41
  obtain ⟨hn43, hr43⟩ := and_e hr42
  obtain ⟨hn44, hr44⟩ := and_e hr43
  obtain ⟨hn45, hr45⟩ := and_e hr44
  obtain ⟨hn46, hr46⟩ := and_e hr45
  obtain ⟨hn47, hr47⟩ := and_e hr46
  obtain ⟨hn48, hr48⟩ := and_e hr47
  obtain ⟨hn49, hr49⟩ := and_e hr48
  obtain ⟨hn50, hr50⟩ := and_e hr49
  obtain ⟨hn51, hr51⟩ := and_e hr50
  obtain ⟨hn52, hr52⟩ := and_e hr51
  obtain ⟨hn53, hr53⟩ := and_e hr52
  obtain ⟨hn54, hr54⟩ := and_e hr53
  obtain ⟨hn55, hr55⟩ := and_e hr54
  obtain ⟨hn56, hr56⟩ := and_e hr55
  obtain ⟨hn57, hr57⟩ := and_e hr56
  obtain ⟨hn58, hr58⟩ := and_e hr57
  obtain ⟨hn59, hr59⟩ := and_e hr58
  obtain ⟨hn60, hr60⟩ := and_e hr59
  obtain ⟨hn61, hr61⟩ := and_e hr60
  obtain ⟨hn62, hr62⟩ := and_e hr61
  obtain ⟨hn63, hr63⟩ := and_e hr62
  obtain ⟨hn64, hr64⟩ := and_e hr63
  obtain ⟨hn65, hr65⟩ := and_e hr64
  obtain ⟨hn66, hr66⟩ := and_e hr65
  obtain ⟨w_KEY_1, ev2⟩ := exa_v hn0
  have S_KEY_0 : Sta s s.heap "com/example/token_handoff/tokenhandoff/cli/Option" "KEY" "Lcom/example/token_handoff/tokenhandoff/cli/Option;" (.ref w_KEY_1) := Sta.start ev2 (Or.inr ⟨(hw _ (List.mem_of_getElem? (i := 6) rfl)), (hw _ (List.mem_of_getElem? (i := 7) rfl))⟩)
  have E_1 : Exa s s.heap w_KEY_1 "com/example/token_handoff/tokenhandoff/cli/Option" := Exa.start ev2 hn0
  obtain ⟨w_value_3, ev4⟩ := exa_v hn1
  have F_value_2 : Fld s s.heap w_KEY_1 "com/example/token_handoff/tokenhandoff/cli/Option" "value" "Ljava/lang/String;" (.ref w_value_3) := Fld.start ((fld_at ev2).symm.trans ev4)
  have E_3 : Exa s s.heap w_value_3 "java/lang/String" := Exa.start ev4 hn1
  obtain ⟨w_KNOWN_5, ev6⟩ := exa_v hn2
  have S_KNOWN_4 : Sta s s.heap "com/example/token_handoff/tokenhandoff/cli/Option" "KNOWN" "Lcom/example/token_handoff/tokenhandoff/cli/Option;" (.ref w_KNOWN_5) := Sta.start ev6 (Or.inr ⟨(hw _ (List.mem_of_getElem? (i := 6) rfl)), (hw _ (List.mem_of_getElem? (i := 16) rfl))⟩)
  have E_5 : Exa s s.heap w_KNOWN_5 "com/example/token_handoff/tokenhandoff/cli/Option" := Exa.start ev6 hn2
  have F_value_6 : Fld s s.heap w_KNOWN_5 "com/example/token_handoff/tokenhandoff/cli/Option" "value" "Ljava/lang/String;" (.ref w_value_3) := Fld.start ((fld_at ev6).symm.trans (own_eqR hn3 ev4))
  obtain ⟨w_COMMIT_RETRIES_7, ev8⟩ := exa_v hn4
  have S_COMMIT_RETRIES_7 : Sta s s.heap "com/example/token_handoff/tokenhandoff/cli/Option" "COMMIT_RETRIES" "Lcom/example/token_handoff/tokenhandoff/cli/Option;" (.ref w_COMMIT_RETRIES_7) := Sta.start ev8 (Or.inr ⟨(hw _ (List.mem_of_getElem? (i := 6) rfl)), (hw _ (List.mem_of_getElem? (i := 18) rfl))⟩)
  have E_8 : Exa s s.heap w_COMMIT_RETRIES_7 "com/example/token_handoff/tokenhandoff/cli/Option" := Exa.start ev8 hn4
  obtain ⟨w_value_9, ev10⟩ := exa_v hn5
  have F_value_9 : Fld s s.heap w_COMMIT_RETRIES_7 "com/example/token_handoff/tokenhandoff/cli/Option" "value" "Ljava/lang/String;" (.ref w_value_9) := Fld.start ((fld_at ev8).symm.trans ev10)
  have E_10 : Exa s s.heap w_value_9 "java/lang/String" := Exa.start ev10 hn5
  obtain ⟨w_SATURATION_11, ev12⟩ := exa_v hn6
  have S_SATURATION_11 : Sta s s.heap "com/example/token_handoff/tokenhandoff/cli/Option" "SATURATION" "Lcom/example/token_handoff/tokenhandoff/cli/Option;" (.ref w_SATURATION_11) := Sta.start ev12 (Or.inr ⟨(hw _ (List.mem_of_getElem? (i := 6) rfl)), (hw _ (List.mem_of_getElem? (i := 20) rfl))⟩)
  have E_12 : Exa s s.heap w_SATURATION_11 "com/example/token_handoff/tokenhandoff/cli/Option" := Exa.start ev12 hn6
  have F_value_13 : Fld s s.heap w_SATURATION_11 "com/example/token_handoff/tokenhandoff/cli/Option" "value" "Ljava/lang/String;" (.ref w_value_9) := Fld.start ((fld_at ev12).symm.trans (own_eqR hn7 ev10))
  obtain ⟨w_DROP_13, ev14⟩ := exa_v hn8
  have S_DROP_14 : Sta s s.heap "com/example/token_handoff/tokenhandoff/cli/Option" "DROP" "Lcom/example/token_handoff/tokenhandoff/cli/Option;" (.ref w_DROP_13) := Sta.start ev14 (Or.inr ⟨(hw _ (List.mem_of_getElem? (i := 6) rfl)), (hw _ (List.mem_of_getElem? (i := 22) rfl))⟩)
  have E_15 : Exa s s.heap w_DROP_13 "com/example/token_handoff/tokenhandoff/cli/Option" := Exa.start ev14 hn8
  obtain ⟨w_value_15, ev16⟩ := exa_v hn9
  have F_value_16 : Fld s s.heap w_DROP_13 "com/example/token_handoff/tokenhandoff/cli/Option" "value" "Ljava/lang/String;" (.ref w_value_15) := Fld.start ((fld_at ev14).symm.trans ev16)
  have E_17 : Exa s s.heap w_value_15 "java/lang/String" := Exa.start ev16 hn9
  obtain ⟨w_MOVE_RETRIES_17, ev18⟩ := exa_v hn10
  have S_MOVE_RETRIES_18 : Sta s s.heap "com/example/token_handoff/tokenhandoff/cli/Option" "MOVE_RETRIES" "Lcom/example/token_handoff/tokenhandoff/cli/Option;" (.ref w_MOVE_RETRIES_17) := Sta.start ev18 (Or.inr ⟨(hw _ (List.mem_of_getElem? (i := 6) rfl)), (hw _ (List.mem_of_getElem? (i := 24) rfl))⟩)
  have E_19 : Exa s s.heap w_MOVE_RETRIES_17 "com/example/token_handoff/tokenhandoff/cli/Option" := Exa.start ev18 hn10
  have F_value_20 : Fld s s.heap w_MOVE_RETRIES_17 "com/example/token_handoff/tokenhandoff/cli/Option" "value" "Ljava/lang/String;" (.ref w_value_9) := Fld.start ((fld_at ev18).symm.trans (own_eqR hn11 ev10))
  obtain ⟨w_ACK_RETRIES_19, ev20⟩ := exa_v hn12
  have S_ACK_RETRIES_21 : Sta s s.heap "com/example/token_handoff/tokenhandoff/cli/Option" "ACK_RETRIES" "Lcom/example/token_handoff/tokenhandoff/cli/Option;" (.ref w_ACK_RETRIES_19) := Sta.start ev20 (Or.inr ⟨(hw _ (List.mem_of_getElem? (i := 6) rfl)), (hw _ (List.mem_of_getElem? (i := 26) rfl))⟩)
  have E_22 : Exa s s.heap w_ACK_RETRIES_19 "com/example/token_handoff/tokenhandoff/cli/Option" := Exa.start ev20 hn12
  have F_value_23 : Fld s s.heap w_ACK_RETRIES_19 "com/example/token_handoff/tokenhandoff/cli/Option" "value" "Ljava/lang/String;" (.ref w_value_9) := Fld.start ((fld_at ev20).symm.trans (own_eqR hn13 ev10))
  obtain ⟨w_CA_21, ev22⟩ := exa_v hn14
  have S_CA_24 : Sta s s.heap "com/example/token_handoff/tokenhandoff/cli/Option" "CA" "Lcom/example/token_handoff/tokenhandoff/cli/Option;" (.ref w_CA_21) := Sta.start ev22 (Or.inr ⟨(hw _ (List.mem_of_getElem? (i := 6) rfl)), (hw _ (List.mem_of_getElem? (i := 28) rfl))⟩)
  have E_25 : Exa s s.heap w_CA_21 "com/example/token_handoff/tokenhandoff/cli/Option" := Exa.start ev22 hn14
  have F_value_26 : Fld s s.heap w_CA_21 "com/example/token_handoff/tokenhandoff/cli/Option" "value" "Ljava/lang/String;" (.ref w_value_3) := Fld.start ((fld_at ev22).symm.trans (own_eqR hn15 ev4))
  obtain ⟨w_SEED_23, ev24⟩ := exa_v hn16
  have S_SEED_27 : Sta s s.heap "com/example/token_handoff/tokenhandoff/cli/Option" "SEED" "Lcom/example/token_handoff/tokenhandoff/cli/Option;" (.ref w_SEED_23) := Sta.start ev24 (Or.inr ⟨(hw _ (List.mem_of_getElem? (i := 6) rfl)), (hw _ (List.mem_of_getElem? (i := 30) rfl))⟩)
  have E_28 : Exa s s.heap w_SEED_23 "com/example/token_handoff/tokenhandoff/cli/Option" := Exa.start ev24 hn16
  obtain ⟨w_value_25, ev26⟩ := exa_v hn17
  have F_value_29 : Fld s s.heap w_SEED_23 "com/example/token_handoff/tokenhandoff/cli/Option" "value" "Ljava/lang/String;" (.ref w_value_25) := Fld.start ((fld_at ev24).symm.trans ev26)
  have E_30 : Exa s s.heap w_value_25 "java/lang/String" := Exa.start ev26 hn17
  obtain ⟨w_CERT_27, ev28⟩ := exa_v hn18
  have S_CERT_31 : Sta s s.heap "com/example/token_handoff/tokenhandoff/cli/Option" "CERT" "Lcom/example/token_handoff/tokenhandoff/cli/Option;" (.ref w_CERT_27) := Sta.start ev28 (Or.inr ⟨(hw _ (List.mem_of_getElem? (i := 6) rfl)), (hw _ (List.mem_of_getElem? (i := 32) rfl))⟩)
  have E_32 : Exa s s.heap w_CERT_27 "com/example/token_handoff/tokenhandoff/cli/Option" := Exa.start ev28 hn18
  have F_value_33 : Fld s s.heap w_CERT_27 "com/example/token_handoff/tokenhandoff/cli/Option" "value" "Ljava/lang/String;" (.ref w_value_3) := Fld.start ((fld_at ev28).symm.trans (own_eqR hn19 ev4))
  obtain ⟨w_PEER_29, ev30⟩ := exa_v hn20
  have S_PEER_34 : Sta s s.heap "com/example/token_handoff/tokenhandoff/cli/Option" "PEER" "Lcom/example/token_handoff/tokenhandoff/cli/Option;" (.ref w_PEER_29) := Sta.start ev30 (Or.inr ⟨(hw _ (List.mem_of_getElem? (i := 6) rfl)), (hw _ (List.mem_of_getElem? (i := 34) rfl))⟩)
  have E_35 : Exa s s.heap w_PEER_29 "com/example/token_handoff/tokenhandoff/cli/Option" := Exa.start ev30 hn20
  obtain ⟨w_value_31, ev32⟩ := exa_v hn21
  have F_value_36 : Fld s s.heap w_PEER_29 "com/example/token_handoff/tokenhandoff/cli/Option" "value" "Ljava/lang/String;" (.ref w_value_31) := Fld.start ((fld_at ev30).symm.trans ev32)
  have E_37 : Exa s s.heap w_value_31 "java/lang/String" := Exa.start ev32 hn21
  obtain ⟨w_OP_MS_33, ev34⟩ := exa_v hn22
  have S_OP_MS_38 : Sta s s.heap "com/example/token_handoff/tokenhandoff/cli/Option" "OP_MS" "Lcom/example/token_handoff/tokenhandoff/cli/Option;" (.ref w_OP_MS_33) := Sta.start ev34 (Or.inr ⟨(hw _ (List.mem_of_getElem? (i := 6) rfl)), (hw _ (List.mem_of_getElem? (i := 36) rfl))⟩)
  have E_39 : Exa s s.heap w_OP_MS_33 "com/example/token_handoff/tokenhandoff/cli/Option" := Exa.start ev34 hn22
  have F_value_40 : Fld s s.heap w_OP_MS_33 "com/example/token_handoff/tokenhandoff/cli/Option" "value" "Ljava/lang/String;" (.ref w_value_9) := Fld.start ((fld_at ev34).symm.trans (own_eqR hn23 ev10))
  obtain ⟨w_LISTEN_35, ev36⟩ := exa_v hn24
  have S_LISTEN_41 : Sta s s.heap "com/example/token_handoff/tokenhandoff/cli/Option" "LISTEN" "Lcom/example/token_handoff/tokenhandoff/cli/Option;" (.ref w_LISTEN_35) := Sta.start ev36 (Or.inr ⟨(hw _ (List.mem_of_getElem? (i := 6) rfl)), (hw _ (List.mem_of_getElem? (i := 38) rfl))⟩)
  have E_42 : Exa s s.heap w_LISTEN_35 "com/example/token_handoff/tokenhandoff/cli/Option" := Exa.start ev36 hn24
  have F_value_43 : Fld s s.heap w_LISTEN_35 "com/example/token_handoff/tokenhandoff/cli/Option" "value" "Ljava/lang/String;" (.ref w_value_31) := Fld.start ((fld_at ev36).symm.trans (own_eqR hn25 ev32))
  obtain ⟨w_DELAY_MS_37, ev38⟩ := exa_v hn26
  have S_DELAY_MS_44 : Sta s s.heap "com/example/token_handoff/tokenhandoff/cli/Option" "DELAY_MS" "Lcom/example/token_handoff/tokenhandoff/cli/Option;" (.ref w_DELAY_MS_37) := Sta.start ev38 (Or.inr ⟨(hw _ (List.mem_of_getElem? (i := 6) rfl)), (hw _ (List.mem_of_getElem? (i := 40) rfl))⟩)
  have E_45 : Exa s s.heap w_DELAY_MS_37 "com/example/token_handoff/tokenhandoff/cli/Option" := Exa.start ev38 hn26
  have F_value_46 : Fld s s.heap w_DELAY_MS_37 "com/example/token_handoff/tokenhandoff/cli/Option" "value" "Ljava/lang/String;" (.ref w_value_9) := Fld.start ((fld_at ev38).symm.trans (own_eqR hn27 ev10))
  obtain ⟨w_CIRCULATE_39, ev40⟩ := exa_v hn28
  have S_CIRCULATE_47 : Sta s s.heap "com/example/token_handoff/tokenhandoff/cli/Option" "CIRCULATE" "Lcom/example/token_handoff/tokenhandoff/cli/Option;" (.ref w_CIRCULATE_39) := Sta.start ev40 (Or.inr ⟨(hw _ (List.mem_of_getElem? (i := 6) rfl)), (hw _ (List.mem_of_getElem? (i := 42) rfl))⟩)
  have E_48 : Exa s s.heap w_CIRCULATE_39 "com/example/token_handoff/tokenhandoff/cli/Option" := Exa.start ev40 hn28
  have F_value_49 : Fld s s.heap w_CIRCULATE_39 "com/example/token_handoff/tokenhandoff/cli/Option" "value" "Ljava/lang/String;" .null := Fld.start ((fld_at ev40).symm.trans (null_v hn29))
  obtain ⟨w_JITTER_41, ev42⟩ := exa_v hn30
  have S_JITTER_50 : Sta s s.heap "com/example/token_handoff/tokenhandoff/cli/Option" "JITTER" "Lcom/example/token_handoff/tokenhandoff/cli/Option;" (.ref w_JITTER_41) := Sta.start ev42 (Or.inr ⟨(hw _ (List.mem_of_getElem? (i := 6) rfl)), (hw _ (List.mem_of_getElem? (i := 44) rfl))⟩)
  have E_51 : Exa s s.heap w_JITTER_41 "com/example/token_handoff/tokenhandoff/cli/Option" := Exa.start ev42 hn30
  obtain ⟨w_value_43, ev44⟩ := exa_v hn31
  have F_value_52 : Fld s s.heap w_JITTER_41 "com/example/token_handoff/tokenhandoff/cli/Option" "value" "Ljava/lang/String;" (.ref w_value_43) := Fld.start ((fld_at ev42).symm.trans ev44)
  have E_53 : Exa s s.heap w_value_43 "java/lang/String" := Exa.start ev44 hn31
  obtain ⟨w_DURATION_45, ev46⟩ := exa_v hn32
  have S_DURATION_54 : Sta s s.heap "com/example/token_handoff/tokenhandoff/cli/Option" "DURATION" "Lcom/example/token_handoff/tokenhandoff/cli/Option;" (.ref w_DURATION_45) := Sta.start ev46 (Or.inr ⟨(hw _ (List.mem_of_getElem? (i := 6) rfl)), (hw _ (List.mem_of_getElem? (i := 46) rfl))⟩)
  have E_55 : Exa s s.heap w_DURATION_45 "com/example/token_handoff/tokenhandoff/cli/Option" := Exa.start ev46 hn32
  have F_value_56 : Fld s s.heap w_DURATION_45 "com/example/token_handoff/tokenhandoff/cli/Option" "value" "Ljava/lang/String;" (.ref w_value_43) := Fld.start ((fld_at ev46).symm.trans (own_eqR hn33 ev44))
  obtain ⟨w_SKIP_MS_47, ev48⟩ := exa_v hn34
  have S_SKIP_MS_57 : Sta s s.heap "com/example/token_handoff/tokenhandoff/cli/Option" "SKIP_MS" "Lcom/example/token_handoff/tokenhandoff/cli/Option;" (.ref w_SKIP_MS_47) := Sta.start ev48 (Or.inr ⟨(hw _ (List.mem_of_getElem? (i := 6) rfl)), (hw _ (List.mem_of_getElem? (i := 48) rfl))⟩)
  have E_58 : Exa s s.heap w_SKIP_MS_47 "com/example/token_handoff/tokenhandoff/cli/Option" := Exa.start ev48 hn34
  have F_value_59 : Fld s s.heap w_SKIP_MS_47 "com/example/token_handoff/tokenhandoff/cli/Option" "value" "Ljava/lang/String;" (.ref w_value_9) := Fld.start ((fld_at ev48).symm.trans (own_eqR hn35 ev10))
  obtain ⟨w_PASS_ON_49, ev50⟩ := exa_v hn36
  have S_PASS_ON_60 : Sta s s.heap "com/example/token_handoff/tokenhandoff/cli/Option" "PASS_ON" "Lcom/example/token_handoff/tokenhandoff/cli/Option;" (.ref w_PASS_ON_49) := Sta.start ev50 (Or.inr ⟨(hw _ (List.mem_of_getElem? (i := 6) rfl)), (hw _ (List.mem_of_getElem? (i := 50) rfl))⟩)
  have E_61 : Exa s s.heap w_PASS_ON_49 "com/example/token_handoff/tokenhandoff/cli/Option" := Exa.start ev50 hn36
  have F_value_62 : Fld s s.heap w_PASS_ON_49 "com/example/token_handoff/tokenhandoff/cli/Option" "value" "Ljava/lang/String;" .null := Fld.start ((fld_at ev50).symm.trans (null_v hn37))
  obtain ⟨w_ATTEMPTS_51, ev52⟩ := exa_v hn38
  have S_ATTEMPTS_63 : Sta s s.heap "com/example/token_handoff/tokenhandoff/cli/Option" "ATTEMPTS" "Lcom/example/token_handoff/tokenhandoff/cli/Option;" (.ref w_ATTEMPTS_51) := Sta.start ev52 (Or.inr ⟨(hw _ (List.mem_of_getElem? (i := 6) rfl)), (hw _ (List.mem_of_getElem? (i := 52) rfl))⟩)
  have E_64 : Exa s s.heap w_ATTEMPTS_51 "com/example/token_handoff/tokenhandoff/cli/Option" := Exa.start ev52 hn38
  have F_value_65 : Fld s s.heap w_ATTEMPTS_51 "com/example/token_handoff/tokenhandoff/cli/Option" "value" "Ljava/lang/String;" (.ref w_value_9) := Fld.start ((fld_at ev52).symm.trans (own_eqR hn39 ev10))
  obtain ⟨w_TO_53, ev54⟩ := exa_v hn40
  have S_TO_66 : Sta s s.heap "com/example/token_handoff/tokenhandoff/cli/Option" "TO" "Lcom/example/token_handoff/tokenhandoff/cli/Option;" (.ref w_TO_53) := Sta.start ev54 (Or.inr ⟨(hw _ (List.mem_of_getElem? (i := 6) rfl)), (hw _ (List.mem_of_getElem? (i := 54) rfl))⟩)
  have E_67 : Exa s s.heap w_TO_53 "com/example/token_handoff/tokenhandoff/cli/Option" := Exa.start ev54 hn40
  have F_value_68 : Fld s s.heap w_TO_53 "com/example/token_handoff/tokenhandoff/cli/Option" "value" "Ljava/lang/String;" (.ref w_value_31) := Fld.start ((fld_at ev54).symm.trans (own_eqR hn41 ev32))
  obtain ⟨w_STOP_AT_55, ev56⟩ := exa_v hn42
  have S_STOP_AT_69 : Sta s s.heap "com/example/token_handoff/tokenhandoff/cli/Option" "STOP_AT" "Lcom/example/token_handoff/tokenhandoff/cli/Option;" (.ref w_STOP_AT_55) := Sta.start ev56 (Or.inr ⟨(hw _ (List.mem_of_getElem? (i := 6) rfl)), (hw _ (List.mem_of_getElem? (i := 56) rfl))⟩)
  have E_70 : Exa s s.heap w_STOP_AT_55 "com/example/token_handoff/tokenhandoff/cli/Option" := Exa.start ev56 hn42
  have F_value_71 : Fld s s.heap w_STOP_AT_55 "com/example/token_handoff/tokenhandoff/cli/Option" "value" "Ljava/lang/String;" (.ref w_value_9) := Fld.start ((fld_at ev56).symm.trans (own_eqR hn43 ev10))
  obtain ⟨w_TIMEOUT_MS_57, ev58⟩ := exa_v hn44
  have S_TIMEOUT_MS_72 : Sta s s.heap "com/example/token_handoff/tokenhandoff/cli/Option" "TIMEOUT_MS" "Lcom/example/token_handoff/tokenhandoff/cli/Option;" (.ref w_TIMEOUT_MS_57) := Sta.start ev58 (Or.inr ⟨(hw _ (List.mem_of_getElem? (i := 6) rfl)), (hw _ (List.mem_of_getElem? (i := 58) rfl))⟩)
  have E_73 : Exa s s.heap w_TIMEOUT_MS_57 "com/example/token_handoff/tokenhandoff/cli/Option" := Exa.start ev58 hn44
  have F_value_74 : Fld s s.heap w_TIMEOUT_MS_57 "com/example/token_handoff/tokenhandoff/cli/Option" "value" "Ljava/lang/String;" (.ref w_value_9) := Fld.start ((fld_at ev58).symm.trans (own_eqR hn45 ev10))
  obtain ⟨w_CANDIDATES_59, ev60⟩ := exa_v hn46
  have S_CANDIDATES_75 : Sta s s.heap "com/example/token_handoff/tokenhandoff/cli/Option" "CANDIDATES" "Lcom/example/token_handoff/tokenhandoff/cli/Option;" (.ref w_CANDIDATES_59) := Sta.start ev60 (Or.inr ⟨(hw _ (List.mem_of_getElem? (i := 6) rfl)), (hw _ (List.mem_of_getElem? (i := 60) rfl))⟩)
  have E_76 : Exa s s.heap w_CANDIDATES_59 "com/example/token_handoff/tokenhandoff/cli/Option" := Exa.start ev60 hn46
  obtain ⟨w_value_61, ev62⟩ := exa_v hn47
  have F_value_77 : Fld s s.heap w_CANDIDATES_59 "com/example/token_handoff/tokenhandoff/cli/Option" "value" "Ljava/lang/String;" (.ref w_value_61) := Fld.start ((fld_at ev60).symm.trans ev62)
  have E_78 : Exa s s.heap w_value_61 "java/lang/String" := Exa.start ev62 hn47
  obtain ⟨w_TRACE_63, ev64⟩ := exa_v hn48
  have S_TRACE_79 : Sta s s.heap "com/example/token_handoff/tokenhandoff/cli/Option" "TRACE" "Lcom/example/token_handoff/tokenhandoff/cli/Option;" (.ref w_TRACE_63) := Sta.start ev64 (Or.inr ⟨(hw _ (List.mem_of_getElem? (i := 6) rfl)), (hw _ (List.mem_of_getElem? (i := 62) rfl))⟩)
  have E_80 : Exa s s.heap w_TRACE_63 "com/example/token_handoff/tokenhandoff/cli/Option" := Exa.start ev64 hn48
  have F_value_81 : Fld s s.heap w_TRACE_63 "com/example/token_handoff/tokenhandoff/cli/Option" "value" "Ljava/lang/String;" (.ref w_value_3) := Fld.start ((fld_at ev64).symm.trans (own_eqR hn49 ev4))
  obtain ⟨w_HANDOFFS_65, ev66⟩ := exa_v hn50
  have S_HANDOFFS_82 : Sta s s.heap "com/example/token_handoff/tokenhandoff/cli/Option" "HANDOFFS" "Lcom/example/token_handoff/tokenhandoff/cli/Option;" (.ref w_HANDOFFS_65) := Sta.start ev66 (Or.inr ⟨(hw _ (List.mem_of_getElem? (i := 6) rfl)), (hw _ (List.mem_of_getElem? (i := 64) rfl))⟩)
  have E_83 : Exa s s.heap w_HANDOFFS_65 "com/example/token_handoff/tokenhandoff/cli/Option" := Exa.start ev66 hn50
  have F_value_84 : Fld s s.heap w_HANDOFFS_65 "com/example/token_handoff/tokenhandoff/cli/Option" "value" "Ljava/lang/String;" (.ref w_value_61) := Fld.start ((fld_at ev66).symm.trans (own_eqR hn51 ev62))
  obtain ⟨w_RUN_67, ev68⟩ := exa_v hn52
  have S_RUN_85 : Sta s s.heap "com/example/token_handoff/tokenhandoff/cli/Option" "RUN" "Lcom/example/token_handoff/tokenhandoff/cli/Option;" (.ref w_RUN_67) := Sta.start ev68 (Or.inr ⟨(hw _ (List.mem_of_getElem? (i := 6) rfl)), (hw _ (List.mem_of_getElem? (i := 66) rfl))⟩)
  have E_86 : Exa s s.heap w_RUN_67 "com/example/token_handoff/tokenhandoff/cli/Option" := Exa.start ev68 hn52
  obtain ⟨w_value_69, ev70⟩ := exa_v hn53
  have F_value_87 : Fld s s.heap w_RUN_67 "com/example/token_handoff/tokenhandoff/cli/Option" "value" "Ljava/lang/String;" (.ref w_value_69) := Fld.start ((fld_at ev68).symm.trans ev70)
  have E_88 : Exa s s.heap w_value_69 "java/lang/String" := Exa.start ev70 hn53
  obtain ⟨w_MEMBERS_71, ev72⟩ := exa_v hn54
  have S_MEMBERS_89 : Sta s s.heap "com/example/token_handoff/tokenhandoff/cli/Option" "MEMBERS" "Lcom/example/token_handoff/tokenhandoff/cli/Option;" (.ref w_MEMBERS_71) := Sta.start ev72 (Or.inr ⟨(hw _ (List.mem_of_getElem? (i := 6) rfl)), (hw _ (List.mem_of_getElem? (i := 68) rfl))⟩)
  have E_90 : Exa s s.heap w_MEMBERS_71 "com/example/token_handoff/tokenhandoff/cli/Option" := Exa.start ev72 hn54
  obtain ⟨w_value_73, ev74⟩ := exa_v hn55
  have F_value_91 : Fld s s.heap w_MEMBERS_71 "com/example/token_handoff/tokenhandoff/cli/Option" "value" "Ljava/lang/String;" (.ref w_value_73) := Fld.start ((fld_at ev72).symm.trans ev74)
  have E_92 : Exa s s.heap w_value_73 "java/lang/String" := Exa.start ev74 hn55
  obtain ⟨w_UNCOORDINATED_75, ev76⟩ := exa_v hn56
  have S_UNCOORDINATED_93 : Sta s s.heap "com/example/token_handoff/tokenhandoff/cli/Option" "UNCOORDINATED" "Lcom/example/token_handoff/tokenhandoff/cli/Option;" (.ref w_UNCOORDINATED_75) := Sta.start ev76 (Or.inr ⟨(hw _ (List.mem_of_getElem? (i := 6) rfl)), (hw _ (List.mem_of_getElem? (i := 70) rfl))⟩)
  have E_94 : Exa s s.heap w_UNCOORDINATED_75 "com/example/token_handoff/tokenhandoff/cli/Option" := Exa.start ev76 hn56
  have F_value_95 : Fld s s.heap w_UNCOORDINATED_75 "com/example/token_handoff/tokenhandoff/cli/Option" "value" "Ljava/lang/String;" .null := Fld.start ((fld_at ev76).symm.trans (null_v hn57))
  obtain ⟨w_SKIP_77, ev78⟩ := exa_v hn58
  have S_SKIP_96 : Sta s s.heap "com/example/token_handoff/tokenhandoff/cli/Option" "SKIP" "Lcom/example/token_handoff/tokenhandoff/cli/Option;" (.ref w_SKIP_77) := Sta.start ev78 (Or.inr ⟨(hw _ (List.mem_of_getElem? (i := 6) rfl)), (hw _ (List.mem_of_getElem? (i := 72) rfl))⟩)
  have E_97 : Exa s s.heap w_SKIP_77 "com/example/token_handoff/tokenhandoff/cli/Option" := Exa.start ev78 hn58
  have F_value_98 : Fld s s.heap w_SKIP_77 "com/example/token_handoff/tokenhandoff/cli/Option" "value" "Ljava/lang/String;" (.ref w_value_43) := Fld.start ((fld_at ev78).symm.trans (own_eqR hn59 ev44))
  obtain ⟨w_REGENERATE_79, ev80⟩ := exa_v hn60
  have S_REGENERATE_99 : Sta s s.heap "com/example/token_handoff/tokenhandoff/cli/Option" "REGENERATE" "Lcom/example/token_handoff/tokenhandoff/cli/Option;" (.ref w_REGENERATE_79) := Sta.start ev80 (Or.inr ⟨(hw _ (List.mem_of_getElem? (i := 6) rfl)), (hw _ (List.mem_of_getElem? (i := 74) rfl))⟩)
  have E_100 : Exa s s.heap w_REGENERATE_79 "com/example/token_handoff/tokenhandoff/cli/Option" := Exa.start ev80 hn60
  obtain ⟨w_value_81, ev82⟩ := exa_v hn61
  have F_value_101 : Fld s s.heap w_REGENERATE_79 "com/example/token_handoff/tokenhandoff/cli/Option" "value" "Ljava/lang/String;" (.ref w_value_81) := Fld.start ((fld_at ev80).symm.trans ev82)
  have E_102 : Exa s s.heap w_value_81 "java/lang/String" := Exa.start ev82 hn61
  obtain ⟨w_INTERVAL_83, ev84⟩ := exa_v hn62
  have S_INTERVAL_103 : Sta s s.heap "com/example/token_handoff/tokenhandoff/cli/Option" "INTERVAL" "Lcom/example/token_handoff/tokenhandoff/cli/Option;" (.ref w_INTERVAL_83) := Sta.start ev84 (Or.inr ⟨(hw _ (List.mem_of_getElem? (i := 6) rfl)), (hw _ (List.mem_of_getElem? (i := 76) rfl))⟩)
  have E_104 : Exa s s.heap w_INTERVAL_83 "com/example/token_handoff/tokenhandoff/cli/Option" := Exa.start ev84 hn62
  have F_value_105 : Fld s s.heap w_INTERVAL_83 "com/example/token_handoff/tokenhandoff/cli/Option" "value" "Ljava/lang/String;" (.ref w_value_43) := Fld.start ((fld_at ev84).symm.trans (own_eqR hn63 ev44))
  obtain ⟨w_LOSS_EVERY_85, ev86⟩ := exa_v hn64
  have S_LOSS_EVERY_106 : Sta s s.heap "com/example/token_handoff/tokenhandoff/cli/Option" "LOSS_EVERY" "Lcom/example/token_handoff/tokenhandoff/cli/Option;" (.ref w_LOSS_EVERY_85) := Sta.start ev86 (Or.inr ⟨(hw _ (List.mem_of_getElem? (i := 6) rfl)), (hw _ (List.mem_of_getElem? (i := 78) rfl))⟩)
  have E_107 : Exa s s.heap w_LOSS_EVERY_85 "com/example/token_handoff/tokenhandoff/cli/Option" := Exa.start ev86 hn64
  have F_value_108 : Fld s s.heap w_LOSS_EVERY_85 "com/example/token_handoff/tokenhandoff/cli/Option" "value" "Ljava/lang/String;" (.ref w_value_43) := Fld.start ((fld_at ev86).symm.trans (own_eqR hn65 ev44))
  obtain ⟨w_OP_87, ev88⟩ := exa_v hn66
  have S_OP_109 : Sta s s.heap "com/example/token_handoff/tokenhandoff/cli/Option" "OP" "Lcom/example/token_handoff/tokenhandoff/cli/Option;" (.ref w_OP_87) := Sta.start ev88 (Or.inr ⟨(hw _ (List.mem_of_getElem? (i := 6) rfl)), (hw _ (List.mem_of_getElem? (i := 80) rfl))⟩)
  have E_110 : Exa s s.heap w_OP_87 "com/example/token_handoff/tokenhandoff/cli/Option" := Exa.start ev88 hn66
  have F_value_111 : Fld s s.heap w_OP_87 "com/example/token_handoff/tokenhandoff/cli/Option" "value" "Ljava/lang/String;" (.ref w_value_43) := Fld.start ((fld_at ev88).symm.trans (own_eqR hr66 ev44))
  obtain ⟨n, o, h1, h2, h3, _, L, rfl, ⟨rfl, N, -⟩, hq⟩ := rm0 l s _ hw tables_1 i0 w_KEY_1 w_value_3 w_KNOWN_5 w_COMMIT_RETRIES_7 w_value_9 w_SATURATION_11 w_DROP_13 w_value_15 w_MOVE_RETRIES_17 w_ACK_RETRIES_19 w_CA_21 w_SEED_23 w_value_25 w_CERT_27 w_PEER_29 w_value_31 w_OP_MS_33 w_LISTEN_35 w_DELAY_MS_37 w_CIRCULATE_39 w_JITTER_41 w_value_43 w_DURATION_45 w_SKIP_MS_47 w_PASS_ON_49 w_ATTEMPTS_51 w_TO_53 w_STOP_AT_55 w_TIMEOUT_MS_57 w_CANDIDATES_59 w_value_61 w_TRACE_63 w_HANDOFFS_65 w_RUN_67 w_value_69 w_MEMBERS_71 w_value_73 w_UNCOORDINATED_75 w_SKIP_77 w_REGENERATE_79 w_value_81 w_INTERVAL_83 w_LOSS_EVERY_85 w_OP_87 s.heap s.heap.size (Nat.le_refl _) S_KEY_0 E_1 F_value_2 E_3 S_KNOWN_4 E_5 F_value_6 S_COMMIT_RETRIES_7 E_8 F_value_9 E_10 S_SATURATION_11 E_12 F_value_13 S_DROP_14 E_15 F_value_16 E_17 S_MOVE_RETRIES_18 E_19 F_value_20 S_ACK_RETRIES_21 E_22 F_value_23 S_CA_24 E_25 F_value_26 S_SEED_27 E_28 F_value_29 E_30 S_CERT_31 E_32 F_value_33 S_PEER_34 E_35 F_value_36 E_37 S_OP_MS_38 E_39 F_value_40 S_LISTEN_41 E_42 F_value_43 S_DELAY_MS_44 E_45 F_value_46 S_CIRCULATE_47 E_48 F_value_49 S_JITTER_50 E_51 F_value_52 E_53 S_DURATION_54 E_55 F_value_56 S_SKIP_MS_57 E_58 F_value_59 S_PASS_ON_60 E_61 F_value_62 S_ATTEMPTS_63 E_64 F_value_65 S_TO_66 E_67 F_value_68 S_STOP_AT_69 E_70 F_value_71 S_TIMEOUT_MS_72 E_73 F_value_74 S_CANDIDATES_75 E_76 F_value_77 E_78 S_TRACE_79 E_80 F_value_81 S_HANDOFFS_82 E_83 F_value_84 S_RUN_85 E_86 F_value_87 E_88 S_MEMBERS_89 E_90 F_value_91 E_92 S_UNCOORDINATED_93 E_94 F_value_95 S_SKIP_96 E_97 F_value_98 S_REGENERATE_99 E_100 F_value_101 E_102 S_INTERVAL_103 E_104 F_value_105 S_LOSS_EVERY_106 E_107 F_value_108 S_OP_109 E_110 F_value_111 p e ha hc hk s m _ below hf ((Spec.applies_iff_loose hf).mp happ).1 ⟨rfl, State.Warmed39.refl s, rfl⟩ trivial
  refine ⟨n, _, h1, h2, h3, hpost _ _ _ _ _ _ ⟨Cond.after_iff.mpr rfl, Cond.after_iff.mpr (eq_i res_at (Term.int_eval (1)) rfl), trivial⟩ ⟨hq.1, hq.2.1, (hq.2.2.sift fun y hy => Or.inr (N y hy)).mono (by decide) (by decide)⟩⟩
theorem main_1_1 : Claimed_1_1 := comes_1 fun _ _ _ _ _ _ h hF => ⟨h.1, hF⟩
theorem main_1_2 : Claimed_1_2 := comes_1 fun _ _ _ _ _ _ h hF => ⟨h.2.1, hF⟩
end Jvm.Pilot.@@N@@
namespace Jvm.Pilot.@@N@@
open Jvm Jvm.ClassFile Sem Op Lib Jvm.Free Jvm.Stand Jvm.Pilot.@@N@@.Jvm.D
/-! MADE BY PROGRAM (witnessworld.py) out of the Statement's table words and the real class files: 15 classes; the members and pool entries that the words name. The judged class is class 1, her method 2. -/
namespace start1
open Jvm.ClassFile
def u (s : String) : CpInfo := .utf8 (stringToUtf16 s)
/-- a pool by its gaps: so many unusable entries, then the entry; so many at the end -/
def gap : Nat → List CpInfo → List CpInfo
  | 0, r => r
  | n + 1, r => .unusable :: gap n r
def poolList (es : List (Nat × CpInfo)) (last : Nat) : List CpInfo := es.foldr (fun e r => gap e.1 (e.2 :: r)) (gap last [])
def pool (es : List (Nat × CpInfo)) (last : Nat) : Array CpInfo := ⟨poolList es last⟩
def fileOf (pool : Array CpInfo) (this : Nat) (attrs : Array Attribute := #[]) (ms : Array MethodInfo := #[]) (fl : Nat := 33) (sup : Nat := 0) (ifs : Array Nat := #[]) (fds : Array FieldInfo := #[]) : ClassFile where
  minorVersion := 0
  majorVersion := 65
  constantPool := pool
  accessFlags := fl
  thisClass := this
  superClass := sup
  interfaces := ifs
  fields := fds
  methods := ms
  attributes := attrs
def plain (name : String) (sup : Option ClassId) : Class where
  name := name
  kind := .ordinary
  loader := none
  accessFlags := 33
  super := sup
  interfaces := #[]
  cf := none
  fields := #[]
  methods := #[]
  instanceTypes := #[]
  staticTypes := #[]
  resolved := #[]
  callSites := []
  init := .initialized
  statics := none
  mirror := none

def pool0 : Array CpInfo := pool [(5, u "<init>"), (0, u "()V"), (1, .class_ 10), (1, u "java/lang/Object")] 113

def k0m0 : Method := { name := "<init>", desc := "()V", sig := { parameters := [], returnType := none }, accessFlags := 1, code := none }
/-- java/lang/Object -/
def k0 : Class := { plain "java/lang/Object" none with
  accessFlags := 33
  interfaces := #[]
  cf := some (fileOf pool0 8 #[] #[{ accessFlags := 1, nameIndex := 5, descriptorIndex := 6, attributes := #[] }] 33 0 #[] #[])
  fields := #[]
  methods := #[k0m0]
  instanceTypes := #[]
  staticTypes := #[]
  resolved := Array.replicate 124 none
  statics := none }

def pool1 : Array CpInfo := pool [(2, .class_ 4), (1, u "java/lang/Object"), (0, u "<init>"), (0, u "()V"), (0, .fieldref 8 9), (0, .class_ 10), (0, .nameAndType 11 12), (0, u "com/example/token_handoff/tokenhandoff/cli/Option"), (0, u "KEY"), (0, u "Lcom/example/token_handoff/tokenhandoff/cli/Option;"), (0, .fieldref 8 14), (0, .nameAndType 15 12), (0, u "CERT"), (0, .fieldref 8 17), (0, .nameAndType 18 12), (0, u "CA"), (0, .fieldref 8 20), (0, .nameAndType 21 12), (0, u "KNOWN"), (0, .fieldref 8 23), (0, .nameAndType 24 12), (0, u "LISTEN"), (0, .fieldref 8 26), (0, .nameAndType 27 12), (0, u "TIMEOUT_MS"), (0, .fieldref 8 29), (0, .nameAndType 30 12), (0, u "MOVE_RETRIES"), (0, .fieldref 8 32), (0, .nameAndType 33 12), (0, u "ACK_RETRIES"), (0, .fieldref 8 35), (0, .nameAndType 36 12), (0, u "COMMIT_RETRIES"), (0, .fieldref 8 38), (0, .nameAndType 39 12), (0, u "DROP"), (0, .fieldref 8 41), (0, .nameAndType 42 12), (0, u "DELAY_MS"), (0, .fieldref 8 44), (0, .nameAndType 45 12), (0, u "SEED"), (0, .fieldref 8 47), (0, .nameAndType 48 12), (0, u "TRACE"), (0, .fieldref 8 50), (0, .nameAndType 51 12), (0, u "PEER"), (0, .fieldref 8 53), (0, .nameAndType 54 12), (0, u "CANDIDATES"), (0, .fieldref 8 56), (0, .nameAndType 57 12), (0, u "PASS_ON"), (0, .fieldref 8 59), (0, .nameAndType 60 12), (0, u "CIRCULATE"), (0, .fieldref 8 62), (0, .nameAndType 63 12), (0, u "SATURATION"), (0, .fieldref 8 65), (0, .nameAndType 66 12), (0, u "OP_MS"), (0, .fieldref 8 68), (0, .nameAndType 69 12), (0, u "SKIP_MS"), (0, .fieldref 8 71), (0, .nameAndType 72 12), (0, u "RUN"), (0, .fieldref 8 74), (0, .nameAndType 75 12), (0, u "REGENERATE"), (0, .fieldref 8 77), (0, .nameAndType 78 12), (0, u "STOP_AT"), (0, .fieldref 8 80), (0, .nameAndType 81 12), (0, u "TO"), (0, .fieldref 8 83), (0, .nameAndType 84 12), (0, u "ATTEMPTS"), (0, .fieldref 8 86), (0, .nameAndType 87 12), (0, u "MEMBERS"), (0, .fieldref 8 89), (0, .nameAndType 90 12), (0, u "OP"), (0, .fieldref 8 92), (0, .nameAndType 93 12), (0, u "SKIP"), (0, .fieldref 8 95), (0, .nameAndType 96 12), (0, u "DURATION"), (0, .fieldref 8 98), (0, .nameAndType 99 12), (0, u "LOSS_EVERY"), (0, .fieldref 8 101), (0, .nameAndType 102 12), (0, u "UNCOORDINATED"), (0, .fieldref 8 104), (0, .nameAndType 105 12), (0, u "INTERVAL"), (0, .fieldref 8 107), (0, .nameAndType 108 12), (0, u "JITTER"), (0, .fieldref 8 110), (0, .nameAndType 111 12), (0, u "HANDOFFS"), (0, .integer 2147483647), (0, .methodref 114 115), (0, .class_ 116), (0, .nameAndType 117 118), (0, u "com/example/token_handoff/tokenhandoff/cli/OptionTakesValuePinLaw"), (0, u "pick"), (0, u "(I)Lcom/example/token_handoff/tokenhandoff/cli/Option;"), (0, .methodref 8 120), (0, .nameAndType 121 122), (0, u "takesValue"), (0, u "()Z"), (3, u "law"), (0, u "(I)Z")] 2

def k1m0 : Method := { name := "<init>", desc := "()V", sig := { parameters := [], returnType := none }, accessFlags := 2, code := none }
def k1c1 : Code := { maxStack := 1, maxLocals := 1, code := method_2_code, exceptionTable := #[], attributes := #[] }
def k1m1 : Method := { name := "pick", desc := "(I)Lcom/example/token_handoff/tokenhandoff/cli/Option;", sig := { parameters := [.int], returnType := some (.object "com/example/token_handoff/tokenhandoff/cli/Option") }, accessFlags := 10, code := some k1c1 }
def k1c2 : Code := { maxStack := 2, maxLocals := 4, code := code, exceptionTable := #[], attributes := #[] }
def k1m2 : Method := { name := "law", desc := "(I)Z", sig := { parameters := [.int], returnType := some .boolean }, accessFlags := 9, code := some k1c2 }
/-- com/example/token_handoff/tokenhandoff/cli/OptionTakesValuePinLaw -/
def k1 : Class := { plain "com/example/token_handoff/tokenhandoff/cli/OptionTakesValuePinLaw" (some 0) with
  accessFlags := 49
  interfaces := #[]
  cf := some (fileOf pool1 114 #[] #[{ accessFlags := 2, nameIndex := 5, descriptorIndex := 6, attributes := #[] }, { accessFlags := 10, nameIndex := 117, descriptorIndex := 118, attributes := #[] }, { accessFlags := 9, nameIndex := 126, descriptorIndex := 127, attributes := #[] }] 49 2 #[] #[])
  fields := #[]
  methods := #[k1m0, k1m1, k1m2]
  instanceTypes := #[]
  staticTypes := #[]
  resolved := Array.replicate 130 none
  statics := none }

def pool2 : Array CpInfo := pool [(1, .class_ 2), (0, u "java/lang/constant/Constable"), (0, .class_ 4), (0, u "java/lang/Object")] 6

/-- java/lang/constant/Constable -/
def k2 : Class := { plain "java/lang/constant/Constable" (some 0) with
  accessFlags := 1537
  interfaces := #[]
  cf := some (fileOf pool2 1 #[] #[] 1537 3 #[] #[])
  fields := #[]
  methods := #[]
  instanceTypes := #[]
  staticTypes := #[]
  resolved := Array.replicate 11 none
  statics := none }

def pool3 : Array CpInfo := pool [(1, .class_ 2), (0, u "java/lang/Comparable"), (0, .class_ 4), (0, u "java/lang/Object")] 7

/-- java/lang/Comparable -/
def k3 : Class := { plain "java/lang/Comparable" (some 0) with
  accessFlags := 1537
  interfaces := #[]
  cf := some (fileOf pool3 1 #[] #[] 1537 3 #[] #[])
  fields := #[]
  methods := #[]
  instanceTypes := #[]
  staticTypes := #[]
  resolved := Array.replicate 12 none
  statics := none }

def pool4 : Array CpInfo := pool [(1, .class_ 2), (0, u "java/io/Serializable"), (0, .class_ 4), (0, u "java/lang/Object")] 2

/-- java/io/Serializable -/
def k4 : Class := { plain "java/io/Serializable" (some 0) with
  accessFlags := 1537
  interfaces := #[]
  cf := some (fileOf pool4 1 #[] #[] 1537 3 #[] #[])
  fields := #[]
  methods := #[]
  instanceTypes := #[]
  staticTypes := #[]
  resolved := Array.replicate 7 none
  statics := none }

def pool5 : Array CpInfo := pool [(2, .class_ 4), (1, u "java/lang/Enum"), (0, u "name"), (0, u "Ljava/lang/String;"), (2, u "ordinal"), (0, u "I"), (1, .class_ 14), (1, u "java/lang/Object"), (4, u "hash"), (86, .class_ 108), (1, u "java/lang/Enum$EnumDesc"), (2, .class_ 112), (0, u "java/lang/constant/Constable"), (0, .class_ 114), (0, u "java/lang/Comparable"), (0, .class_ 116), (0, u "java/io/Serializable")] 87

/-- java/lang/Enum -/
def k5 : Class := { plain "java/lang/Enum" (some 0) with
  accessFlags := 1057
  interfaces := #[2, 3, 4]
  cf := some (fileOf pool5 2 #[.nestMembers #[106]] #[] 1057 12 #[111, 113, 115] #[{ accessFlags := 18, nameIndex := 5, descriptorIndex := 6, attributes := #[] }, { accessFlags := 18, nameIndex := 9, descriptorIndex := 10, attributes := #[] }, { accessFlags := 2, nameIndex := 19, descriptorIndex := 10, attributes := #[] }])
  fields := #[{ name := "name", type := (.object "java/lang/String"), accessFlags := 18, slot := 0, constantValue := 0 }, { name := "ordinal", type := .int, accessFlags := 18, slot := 1, constantValue := 0 }, { name := "hash", type := .int, accessFlags := 2, slot := 2, constantValue := 0 }]
  methods := #[]
  instanceTypes := #[(.object "java/lang/String"), .int, .int]
  staticTypes := #[]
  resolved := Array.replicate 204 none
  statics := none }

def pool6 : Array CpInfo := pool [(1, .class_ 2), (0, u "com/example/token_handoff/tokenhandoff/cli/Option"), (2, u "KEY"), (0, u "Lcom/example/token_handoff/tokenhandoff/cli/Option;"), (2, u "CERT"), (2, u "CA"), (2, u "KNOWN"), (2, u "LISTEN"), (2, u "TIMEOUT_MS"), (2, u "MOVE_RETRIES"), (2, u "ACK_RETRIES"), (2, u "COMMIT_RETRIES"), (2, u "DROP"), (2, u "DELAY_MS"), (2, u "SEED"), (2, u "TRACE"), (2, u "PEER"), (2, u "CANDIDATES"), (2, u "PASS_ON"), (2, u "CIRCULATE"), (2, u "SATURATION"), (2, u "OP_MS"), (2, u "SKIP_MS"), (2, u "RUN"), (2, u "REGENERATE"), (2, u "STOP_AT"), (2, u "TO"), (2, u "ATTEMPTS"), (2, u "MEMBERS"), (2, u "OP"), (2, u "SKIP"), (2, u "DURATION"), (2, u "LOSS_EVERY"), (2, u "UNCOORDINATED"), (2, u "INTERVAL"), (2, u "JITTER"), (2, u "HANDOFFS"), (2, u "$VALUES"), (0, u "[Lcom/example/token_handoff/tokenhandoff/cli/Option;"), (6, .class_ 118), (1, u "java/lang/Enum"), (8, u "flag"), (0, u "Ljava/lang/String;"), (0, .fieldref 1 130), (0, .nameAndType 131 128), (0, u "value"), (2, u "use"), (0, u "Lcom/example/token_handoff/tokenhandoff/cli/Option$Use;"), (1, .class_ 139), (1, u "com/example/token_handoff/tokenhandoff/cli/Option$Use"), (6, u "takesValue"), (0, u "()Z")] 194

def k6c0 : Code := { maxStack := 1, maxLocals := 1, code := prog_34_method_6_code, exceptionTable := #[], attributes := #[] }
def k6m0 : Method := { name := "takesValue", desc := "()Z", sig := { parameters := [], returnType := some .boolean }, accessFlags := 0, code := some k6c0 }
/-- com/example/token_handoff/tokenhandoff/cli/Option -/
def k6 : Class := { plain "com/example/token_handoff/tokenhandoff/cli/Option" (some 5) with
  accessFlags := 16432
  interfaces := #[]
  cf := some (fileOf pool6 1 #[.nestMembers #[137]] #[{ accessFlags := 0, nameIndex := 146, descriptorIndex := 147, attributes := #[] }] 16432 116 #[] #[{ accessFlags := 16409, nameIndex := 5, descriptorIndex := 6, attributes := #[] }, { accessFlags := 16409, nameIndex := 9, descriptorIndex := 6, attributes := #[] }, { accessFlags := 16409, nameIndex := 12, descriptorIndex := 6, attributes := #[] }, { accessFlags := 16409, nameIndex := 15, descriptorIndex := 6, attributes := #[] }, { accessFlags := 16409, nameIndex := 18, descriptorIndex := 6, attributes := #[] }, { accessFlags := 16409, nameIndex := 21, descriptorIndex := 6, attributes := #[] }, { accessFlags := 16409, nameIndex := 24, descriptorIndex := 6, attributes := #[] }, { accessFlags := 16409, nameIndex := 27, descriptorIndex := 6, attributes := #[] }, { accessFlags := 16409, nameIndex := 30, descriptorIndex := 6, attributes := #[] }, { accessFlags := 16409, nameIndex := 33, descriptorIndex := 6, attributes := #[] }, { accessFlags := 16409, nameIndex := 36, descriptorIndex := 6, attributes := #[] }, { accessFlags := 16409, nameIndex := 39, descriptorIndex := 6, attributes := #[] }, { accessFlags := 16409, nameIndex := 42, descriptorIndex := 6, attributes := #[] }, { accessFlags := 16409, nameIndex := 45, descriptorIndex := 6, attributes := #[] }, { accessFlags := 16409, nameIndex := 48, descriptorIndex := 6, attributes := #[] }, { accessFlags := 16409, nameIndex := 51, descriptorIndex := 6, attributes := #[] }, { accessFlags := 16409, nameIndex := 54, descriptorIndex := 6, attributes := #[] }, { accessFlags := 16409, nameIndex := 57, descriptorIndex := 6, attributes := #[] }, { accessFlags := 16409, nameIndex := 60, descriptorIndex := 6, attributes := #[] }, { accessFlags := 16409, nameIndex := 63, descriptorIndex := 6, attributes := #[] }, { accessFlags := 16409, nameIndex := 66, descriptorIndex := 6, attributes := #[] }, { accessFlags := 16409, nameIndex := 69, descriptorIndex := 6, attributes := #[] }, { accessFlags := 16409, nameIndex := 72, descriptorIndex := 6, attributes := #[] }, { accessFlags := 16409, nameIndex := 75, descriptorIndex := 6, attributes := #[] }, { accessFlags := 16409, nameIndex := 78, descriptorIndex := 6, attributes := #[] }, { accessFlags := 16409, nameIndex := 81, descriptorIndex := 6, attributes := #[] }, { accessFlags := 16409, nameIndex := 84, descriptorIndex := 6, attributes := #[] }, { accessFlags := 16409, nameIndex := 87, descriptorIndex := 6, attributes := #[] }, { accessFlags := 16409, nameIndex := 90, descriptorIndex := 6, attributes := #[] }, { accessFlags := 16409, nameIndex := 93, descriptorIndex := 6, attributes := #[] }, { accessFlags := 16409, nameIndex := 96, descriptorIndex := 6, attributes := #[] }, { accessFlags := 16409, nameIndex := 99, descriptorIndex := 6, attributes := #[] }, { accessFlags := 16409, nameIndex := 102, descriptorIndex := 6, attributes := #[] }, { accessFlags := 16409, nameIndex := 105, descriptorIndex := 6, attributes := #[] }, { accessFlags := 18, nameIndex := 127, descriptorIndex := 128, attributes := #[] }, { accessFlags := 18, nameIndex := 131, descriptorIndex := 128, attributes := #[] }, { accessFlags := 18, nameIndex := 134, descriptorIndex := 135, attributes := #[] }, { accessFlags := 4122, nameIndex := 108, descriptorIndex := 109, attributes := #[] }])
  fields := #[{ name := "KEY", type := (.object "com/example/token_handoff/tokenhandoff/cli/Option"), accessFlags := 16409, slot := 0, constantValue := 0 }, { name := "CERT", type := (.object "com/example/token_handoff/tokenhandoff/cli/Option"), accessFlags := 16409, slot := 1, constantValue := 0 }, { name := "CA", type := (.object "com/example/token_handoff/tokenhandoff/cli/Option"), accessFlags := 16409, slot := 2, constantValue := 0 }, { name := "KNOWN", type := (.object "com/example/token_handoff/tokenhandoff/cli/Option"), accessFlags := 16409, slot := 3, constantValue := 0 }, { name := "LISTEN", type := (.object "com/example/token_handoff/tokenhandoff/cli/Option"), accessFlags := 16409, slot := 4, constantValue := 0 }, { name := "TIMEOUT_MS", type := (.object "com/example/token_handoff/tokenhandoff/cli/Option"), accessFlags := 16409, slot := 5, constantValue := 0 }, { name := "MOVE_RETRIES", type := (.object "com/example/token_handoff/tokenhandoff/cli/Option"), accessFlags := 16409, slot := 6, constantValue := 0 }, { name := "ACK_RETRIES", type := (.object "com/example/token_handoff/tokenhandoff/cli/Option"), accessFlags := 16409, slot := 7, constantValue := 0 }, { name := "COMMIT_RETRIES", type := (.object "com/example/token_handoff/tokenhandoff/cli/Option"), accessFlags := 16409, slot := 8, constantValue := 0 }, { name := "DROP", type := (.object "com/example/token_handoff/tokenhandoff/cli/Option"), accessFlags := 16409, slot := 9, constantValue := 0 }, { name := "DELAY_MS", type := (.object "com/example/token_handoff/tokenhandoff/cli/Option"), accessFlags := 16409, slot := 10, constantValue := 0 }, { name := "SEED", type := (.object "com/example/token_handoff/tokenhandoff/cli/Option"), accessFlags := 16409, slot := 11, constantValue := 0 }, { name := "TRACE", type := (.object "com/example/token_handoff/tokenhandoff/cli/Option"), accessFlags := 16409, slot := 12, constantValue := 0 }, { name := "PEER", type := (.object "com/example/token_handoff/tokenhandoff/cli/Option"), accessFlags := 16409, slot := 13, constantValue := 0 }, { name := "CANDIDATES", type := (.object "com/example/token_handoff/tokenhandoff/cli/Option"), accessFlags := 16409, slot := 14, constantValue := 0 }, { name := "PASS_ON", type := (.object "com/example/token_handoff/tokenhandoff/cli/Option"), accessFlags := 16409, slot := 15, constantValue := 0 }, { name := "CIRCULATE", type := (.object "com/example/token_handoff/tokenhandoff/cli/Option"), accessFlags := 16409, slot := 16, constantValue := 0 }, { name := "SATURATION", type := (.object "com/example/token_handoff/tokenhandoff/cli/Option"), accessFlags := 16409, slot := 17, constantValue := 0 }, { name := "OP_MS", type := (.object "com/example/token_handoff/tokenhandoff/cli/Option"), accessFlags := 16409, slot := 18, constantValue := 0 }, { name := "SKIP_MS", type := (.object "com/example/token_handoff/tokenhandoff/cli/Option"), accessFlags := 16409, slot := 19, constantValue := 0 }, { name := "RUN", type := (.object "com/example/token_handoff/tokenhandoff/cli/Option"), accessFlags := 16409, slot := 20, constantValue := 0 }, { name := "REGENERATE", type := (.object "com/example/token_handoff/tokenhandoff/cli/Option"), accessFlags := 16409, slot := 21, constantValue := 0 }, { name := "STOP_AT", type := (.object "com/example/token_handoff/tokenhandoff/cli/Option"), accessFlags := 16409, slot := 22, constantValue := 0 }, { name := "TO", type := (.object "com/example/token_handoff/tokenhandoff/cli/Option"), accessFlags := 16409, slot := 23, constantValue := 0 }, { name := "ATTEMPTS", type := (.object "com/example/token_handoff/tokenhandoff/cli/Option"), accessFlags := 16409, slot := 24, constantValue := 0 }, { name := "MEMBERS", type := (.object "com/example/token_handoff/tokenhandoff/cli/Option"), accessFlags := 16409, slot := 25, constantValue := 0 }, { name := "OP", type := (.object "com/example/token_handoff/tokenhandoff/cli/Option"), accessFlags := 16409, slot := 26, constantValue := 0 }, { name := "SKIP", type := (.object "com/example/token_handoff/tokenhandoff/cli/Option"), accessFlags := 16409, slot := 27, constantValue := 0 }, { name := "DURATION", type := (.object "com/example/token_handoff/tokenhandoff/cli/Option"), accessFlags := 16409, slot := 28, constantValue := 0 }, { name := "LOSS_EVERY", type := (.object "com/example/token_handoff/tokenhandoff/cli/Option"), accessFlags := 16409, slot := 29, constantValue := 0 }, { name := "UNCOORDINATED", type := (.object "com/example/token_handoff/tokenhandoff/cli/Option"), accessFlags := 16409, slot := 30, constantValue := 0 }, { name := "INTERVAL", type := (.object "com/example/token_handoff/tokenhandoff/cli/Option"), accessFlags := 16409, slot := 31, constantValue := 0 }, { name := "JITTER", type := (.object "com/example/token_handoff/tokenhandoff/cli/Option"), accessFlags := 16409, slot := 32, constantValue := 0 }, { name := "HANDOFFS", type := (.object "com/example/token_handoff/tokenhandoff/cli/Option"), accessFlags := 16409, slot := 33, constantValue := 0 }, { name := "flag", type := (.object "java/lang/String"), accessFlags := 18, slot := 3, constantValue := 0 }, { name := "value", type := (.object "java/lang/String"), accessFlags := 18, slot := 4, constantValue := 0 }, { name := "use", type := (.object "com/example/token_handoff/tokenhandoff/cli/Option$Use"), accessFlags := 18, slot := 5, constantValue := 0 }, { name := "$VALUES", type := (.array (.object "com/example/token_handoff/tokenhandoff/cli/Option")), accessFlags := 4122, slot := 34, constantValue := 0 }]
  methods := #[k6m0]
  instanceTypes := #[(.object "java/lang/String"), .int, .int, (.object "java/lang/String"), (.object "java/lang/String"), (.object "com/example/token_handoff/tokenhandoff/cli/Option$Use")]
  staticTypes := #[(.object "com/example/token_handoff/tokenhandoff/cli/Option"), (.object "com/example/token_handoff/tokenhandoff/cli/Option"), (.object "com/example/token_handoff/tokenhandoff/cli/Option"), (.object "com/example/token_handoff/tokenhandoff/cli/Option"), (.object "com/example/token_handoff/tokenhandoff/cli/Option"), (.object "com/example/token_handoff/tokenhandoff/cli/Option"), (.object "com/example/token_handoff/tokenhandoff/cli/Option"), (.object "com/example/token_handoff/tokenhandoff/cli/Option"), (.object "com/example/token_handoff/tokenhandoff/cli/Option"), (.object "com/example/token_handoff/tokenhandoff/cli/Option"), (.object "com/example/token_handoff/tokenhandoff/cli/Option"), (.object "com/example/token_handoff/tokenhandoff/cli/Option"), (.object "com/example/token_handoff/tokenhandoff/cli/Option"), (.object "com/example/token_handoff/tokenhandoff/cli/Option"), (.object "com/example/token_handoff/tokenhandoff/cli/Option"), (.object "com/example/token_handoff/tokenhandoff/cli/Option"), (.object "com/example/token_handoff/tokenhandoff/cli/Option"), (.object "com/example/token_handoff/tokenhandoff/cli/Option"), (.object "com/example/token_handoff/tokenhandoff/cli/Option"), (.object "com/example/token_handoff/tokenhandoff/cli/Option"), (.object "com/example/token_handoff/tokenhandoff/cli/Option"), (.object "com/example/token_handoff/tokenhandoff/cli/Option"), (.object "com/example/token_handoff/tokenhandoff/cli/Option"), (.object "com/example/token_handoff/tokenhandoff/cli/Option"), (.object "com/example/token_handoff/tokenhandoff/cli/Option"), (.object "com/example/token_handoff/tokenhandoff/cli/Option"), (.object "com/example/token_handoff/tokenhandoff/cli/Option"), (.object "com/example/token_handoff/tokenhandoff/cli/Option"), (.object "com/example/token_handoff/tokenhandoff/cli/Option"), (.object "com/example/token_handoff/tokenhandoff/cli/Option"), (.object "com/example/token_handoff/tokenhandoff/cli/Option"), (.object "com/example/token_handoff/tokenhandoff/cli/Option"), (.object "com/example/token_handoff/tokenhandoff/cli/Option"), (.object "com/example/token_handoff/tokenhandoff/cli/Option"), (.array (.object "com/example/token_handoff/tokenhandoff/cli/Option"))]
  resolved := Array.replicate 342 none
  statics := some 0 }

def pool7 : Array CpInfo := pool [(2, .class_ 4), (1, u "java/lang/CharSequence"), (42, .class_ 48), (0, u "java/lang/CharSequence$1CodePointIterator"), (10, .class_ 60), (0, u "java/lang/CharSequence$1CharIterator"), (5, .class_ 67), (0, u "java/lang/Object")] 63

/-- java/lang/CharSequence -/
def k7 : Class := { plain "java/lang/CharSequence" (some 0) with
  accessFlags := 1537
  interfaces := #[]
  cf := some (fileOf pool7 2 #[.nestMembers #[47, 59]] #[] 1537 66 #[] #[])
  fields := #[]
  methods := #[]
  instanceTypes := #[]
  staticTypes := #[]
  resolved := Array.replicate 131 none
  statics := none }

def pool8 : Array CpInfo := pool [(1, .class_ 2), (0, u "java/lang/constant/ConstantDesc"), (0, .class_ 4), (0, u "java/lang/Object")] 32

/-- java/lang/constant/ConstantDesc -/
def k8 : Class := { plain "java/lang/constant/ConstantDesc" (some 0) with
  accessFlags := 1537
  interfaces := #[]
  cf := some (fileOf pool8 1 #[] #[] 1537 3 #[] #[])
  fields := #[]
  methods := #[]
  instanceTypes := #[]
  staticTypes := #[]
  resolved := Array.replicate 37 none
  statics := none }

def pool9 : Array CpInfo := pool [(2, .class_ 4), (1, u "java/lang/Object"), (0, u "<init>"), (0, u "()V"), (3, .class_ 12), (1, u "java/lang/String"), (0, u "value"), (0, u "[B"), (2, u "coder"), (0, u "B"), (2, u "hash"), (0, u "I"), (2, u "hashIsZero"), (0, u "Z"), (13, u "COMPACT_STRINGS"), (534, .class_ 576), (0, u "java/lang/CharSequence"), (22, u "CASE_INSENSITIVE_ORDER"), (0, u "Ljava/util/Comparator;"), (500, u "serialPersistentFields"), (0, u "[Ljava/io/ObjectStreamField;"), (0, .class_ 1104), (0, u "java/lang/String$CaseInsensitiveComparator"), (1, .class_ 1107), (0, u "java/io/Serializable"), (0, .class_ 1109), (0, u "java/lang/Comparable"), (0, .class_ 1111), (0, u "java/lang/constant/Constable"), (0, .class_ 1113), (0, u "java/lang/constant/ConstantDesc"), (2, u "serialVersionUID"), (0, u "J"), (3, u "REPL"), (0, u "C"), (2, u "LATIN1"), (1, u "UTF16")] 323

def k9m0 : Method := { name := "<init>", desc := "()V", sig := { parameters := [], returnType := none }, accessFlags := 1, code := none }
/-- java/lang/String -/
def k9 : Class := { plain "java/lang/String" (some 0) with
  accessFlags := 49
  interfaces := #[4, 3, 7, 2, 8]
  cf := some (fileOf pool9 10 #[.nestMembers #[1103]] #[{ accessFlags := 1, nameIndex := 5, descriptorIndex := 6, attributes := #[] }] 49 2 #[1106, 1108, 575, 1110, 1112] #[{ accessFlags := 18, nameIndex := 13, descriptorIndex := 14, attributes := #[] }, { accessFlags := 18, nameIndex := 17, descriptorIndex := 18, attributes := #[] }, { accessFlags := 2, nameIndex := 21, descriptorIndex := 22, attributes := #[] }, { accessFlags := 2, nameIndex := 25, descriptorIndex := 26, attributes := #[] }, { accessFlags := 26, nameIndex := 1116, descriptorIndex := 1117, attributes := #[] }, { accessFlags := 24, nameIndex := 40, descriptorIndex := 26, attributes := #[] }, { accessFlags := 26, nameIndex := 1101, descriptorIndex := 1102, attributes := #[] }, { accessFlags := 26, nameIndex := 1121, descriptorIndex := 1122, attributes := #[] }, { accessFlags := 25, nameIndex := 599, descriptorIndex := 600, attributes := #[] }, { accessFlags := 24, nameIndex := 1125, descriptorIndex := 18, attributes := #[] }, { accessFlags := 24, nameIndex := 1127, descriptorIndex := 18, attributes := #[] }])
  fields := #[{ name := "value", type := (.array .byte), accessFlags := 18, slot := 0, constantValue := 0 }, { name := "coder", type := .byte, accessFlags := 18, slot := 1, constantValue := 0 }, { name := "hash", type := .int, accessFlags := 2, slot := 2, constantValue := 0 }, { name := "hashIsZero", type := .boolean, accessFlags := 2, slot := 3, constantValue := 0 }, { name := "serialVersionUID", type := .long, accessFlags := 26, slot := 0, constantValue := 0 }, { name := "COMPACT_STRINGS", type := .boolean, accessFlags := 24, slot := 1, constantValue := 0 }, { name := "serialPersistentFields", type := (.array (.object "java/io/ObjectStreamField")), accessFlags := 26, slot := 2, constantValue := 0 }, { name := "REPL", type := .char, accessFlags := 26, slot := 3, constantValue := 0 }, { name := "CASE_INSENSITIVE_ORDER", type := (.object "java/util/Comparator"), accessFlags := 25, slot := 4, constantValue := 0 }, { name := "LATIN1", type := .byte, accessFlags := 24, slot := 5, constantValue := 0 }, { name := "UTF16", type := .byte, accessFlags := 24, slot := 6, constantValue := 0 }]
  methods := #[k9m0]
  instanceTypes := #[(.array .byte), .byte, .int, .boolean]
  staticTypes := #[.long, .boolean, (.array (.object "java/io/ObjectStreamField")), .char, (.object "java/util/Comparator"), .byte, .byte]
  resolved := Array.replicate 1451 none
  statics := none }

def pool10 : Array CpInfo := pool [(1, u "java/lang/Cloneable"), (0, .class_ 1), (0, u "java/lang/Object"), (0, .class_ 3)] 3

/-- java/lang/Cloneable -/
def k10 : Class := { plain "java/lang/Cloneable" (some 0) with
  accessFlags := 1537
  interfaces := #[]
  cf := some (fileOf pool10 2 #[] #[] 1537 4 #[] #[])
  fields := #[]
  methods := #[]
  instanceTypes := #[]
  staticTypes := #[]
  resolved := Array.replicate 8 none
  statics := none }

/-- the primitive byte -/
def k11 : Class := { plain "byte" none with kind := .primitive 'B', accessFlags := 0x411 }
/-- [B -/
def k12 : Class := { plain "[B" (some 0) with kind := .array 11 .byte, interfaces := #[10, 4], accessFlags := 1041 }

/-- the primitive int -/
def k13 : Class := { plain "int" none with kind := .primitive 'I', accessFlags := 0x411 }
/-- [I -/
def k14 : Class := { plain "[I" (some 0) with kind := .array 13 .int, interfaces := #[10, 4], accessFlags := 1041 }

def heap : Heap := #[{ cls := 6, slots := #[.ref 2, .ref 14, .ref 11, .ref 3, .ref 18, .ref 29, .ref 9, .ref 10, .ref 5, .ref 8, .ref 19, .ref 13, .ref 32, .ref 16, .ref 31, .ref 25, .ref 20, .ref 6, .ref 17, .ref 24, .ref 35, .ref 41, .ref 28, .ref 27, .ref 26, .ref 37, .ref 44, .ref 39, .ref 23, .ref 43, .ref 38, .ref 42, .ref 22, .ref 33, .null], vm := .statics 6 },
  { cls := 9, slots := #[.null, .int 0, .int 0, .int 0], vm := .none },
  { cls := 6, slots := #[.null, .int 0, .int 0, .null, .ref 1, .null], vm := .none },
  { cls := 6, slots := #[.null, .int 0, .int 0, .null, .ref 1, .null], vm := .none },
  { cls := 9, slots := #[.null, .int 0, .int 0, .int 0], vm := .none },
  { cls := 6, slots := #[.null, .int 0, .int 0, .null, .ref 4, .null], vm := .none },
  { cls := 6, slots := #[.null, .int 0, .int 0, .null, .ref 4, .null], vm := .none },
  { cls := 9, slots := #[.null, .int 0, .int 0, .int 0], vm := .none },
  { cls := 6, slots := #[.null, .int 0, .int 0, .null, .ref 7, .null], vm := .none },
  { cls := 6, slots := #[.null, .int 0, .int 0, .null, .ref 4, .null], vm := .none },
  { cls := 6, slots := #[.null, .int 0, .int 0, .null, .ref 4, .null], vm := .none },
  { cls := 6, slots := #[.null, .int 0, .int 0, .null, .ref 1, .null], vm := .none },
  { cls := 9, slots := #[.null, .int 0, .int 0, .int 0], vm := .none },
  { cls := 6, slots := #[.null, .int 0, .int 0, .null, .ref 12, .null], vm := .none },
  { cls := 6, slots := #[.null, .int 0, .int 0, .null, .ref 1, .null], vm := .none },
  { cls := 9, slots := #[.null, .int 0, .int 0, .int 0], vm := .none },
  { cls := 6, slots := #[.null, .int 0, .int 0, .null, .ref 15, .null], vm := .none },
  { cls := 6, slots := #[.null, .int 0, .int 0, .null, .ref 4, .null], vm := .none },
  { cls := 6, slots := #[.null, .int 0, .int 0, .null, .ref 15, .null], vm := .none },
  { cls := 6, slots := #[.null, .int 0, .int 0, .null, .ref 4, .null], vm := .none },
  { cls := 6, slots := #[.null, .int 0, .int 0, .null, .null, .null], vm := .none },
  { cls := 9, slots := #[.null, .int 0, .int 0, .int 0], vm := .none },
  { cls := 6, slots := #[.null, .int 0, .int 0, .null, .ref 21, .null], vm := .none },
  { cls := 6, slots := #[.null, .int 0, .int 0, .null, .ref 21, .null], vm := .none },
  { cls := 6, slots := #[.null, .int 0, .int 0, .null, .ref 4, .null], vm := .none },
  { cls := 6, slots := #[.null, .int 0, .int 0, .null, .null, .null], vm := .none },
  { cls := 6, slots := #[.null, .int 0, .int 0, .null, .ref 4, .null], vm := .none },
  { cls := 6, slots := #[.null, .int 0, .int 0, .null, .ref 15, .null], vm := .none },
  { cls := 6, slots := #[.null, .int 0, .int 0, .null, .ref 4, .null], vm := .none },
  { cls := 6, slots := #[.null, .int 0, .int 0, .null, .ref 4, .null], vm := .none },
  { cls := 9, slots := #[.null, .int 0, .int 0, .int 0], vm := .none },
  { cls := 6, slots := #[.null, .int 0, .int 0, .null, .ref 30, .null], vm := .none },
  { cls := 6, slots := #[.null, .int 0, .int 0, .null, .ref 1, .null], vm := .none },
  { cls := 6, slots := #[.null, .int 0, .int 0, .null, .ref 30, .null], vm := .none },
  { cls := 9, slots := #[.null, .int 0, .int 0, .int 0], vm := .none },
  { cls := 6, slots := #[.null, .int 0, .int 0, .null, .ref 34, .null], vm := .none },
  { cls := 9, slots := #[.null, .int 0, .int 0, .int 0], vm := .none },
  { cls := 6, slots := #[.null, .int 0, .int 0, .null, .ref 36, .null], vm := .none },
  { cls := 6, slots := #[.null, .int 0, .int 0, .null, .null, .null], vm := .none },
  { cls := 6, slots := #[.null, .int 0, .int 0, .null, .ref 21, .null], vm := .none },
  { cls := 9, slots := #[.null, .int 0, .int 0, .int 0], vm := .none },
  { cls := 6, slots := #[.null, .int 0, .int 0, .null, .ref 40, .null], vm := .none },
  { cls := 6, slots := #[.null, .int 0, .int 0, .null, .ref 21, .null], vm := .none },
  { cls := 6, slots := #[.null, .int 0, .int 0, .null, .ref 21, .null], vm := .none },
  { cls := 6, slots := #[.null, .int 0, .int 0, .null, .ref 21, .null], vm := .none }]
def classes : Array Class := #[k0, k1, k2, k3, k4, k5, k6, k7, k8, k9, k10, k11, k12, k13, k14]
def interned : List (Array UInt16 × Addr) := []
def slotsUsed : Nat := 279
def theMethod : MethodId := ⟨1, 2⟩
def args0 : Array Value := #[.int 3]
def aboutOver (below : List Frame) : State where
  vm := { classes := classes, interned := interned.toArray }
  heap := heap
  slotsUsed := slotsUsed
  threads := #[{ frames := .invoking theMethod args0 :: below }]
def below0 : List Frame := [.native { method := ⟨0, 0⟩, args := #[] }]
def about1 : State := aboutOver below0
def p0 : Program := .bare "" "" ""
def e0 : Env := launch0.env 0 0 0
theorem w_frames : about1.frames = Frame.invoking theMethod args0 :: below0 := rfl
set_option maxRecDepth 65536 in
theorem w_args : argsFit about1.vm theMethod args0 = true := by decide +kernel
set_option maxRecDepth 65536 in
theorem w_heap : heapFits about1 = true := by decide +kernel
set_option maxRecDepth 65536 in
theorem w_runnable : about1.curStatus? = some .runnable := by decide +kernel
set_option maxRecDepth 65536 in
theorem w_alone : about1.alone = true := by decide +kernel
set_option maxRecDepth 65536 in
theorem w_named : about1.methodNamed? x = some theMethod := by decide +kernel
set_option maxRecDepth 65536 in
theorem w_hears : about1.hears theMethod below0 = true := by decide +kernel
set_option maxRecDepth 65536 in
theorem w_ripe : about1.ripe theMethod args0 below0 = true := by decide +kernel
theorem w_running : about1.status = .running := rfl
set_option maxRecDepth 65536 in
theorem w_room : about1.hasRoom e0.platform room_1 = true :=
  launch0.hasRoom_least _ room_1 (by decide +kernel) (by decide +kernel) (by decide +kernel) (by decide +kernel) (by decide +kernel) (by decide +kernel)
theorem allAtoms_all (ts : List Jvm.Cond) (a : Array Jvm.Value) (st : Jvm.State) : (allAtoms ts).before a st = ts.all (fun c => c.before a st) := by
  induction ts with
  | nil => rfl
  | cons c t ih =>
    show (Jvm.Cond.and c (allAtoms t)).before a st = _
    rw [Jvm.Cond.before_and, ih, List.all_cons]
def words1 : List Jvm.Cond := Jvm.Cond.code x code maxLocals ret :: tables_1
/-- a 'code' word, met by the world's own term for the bytes: nothing is compared byte by byte -/
theorem code_word {y : MethodName} {bytes : ByteArray} {mx : Nat} {rt : Option FieldType} {a : Array Value} {s : State} {m : MethodId} {meth : Method} {c : Code} (h1 : s.methodNamed? y = some m) (h2 : s.vm.method? m = some meth) (h3 : meth.code = some c) (h4 : c.code = bytes)
    (h5 : (c.maxLocals == mx && c.exceptionTable.isEmpty && decide (c.maxStack ≤ mostOperands) && decide (meth.sig.returnType = rt) && !meth.locks && decide (parseMethodDescriptor y.desc = some meth.sig)) = true) : (Jvm.Cond.code y bytes mx rt).before a s = true := by
  simp only [Bool.and_eq_true, beq_iff_eq, Bool.not_eq_true', decide_eq_true_eq] at h5
  obtain ⟨⟨⟨⟨⟨g1, g2⟩, g3⟩, g4⟩, g5⟩, g6⟩ := h5
  simp [Cond.before, Cond.holds, Cond.value, h1, h2, h3, h4, g1, g2, g3, g4, g5, g6]
def isCode : Jvm.Cond → Bool
  | .code _ _ _ _ => true
  | _ => false
theorem all_split {L : List Jvm.Cond} {P : Jvm.Cond → Bool} (h1 : L.all (fun c => isCode c || P c) = true) (h2 : ∀ c ∈ L.filter isCode, P c = true) : L.all P = true := by
  refine List.all_eq_true.mpr fun c hc => ?_
  have h := List.all_eq_true.mp h1 c hc
  rcases Bool.eq_false_or_eq_true (isCode c) with hi | hi
  · exact h2 c (List.mem_filter.mpr ⟨hc, hi⟩)
  · simpa [hi] using h
set_option maxRecDepth 65536 in
theorem w_c0 : (Jvm.Cond.code x code maxLocals ret).before args0 about1 = true := code_word (m := ⟨1, 2⟩) (meth := k1m2) (c := k1c2) (by decide +kernel) rfl rfl rfl (by decide +kernel)
set_option maxRecDepth 65536 in
theorem w_c1 : (Jvm.Cond.code ({ cls := "com/example/token_handoff/tokenhandoff/cli/OptionTakesValuePinLaw", name := "pick", desc := "(I)Lcom/example/token_handoff/tokenhandoff/cli/Option;" } : Jvm.MethodName) method_2_code (1 : Nat) (Option.some (Jvm.ClassFile.FieldType.object "com/example/token_handoff/tokenhandoff/cli/Option"))).before args0 about1 = true := code_word (m := ⟨1, 1⟩) (meth := k1m1) (c := k1c1) (by decide +kernel) rfl rfl rfl (by decide +kernel)
set_option maxRecDepth 65536 in
theorem w_c2 : (Jvm.Cond.code ({ cls := "com/example/token_handoff/tokenhandoff/cli/Option", name := "takesValue", desc := "()Z" } : Jvm.MethodName) prog_34_method_6_code (1 : Nat) (Option.some Jvm.ClassFile.FieldType.boolean)).before args0 about1 = true := code_word (m := ⟨6, 0⟩) (meth := k6m0) (c := k6c0) (by decide +kernel) rfl rfl rfl (by decide +kernel)
def codes1 : List Jvm.Cond := [Jvm.Cond.code x code maxLocals ret, Jvm.Cond.code ({ cls := "com/example/token_handoff/tokenhandoff/cli/OptionTakesValuePinLaw", name := "pick", desc := "(I)Lcom/example/token_handoff/tokenhandoff/cli/Option;" } : Jvm.MethodName) method_2_code (1 : Nat) (Option.some (Jvm.ClassFile.FieldType.object "com/example/token_handoff/tokenhandoff/cli/Option")), Jvm.Cond.code ({ cls := "com/example/token_handoff/tokenhandoff/cli/Option", name := "takesValue", desc := "()Z" } : Jvm.MethodName) prog_34_method_6_code (1 : Nat) (Option.some Jvm.ClassFile.FieldType.boolean)]
set_option maxRecDepth 65536 in
theorem codes_eq : words1.filter isCode = codes1 := rfl
theorem w_codes : ∀ c ∈ words1.filter isCode, c.before args0 about1 = true := by
  rw [codes_eq]
  intro c hc
  simp only [codes1, List.mem_cons, List.not_mem_nil, or_false] at hc
  rcases hc with rfl | rfl | rfl
  · exact w_c0
  · exact w_c1
  · exact w_c2
set_option maxRecDepth 65536 in
theorem w_t1 : (words1.take 24).all (fun c => isCode c || c.before args0 about1) = true := by decide +kernel
set_option maxRecDepth 65536 in
theorem w_t2 : ((words1.drop 24).take 24).all (fun c => isCode c || c.before args0 about1) = true := by decide +kernel
set_option maxRecDepth 65536 in
theorem w_t3 : (((words1.drop 24).drop 24).take 24).all (fun c => isCode c || c.before args0 about1) = true := by decide +kernel
set_option maxRecDepth 65536 in
theorem w_t4 : (((words1.drop 24).drop 24).drop 24).all (fun c => isCode c || c.before args0 about1) = true := by decide +kernel
theorem w_tables : (allAtoms (Jvm.Cond.code x code maxLocals ret :: tables_1)).before args0 about1 = true := by
  rw [allAtoms_all]
  show words1.all (fun c => c.before args0 about1) = true
  refine all_split ?_ w_codes
  rw [← List.take_append_drop 24 words1, List.all_append, w_t1, ← List.take_append_drop 24 (words1.drop 24), List.all_append, w_t2, ← List.take_append_drop 24 ((words1.drop 24).drop 24), List.all_append, w_t3, w_t4]
  rfl
set_option maxRecDepth 65536 in
theorem w_case : (Jvm.Cond.and given_1 narrow_1).before args0 about1 = true := by decide +kernel
theorem w_applies : (headSpec (Jvm.Cond.code x code maxLocals ret :: tables_1) room_1).applies x e0.platform about1 = true :=
  (Spec.applies_iff w_frames).mpr ⟨w_running, w_runnable, w_alone, w_named, w_hears, w_ripe, w_room, w_tables⟩
theorem atStart : AtStart classFile x code maxLocals ret World_1 tables_1 room_1 Calls_1 rest_1 Pre_1 launch0 p0 e0 about1 theMethod args0 below0 :=
  ⟨lists_1, trivial, launch0.admits_env _ _ _, launch0.least_env, fairChoices_fair.cas, fairChoices_fair.clock, w_frames, w_args, w_heap, w_applies, trivial, trivial, w_case⟩
end start1
theorem witness_1 : WitnessClaimed_1 := ⟨start1.p0, start1.e0, start1.about1, start1.theMethod, start1.args0, start1.below0, start1.atStart⟩
end Jvm.Pilot.@@N@@
