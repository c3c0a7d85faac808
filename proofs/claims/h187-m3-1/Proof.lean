import JvmDerived
import JvmDerived.Pilot.@@N@@Statement
import JvmDerived.Pilot.@@N@@Code
set_option linter.unusedVariables false
set_option linter.unusedSimpArgs false
@@BLOCK:NumsL.lean.txt@@
namespace Jvm.RoadKit
open Sem ClassFile Op Lib Jvm.Stand Jvm.Free Jvm.LawKit
section New
variable {p : Program} {l : Launch} {e : Env} {R : Room} {s : State} {m : MethodId} {args : Array Value} {below : List Frame} {meth : Method} {c : Code} {T : State} {locs : List Loc} {cells slots : Nat}
theorem retI (X : Stand p l e R s m args below meth c T locs cells slots) (hx : p.tables.exec = Jvm.exec) {pc : Nat} {Ls : Array Slot} {z : Int32} {rest : List Value} (hret : meth.sig.returnType = some .int) (hd : decode c.code pc = .ok (.ireturn, 1)) {fs : List Frame}
    (hl : ∀ (f : JFrame) (acts : List Action), f.method = m → f.locked = none → f.entered = [] → (doReturn e (T.setTop f) acts (some (.int z))).1 = T.setFrames fs) : Steps p.tables e below (T.setTop (mkF m pc Ls (.int z :: rest))) (T.setFrames fs) := by
  have hm' : T.vm.method? m = some meth := X.method'
  have hn : narrow .int (.int z) = .int z := rfl
  show Steps p.tables e below (T.setTop { method := m, pc := pc, locals := Ls, stack := _ :: rest, locked := none }) _
  jvm_step X.here [X.here.top, hx, hd, hm', hret, hn]
  first | (intro acts; rw [hl _ acts rfl rfl rfl]) | rw [hl _ _ rfl rfl rfl]
  exact Steps.refl _
end New
end Jvm.RoadKit
namespace Jvm.Pilot.@@N@@
open Jvm Jvm.ClassFile Sem Op Lib Jvm.Free Jvm.Stand Jvm.LawKit Jvm.RoadKit Bundle Jvm.Pilot.@@N@@.Jvm.D
/-- from F on the run comes to the method's end, and K holds there -/
def own_Go (tb : Tables) (e : Env) (below : List Frame) (F : State) (K : Outcome → State → Prop) : Prop := ∃ t o, Steps tb e below F t ∧ t.status = .running ∧ Ended t below o ∧ K o t
theorem own_via {tb : Tables} {e : Env} {below : List Frame} {F G : State} {K : Outcome → State → Prop} (h : ∀ t, Steps tb e below G t → Steps tb e below F t) (k : own_Go tb e below G K) : own_Go tb e below F K := by
  obtain ⟨t, o, h1, h2⟩ := k
  exact ⟨t, o, h t h1, h2⟩
/-- what is asked at the end: it has returned, Q holds of the value, the heap and what was written -/
def own_K (s : State) (Q : Option Value → Heap → List Loc → Prop) (kc ks : Nat) (o : Outcome) (t : State) : Prop := ∃ v L, o = .returned v ∧ Q v t.heap L ∧ FrameEnd s o t L kc ks
/-- what a walk knows of its method all along -/
def own_C (p : Program) (s : State) (m : MethodId) (meth : Method) (c : Code) (Z : State) (a0 : Array Value) (bytes : ByteArray) (ml : Nat) (cls : String) (rt : Option FieldType) (nme : String) : Prop :=
  p.tables.exec = Jvm.exec ∧ Z.Warmed39 s.vm ∧ (∀ d ∈ tables_1, d.before a0 Z = true) ∧ c.code = bytes ∧ c.maxLocals = ml ∧ s.vm.findClass cls = some m.cls ∧ meth.sig.returnType = rt ∧ meth.locks = false ∧ meth.name = nme
theorem own_fin {p : Program} {l : Launch} {e : Env} {R : Room} {s : State} {m : MethodId} {args : Array Value} {below : List Frame} {meth : Method} {c : Code} {T : State} {locs : List Loc} {cells slots : Nat} (X : Stand p l e R s m args below meth c T locs cells slots) {F : State} {h : Heap} (eh : T.heap = h) {v : Option Value} {Q : Option Value → Heap → List Loc → Prop} {kc ks : Nat} (hv : meth.sig.returnType = none → v = none) (hlk : meth.locks = false)
    (hstep : ∀ fs, (∀ (f : JFrame) (acts : List Action), f.method = m → f.locked = none → f.entered = [] → (doReturn e (T.setTop f) acts v).1 = T.setFrames fs) → Steps p.tables e below F (T.setFrames fs)) (q : Q v h locs) (hc : cells ≤ kc) (hs : slots ≤ ks) : own_Go p.tables e below F (own_K s Q kc ks) := by
  obtain ⟨fs, hr, hrun, hended, hW, hsame⟩ := X.leave (v := v) hv hlk
  subst eh
  exact ⟨_, _, hstep fs hr, hrun, hended, _, _, rfl, q, ⟨_, rfl⟩, hW, hsame.mono hc hs⟩
theorem own_len {p : Program} {l : Launch} {e : Env} {R : Room} {s : State} {m : MethodId} {args : Array Value} {below : List Frame} {meth : Method} {c : Code} {T : State} {locs : List Loc} {cells slots : Nat} {Z : State} {h : Heap} (X : Stand p l e R s m args below meth c T locs cells slots) (hx : p.tables.exec = Jvm.exec) (hZ : Z.Warmed39 s.vm) (eT : T.heap = h) {a : Addr} {cl : Cell} {ty : FieldType} {n : Int32} (A : Arr Z h a cl ty) (S : cl.slots.size = n.toNatClampNeg) (N : ¬ n < 0)
    {g : JFrame} (hg : g.method = m) {rest : List Value} (hs : g.stack = .ref a :: rest) (hd : decode c.code g.pc = .ok (.arraylength, 1)) {t : State} (k : Steps p.tables e below (T.setTop { g with pc := g.pc + 1, stack := .int n :: rest }) t) : Steps p.tables e below (T.setTop g) t := by
  refine X.arraylength hx (by rw [eT]; exact A.1) (State.isArrayOf_alike hZ.alike A.2.1) hg hs hd _ ?_
  rw [len_of S N]
  exact k
/-- a time in millis behind 1970 and ahead of the year 200000 -/
def own_rng (q : Int64) : Prop := 1000 ≤ q.toInt ∧ q.toInt < 2 ^ 43
theorem own_k3 : ((1000 : Int32).toInt64).toInt = 1000 := rfl
theorem own_nn {x : Int64} : ¬ x < (0 : Int64) ↔ x.toBitVec.msb = false := by
  have e : x.toInt = x.toBitVec.toInt := rfl
  have k : (0 : Int64).toInt = 0 := rfl
  rw [Int64.lt_iff_toInt_lt, BitVec.msb_eq_toInt, e, k]
  simp
theorem own_xnn {x y : Int64} (hx : ¬ x < (0 : Int64)) (hy : ¬ y < (0 : Int64)) : ¬ (x ^^^ y) < (0 : Int64) := by
  rw [own_nn] at hx hy ⊢
  rw [Int64.toBitVec_xor, BitVec.msb_xor, hx, hy]; rfl
theorem own_ann {x y : Int64} (hx : ¬ x < (0 : Int64)) : ¬ (x &&& y) < (0 : Int64) := by
  rw [own_nn] at hx ⊢
  rw [Int64.toBitVec_and, BitVec.msb_and, hx]; rfl
theorem own_pos_nn {x : Int64} (h : 0 ≤ x.toInt) : ¬ x < (0 : Int64) := by
  rw [Int64.lt_iff_toInt_lt]; have k : (0 : Int64).toInt = 0 := rfl; omega
theorem own_x {q : Int64} (h : own_rng q) : ¬ (q ^^^ ((1000 : Int32).toInt64)) < (0 : Int64) := own_xnn (own_pos_nn (by have := h.1; omega)) (by decide)
theorem own_dv {q : Int64} (h : own_rng q) : (q / ((1000 : Int32).toInt64)).toInt = q.toInt / 1000 := by
  have := h.1
  rw [Jvm.Kit.i64_div (by rw [own_k3]; omega), own_k3, Int.tdiv_eq_ediv_of_nonneg (by omega)]
theorem own_mo {q : Int64} (h : own_rng q) : ((q - q / ((1000 : Int32).toInt64) * ((1000 : Int32).toInt64)).toInt32).toInt = q.toInt % 1000 := by
  have := h.1
  have e := Jvm.Kit.i64_rem_nonneg (x := q) (y := (1000 : Int32).toInt64) (by omega)
  rw [own_k3] at e
  rw [Jvm.Kit.i32_of_i64 (by omega) (by omega), e]
theorem own_na {q : Int64} (h : own_rng q) : (((q - q / ((1000 : Int32).toInt64) * ((1000 : Int32).toInt64)).toInt32) * (1000000 : Int32)).toInt = q.toInt % 1000 * 1000000 := by
  have e := own_mo h
  have k : (1000000 : Int32).toInt = 1000000 := rfl
  rw [Jvm.Kit.i32_mul (by rw [e, k]; omega) (by rw [e, k]; omega), e, k]
theorem own_c1 {q : Int64} (h : own_rng q) : ¬ ((q / ((1000 : Int32).toInt64)) ||| ((((q - q / ((1000 : Int32).toInt64) * ((1000 : Int32).toInt64)).toInt32) * (1000000 : Int32)).toInt64)) = (0 : Int64) := by
  intro z
  have z2 := congrArg Int64.toBitVec z
  rw [Int64.toBitVec_or] at z2
  have z3 : (q / ((1000 : Int32).toInt64)).toBitVec = 0#64 := (BitVec.or_eq_zero_iff.mp z2).1
  have z4 : q / ((1000 : Int32).toInt64) = 0 := Int64.toBitVec_inj.mp z3
  have e := own_dv h
  rw [z4] at e
  have k : (0 : Int64).toInt = 0 := rfl
  have := h.1
  omega
theorem own_c2 {q : Int64} (h : own_rng q) : ¬ (q / ((1000 : Int32).toInt64)) < (-31557014167219200 : Int64) := by
  have e := own_dv h; have := h.1
  have k : (-31557014167219200 : Int64).toInt = -31557014167219200 := by decide
  rw [Int64.lt_iff_toInt_lt, e, k]; omega
theorem own_c3 {q : Int64} (h : own_rng q) : ¬ (31556889864403199 : Int64) < (q / ((1000 : Int32).toInt64)) := by
  have e := own_dv h; have := h.2
  have k : (31556889864403199 : Int64).toInt = 31556889864403199 := by decide
  rw [Int64.lt_iff_toInt_lt, e, k]; omega
/-- what toEpochMilli's road asks -/
def own_two (u1 : Int64) (u2 : Int32) : Prop := (¬ u1 < (0 : Int64)) ∧ ((u1 * ((1000 : Int32).toInt64)) / ((1000 : Int32).toInt64)) = u1 ∧ (¬ u1 = (-9223372036854775808 : Int64)) ∧ ¬ (((u1 * ((1000 : Int32).toInt64)) ^^^ ((u1 * ((1000 : Int32).toInt64)) + ((u2 / (1000000 : Int32)).toInt64))) &&& (((u2 / (1000000 : Int32)).toInt64) ^^^ ((u1 * ((1000 : Int32).toInt64)) + ((u2 / (1000000 : Int32)).toInt64)))) < (0 : Int64)
def Q4 (Z : State) (q1 : Int64) (q2 : Int64) (h0 : Heap) (n0 : Nat) (v : Option Value) (h : Heap) (L : List Loc) : Prop := v = some (.long (q1 / q2)) ∧ Fr n0 L ∧ h = h0
theorem d4_0 : decode jdk_29_method_49_code 0 = .ok (.lload_n 0, 1) := by decide +kernel
theorem d4_1 : decode jdk_29_method_49_code 1 = .ok (.lload_n 2, 1) := by decide +kernel
theorem d4_2 : decode jdk_29_method_49_code 2 = .ok (.ldiv, 1) := by decide +kernel
theorem d4_3 : decode jdk_29_method_49_code 3 = .ok (.lstore 4, 2) := by decide +kernel
theorem d4_5 : decode jdk_29_method_49_code 5 = .ok (.lload_n 0, 1) := by decide +kernel
theorem d4_6 : decode jdk_29_method_49_code 6 = .ok (.lload_n 2, 1) := by decide +kernel
theorem d4_7 : decode jdk_29_method_49_code 7 = .ok (.lxor, 1) := by decide +kernel
theorem d4_8 : decode jdk_29_method_49_code 8 = .ok (.lconst 0, 1) := by decide +kernel
theorem d4_9 : decode jdk_29_method_49_code 9 = .ok (.lcmp, 1) := by decide +kernel
theorem d4_10 : decode jdk_29_method_49_code 10 = .ok (.ifCond .ge 17, 3) := by decide +kernel
theorem d4_27 : decode jdk_29_method_49_code 27 = .ok (.lload 4, 2) := by decide +kernel
theorem d4_29 : decode jdk_29_method_49_code 29 = .ok (.lreturn, 1) := by decide +kernel
set_option maxRecDepth 65536 in
set_option maxHeartbeats 40000000 in
theorem b4 {p : Program} {l : Launch} {e : Env} {s : State} {m : MethodId} {args : Array Value} {below : List Frame} {meth : Method} {c : Code} {T0 : State} {locs : List Loc} {Z : State} {a0 : Array Value} {h0 : Heap} {n0 : Nat} (q1 : Int64) (q2 : Int64)
    (C : own_C p s m meth c Z a0 jdk_29_method_49_code 6 "java/lang/Math" (some .long) "floorDiv") (X0 : Stand p l e ({ frames := 0, cells := 0, slots := 0, locals := 0 } : Room) s m args below meth c T0 locs 0 0) (e0 : T0.heap = h0) (Z0 : n0 ≤ h0.size) (N0 : Fr n0 locs) (hs : ¬ (q1 ^^^ q2) < (0 : Int64)) (hy : ¬ q2 = 0) :
    own_Go p.tables e below (T0.setTop (mkF m 0 #[.val (.long q1), .second, .val (.long q2), .second, .unset, .unset] [])) (own_K s (fun (v : Option Value) (h : Heap) (L : List Loc) => Q4 Z q1 q2 h0 n0 v h L) ({ frames := 0, cells := 0, slots := 0, locals := 0 } : Room).cells ({ frames := 0, cells := 0, slots := 0, locals := 0 } : Room).slots) := by
  obtain ⟨hx, hZ, hw, hby, hml, hown, hret, hlk, hnm⟩ := C
  refine own_via (G := T0.setTop (mkF m 1 #[.val (.long q1), .second, .val (.long q2), .second, .unset, .unset] [(.long q1)])) (fun t k => XT.lloadN X0.here hx rfl (hb hby d4_0) rfl k) ?_
  refine own_via (G := T0.setTop (mkF m 2 #[.val (.long q1), .second, .val (.long q2), .second, .unset, .unset] [(.long q2), (.long q1)])) (fun t k => XT.lloadN X0.here hx rfl (hb hby d4_1) rfl k) ?_
  refine own_via (G := T0.setTop (mkF m 3 #[.val (.long q1), .second, .val (.long q2), .second, .unset, .unset] [(.long (q1 / q2))])) (fun t k => XT.ldiv X0.here hx rfl (hb hby d4_2) rfl hy k) ?_
  refine own_via (G := T0.setTop (mkF m 5 #[.val (.long q1), .second, .val (.long q2), .second, .val (.long (q1 / q2)), .second] [])) (fun t k => XT.lstore X0.here hx rfl (hb hby d4_3) rfl (l' := #[.val (.long q1), .second, .val (.long q2), .second, .val (.long (q1 / q2)), .second]) rfl k) ?_
  refine own_via (G := T0.setTop (mkF m 6 #[.val (.long q1), .second, .val (.long q2), .second, .val (.long (q1 / q2)), .second] [(.long q1)])) (fun t k => XT.lloadN X0.here hx rfl (hb hby d4_5) rfl k) ?_
  refine own_via (G := T0.setTop (mkF m 7 #[.val (.long q1), .second, .val (.long q2), .second, .val (.long (q1 / q2)), .second] [(.long q2), (.long q1)])) (fun t k => XT.lloadN X0.here hx rfl (hb hby d4_6) rfl k) ?_
  refine own_via (G := T0.setTop (mkF m 8 #[.val (.long q1), .second, .val (.long q2), .second, .val (.long (q1 / q2)), .second] [(.long (q1 ^^^ q2))])) (fun t k => XT.lxor X0.here hx rfl (hb hby d4_7) rfl k) ?_
  refine own_via (G := T0.setTop (mkF m 9 #[.val (.long q1), .second, .val (.long q2), .second, .val (.long (q1 / q2)), .second] [(.long (0 : Int64)), (.long (q1 ^^^ q2))])) (fun t k => XT.lconst X0.here hx rfl (hb hby d4_8) k) ?_
  refine own_via (G := T0.setTop (mkF m 10 #[.val (.long q1), .second, .val (.long q2), .second, .val (.long (q1 / q2)), .second] [(.int (XT.cmpL (q1 ^^^ q2) (0 : Int64)))])) (fun t k => XT.lcmp X0.here hx rfl (hb hby d4_9) rfl k) ?_
  have hc1_10 : ¬ ((q1 ^^^ q2) < (0 : Int64)) := hs
  refine own_via (G := T0.setTop (mkF m 27 #[.val (.long q1), .second, .val (.long q2), .second, .val (.long (q1 / q2)), .second] [])) (fun t k => XS.ifYes X0.here hx rfl (pc0 := 10) (pc' := 27) rfl (hb hby d4_10) rfl (XT.ll_ge_t hc1_10) (by decide) (by decide) k) ?_
  refine own_via (G := T0.setTop (mkF m 29 #[.val (.long q1), .second, .val (.long q2), .second, .val (.long (q1 / q2)), .second] [(.long (q1 / q2))])) (fun t k => XT.lload X0.here hx rfl (hb hby d4_27) rfl k) ?_
  exact own_fin X0 e0 (v := some (.long (q1 / q2))) (fun h => by rw [hret] at h; cases h) hlk (fun fs hr => X0.lreturnOut hx hret (hb hby d4_29) hr) (show ((fun (v : Option Value) (h : Heap) (L : List Loc) => Q4 Z q1 q2 h0 n0 v h L)) (some (.long (q1 / q2))) h0 _ from ⟨rfl, N0, rfl⟩) (by decide) (by decide)
theorem ef_4 (m : MethodId) (q1 : Int64) (q2 : Int64) : entryFrame m #[(.long q1), (.long q2)] 6 = mkF m 0 #[.val (.long q1), .second, .val (.long q2), .second, .unset, .unset] [] := by first | (simp [entryFrame, mkF, argsToLocals, Value.category, maxLocals]; done) | rfl
set_option maxRecDepth 65536 in
set_option maxHeartbeats 40000000 in
theorem rm4 (l : Launch) (Z : State) (a0 : Array Value) (hw : ∀ d ∈ tables_1, d.before a0 Z = true) (ws : List Jvm.Cond) (q1 : Int64) (q2 : Int64) (h0 : Heap) (n0 : Nat) (Z0 : n0 ≤ h0.size) (hs : ¬ (q1 ^^^ q2) < (0 : Int64)) (hy : ¬ q2 = 0) :
    MetFree l (⟨"java/lang/Math", "floorDiv", "(JJ)J"⟩ : MethodName) (head1 (Jvm.Cond.code (⟨"java/lang/Math", "floorDiv", "(JJ)J"⟩ : MethodName) jdk_29_method_49_code 6 (some .long) :: ws) ({ frames := 0, cells := 0, slots := 0, locals := 0 } : Room)) (fun a U => a = #[(.long q1), (.long q2)] ∧ Z.Warmed39 U.vm ∧ U.heap = h0) (fun _ _ _ _ _ => True) (fun _ U o U' => ∃ v L, o = .returned v ∧ Q4 Z q1 q2 h0 n0 v U'.heap L ∧ FrameEnd U o U' L ({ frames := 0, cells := 0, slots := 0, locals := 0 } : Room).cells ({ frames := 0, cells := 0, slots := 0, locals := 0 } : Room).slots) := by
  refine MetFree.of_bodySF (Jvm.Free.JP.mathPlain rfl (by decide +kernel)) hisR ?_
  intro p e s m args below meth c s₁ Bd hml0 hP hK
  obtain ⟨rfl, hZ, hh⟩ := hP
  have e0 : s₁.heap = h0 := by rw [← hh, Bd.state]; rfl
  rw [ef_4 m q1 q2]
  exact b4 q1 q2 ⟨Bd.exec, hZ, hw, Bd.bytes, hml0, findClass_of_methodNamed Bd.named, Bd.returns, Bd.notSynchronized, (name_of_methodNamed Bd.named Bd.method).1⟩ (Stand.of_body Bd) e0 Z0 (Fr.nil n0) hs hy
def Q3 (Z : State) (q1 : Int64) (q2 : Int32) (h0 : Heap) (n0 : Nat) (v : Option Value) (h : Heap) (L : List Loc) : Prop := v = some (.long (q1 / q2.toInt64)) ∧ Fr n0 L ∧ h = h0
theorem d3_0 : decode jdk_29_method_48_code 0 = .ok (.lload_n 0, 1) := by decide +kernel
theorem d3_1 : decode jdk_29_method_48_code 1 = .ok (.iload_n 2, 1) := by decide +kernel
theorem d3_2 : decode jdk_29_method_48_code 2 = .ok (.i2l, 1) := by decide +kernel
theorem d3_3 : decode jdk_29_method_48_code 3 = .ok (.invokestatic 143, 3) := by decide +kernel
theorem pd_0 : parseMethodDescriptor "(JJ)J" = some ⟨[.long, .long], some .long⟩ := by decide +kernel
theorem d3_6 : decode jdk_29_method_48_code 6 = .ok (.lreturn, 1) := by decide +kernel
set_option maxRecDepth 65536 in
set_option maxHeartbeats 40000000 in
theorem b3 {p : Program} {l : Launch} {e : Env} {s : State} {m : MethodId} {args : Array Value} {below : List Frame} {meth : Method} {c : Code} {T0 : State} {locs : List Loc} {Z : State} {a0 : Array Value} {h0 : Heap} {n0 : Nat} (q1 : Int64) (q2 : Int32)
    (C : own_C p s m meth c Z a0 jdk_29_method_48_code 3 "java/lang/Math" (some .long) "floorDiv") (X0 : Stand p l e ({ frames := 1, cells := 0, slots := 0, locals := 17 } : Room) s m args below meth c T0 locs 0 0) (e0 : T0.heap = h0) (Z0 : n0 ≤ h0.size) (N0 : Fr n0 locs) (hs : ¬ (q1 ^^^ (q2.toInt64)) < (0 : Int64)) (hy : ¬ (q2.toInt64) = 0) :
    own_Go p.tables e below (T0.setTop (mkF m 0 #[.val (.long q1), .second, .val (.int q2)] [])) (own_K s (fun (v : Option Value) (h : Heap) (L : List Loc) => Q3 Z q1 q2 h0 n0 v h L) ({ frames := 1, cells := 0, slots := 0, locals := 17 } : Room).cells ({ frames := 1, cells := 0, slots := 0, locals := 17 } : Room).slots) := by
  obtain ⟨hx, hZ, hw, hby, hml, hown, hret, hlk, hnm⟩ := C
  refine own_via (G := T0.setTop (mkF m 1 #[.val (.long q1), .second, .val (.int q2)] [(.long q1)])) (fun t k => XT.lloadN X0.here hx rfl (hb hby d3_0) rfl k) ?_
  refine own_via (G := T0.setTop (mkF m 2 #[.val (.long q1), .second, .val (.int q2)] [(.int q2), (.long q1)])) (fun t k => XS.iloadN X0.here hx rfl (hb hby d3_1) rfl k) ?_
  refine own_via (G := T0.setTop (mkF m 3 #[.val (.long q1), .second, .val (.int q2)] [(.long (q2.toInt64)), (.long q1)])) (fun t k => XT.i2l X0.here hx rfl (hb hby d3_2) rfl k) ?_
  obtain ⟨_, _, ⟨T1, L1, k1, n1⟩, -, X1, ⟨Lc1, hQ1, l1, y1, z1⟩, st1⟩ := Jvm.LawKit.callS X0 hx (y := (⟨"java/lang/Math", "floorDiv", "(JJ)J"⟩ : MethodName)) hown (mvT hZ (hw _ (List.mem_of_getElem? (i := 15) rfl))) (mvT hZ (hw _ (List.mem_of_getElem? (i := 16) rfl))) (mvT hZ (hw _ (List.mem_of_getElem? (i := 13) rfl))) (mvT hZ (hw _ (List.mem_of_getElem? (i := 17) rfl))) (by decide) (backOf (W := 0) (rm4 l Z a0 hw [] q1 (q2.toInt64) h0 n0 Z0 hs hy) hZ (hw _ (List.mem_of_getElem? (i := 17) rfl)) (hw _ (List.mem_of_getElem? (i := 13) rfl)) (by decide) (by decide)) (g := (mkF m 3 #[.val (.long q1), .second, .val (.int q2)] [(.long (q2.toInt64)), (.long q1)])) rfl (by rw [hml]; rfl) (argsL := [(.long q1), (.long (q2.toInt64))]) (rest := []) (lenOf pd_0 rfl) rfl (by show 2 * 0 + _ ≤ _; exact Nat.le_of_eq rfl) (hb hby d3_3) (fun _ _ => ⟨rfl, e0, (by decide : 0 + 0 ≤ _), (by decide : 0 + 0 ≤ _)⟩)
  dsimp only [Pt.U, Pt.locs, Pt.cells, Pt.slots] at X1 l1 y1 z1 st1 hQ1
  subst l1 y1 z1
  obtain ⟨rfl, Nq1, eh1⟩ := hQ1
  have N1 := Fr.app N0 Nq1
  refine own_via (G := T1.setTop (mkF m 6 #[.val (.long q1), .second, .val (.int q2)] [(.long (q1 / (q2.toInt64)))])) (fun t k => st1 t k) ?_
  exact own_fin X1 eh1 (v := some (.long (q1 / (q2.toInt64)))) (fun h => by rw [hret] at h; cases h) hlk (fun fs hr => X1.lreturnOut hx hret (hb hby d3_6) hr) (show ((fun (v : Option Value) (h : Heap) (L : List Loc) => Q3 Z q1 q2 h0 n0 v h L)) (some (.long (q1 / (q2.toInt64)))) h0 _ from ⟨rfl, N1, rfl⟩) (by decide) (by decide)
theorem ef_3 (m : MethodId) (q1 : Int64) (q2 : Int32) : entryFrame m #[(.long q1), (.int q2)] 3 = mkF m 0 #[.val (.long q1), .second, .val (.int q2)] [] := by first | (simp [entryFrame, mkF, argsToLocals, Value.category, maxLocals]; done) | rfl
set_option maxRecDepth 65536 in
set_option maxHeartbeats 40000000 in
theorem rm3 (l : Launch) (Z : State) (a0 : Array Value) (hw : ∀ d ∈ tables_1, d.before a0 Z = true) (ws : List Jvm.Cond) (q1 : Int64) (q2 : Int32) (h0 : Heap) (n0 : Nat) (Z0 : n0 ≤ h0.size) (hs : ¬ (q1 ^^^ (q2.toInt64)) < (0 : Int64)) (hy : ¬ (q2.toInt64) = 0) :
    MetFree l (⟨"java/lang/Math", "floorDiv", "(JI)J"⟩ : MethodName) (head1 (Jvm.Cond.code (⟨"java/lang/Math", "floorDiv", "(JI)J"⟩ : MethodName) jdk_29_method_48_code 3 (some .long) :: ws) ({ frames := 1, cells := 0, slots := 0, locals := 17 } : Room)) (fun a U => a = #[(.long q1), (.int q2)] ∧ Z.Warmed39 U.vm ∧ U.heap = h0) (fun _ _ _ _ _ => True) (fun _ U o U' => ∃ v L, o = .returned v ∧ Q3 Z q1 q2 h0 n0 v U'.heap L ∧ FrameEnd U o U' L ({ frames := 1, cells := 0, slots := 0, locals := 17 } : Room).cells ({ frames := 1, cells := 0, slots := 0, locals := 17 } : Room).slots) := by
  refine MetFree.of_bodySF (Jvm.Free.JP.mathPlain rfl (by decide +kernel)) hisR ?_
  intro p e s m args below meth c s₁ Bd hml0 hP hK
  obtain ⟨rfl, hZ, hh⟩ := hP
  have e0 : s₁.heap = h0 := by rw [← hh, Bd.state]; rfl
  rw [ef_3 m q1 q2]
  exact b3 q1 q2 ⟨Bd.exec, hZ, hw, Bd.bytes, hml0, findClass_of_methodNamed Bd.named, Bd.returns, Bd.notSynchronized, (name_of_methodNamed Bd.named Bd.method).1⟩ (Stand.of_body Bd) e0 Z0 (Fr.nil n0) hs hy
def Q6 (Z : State) (q1 : Int64) (q2 : Int64) (h0 : Heap) (n0 : Nat) (v : Option Value) (h : Heap) (L : List Loc) : Prop := v = some (.long (q1 - q1 / q2 * q2)) ∧ Fr n0 L ∧ h = h0
theorem d6_0 : decode jdk_29_method_52_code 0 = .ok (.lload_n 0, 1) := by decide +kernel
theorem d6_1 : decode jdk_29_method_52_code 1 = .ok (.lload_n 2, 1) := by decide +kernel
theorem d6_2 : decode jdk_29_method_52_code 2 = .ok (.lrem, 1) := by decide +kernel
theorem d6_3 : decode jdk_29_method_52_code 3 = .ok (.lstore 4, 2) := by decide +kernel
theorem d6_5 : decode jdk_29_method_52_code 5 = .ok (.lload_n 0, 1) := by decide +kernel
theorem d6_6 : decode jdk_29_method_52_code 6 = .ok (.lload_n 2, 1) := by decide +kernel
theorem d6_7 : decode jdk_29_method_52_code 7 = .ok (.lxor, 1) := by decide +kernel
theorem d6_8 : decode jdk_29_method_52_code 8 = .ok (.lconst 0, 1) := by decide +kernel
theorem d6_9 : decode jdk_29_method_52_code 9 = .ok (.lcmp, 1) := by decide +kernel
theorem d6_10 : decode jdk_29_method_52_code 10 = .ok (.ifCond .ge 15, 3) := by decide +kernel
theorem d6_25 : decode jdk_29_method_52_code 25 = .ok (.lload 4, 2) := by decide +kernel
theorem d6_27 : decode jdk_29_method_52_code 27 = .ok (.lreturn, 1) := by decide +kernel
set_option maxRecDepth 65536 in
set_option maxHeartbeats 40000000 in
theorem b6 {p : Program} {l : Launch} {e : Env} {s : State} {m : MethodId} {args : Array Value} {below : List Frame} {meth : Method} {c : Code} {T0 : State} {locs : List Loc} {Z : State} {a0 : Array Value} {h0 : Heap} {n0 : Nat} (q1 : Int64) (q2 : Int64)
    (C : own_C p s m meth c Z a0 jdk_29_method_52_code 6 "java/lang/Math" (some .long) "floorMod") (X0 : Stand p l e ({ frames := 0, cells := 0, slots := 0, locals := 0 } : Room) s m args below meth c T0 locs 0 0) (e0 : T0.heap = h0) (Z0 : n0 ≤ h0.size) (N0 : Fr n0 locs) (hs : ¬ (q1 ^^^ q2) < (0 : Int64)) (hy : ¬ q2 = 0) :
    own_Go p.tables e below (T0.setTop (mkF m 0 #[.val (.long q1), .second, .val (.long q2), .second, .unset, .unset] [])) (own_K s (fun (v : Option Value) (h : Heap) (L : List Loc) => Q6 Z q1 q2 h0 n0 v h L) ({ frames := 0, cells := 0, slots := 0, locals := 0 } : Room).cells ({ frames := 0, cells := 0, slots := 0, locals := 0 } : Room).slots) := by
  obtain ⟨hx, hZ, hw, hby, hml, hown, hret, hlk, hnm⟩ := C
  refine own_via (G := T0.setTop (mkF m 1 #[.val (.long q1), .second, .val (.long q2), .second, .unset, .unset] [(.long q1)])) (fun t k => XT.lloadN X0.here hx rfl (hb hby d6_0) rfl k) ?_
  refine own_via (G := T0.setTop (mkF m 2 #[.val (.long q1), .second, .val (.long q2), .second, .unset, .unset] [(.long q2), (.long q1)])) (fun t k => XT.lloadN X0.here hx rfl (hb hby d6_1) rfl k) ?_
  refine own_via (G := T0.setTop (mkF m 3 #[.val (.long q1), .second, .val (.long q2), .second, .unset, .unset] [(.long (q1 - q1 / q2 * q2))])) (fun t k => XT.lrem X0.here hx rfl (hb hby d6_2) rfl hy k) ?_
  refine own_via (G := T0.setTop (mkF m 5 #[.val (.long q1), .second, .val (.long q2), .second, .val (.long (q1 - q1 / q2 * q2)), .second] [])) (fun t k => XT.lstore X0.here hx rfl (hb hby d6_3) rfl (l' := #[.val (.long q1), .second, .val (.long q2), .second, .val (.long (q1 - q1 / q2 * q2)), .second]) rfl k) ?_
  refine own_via (G := T0.setTop (mkF m 6 #[.val (.long q1), .second, .val (.long q2), .second, .val (.long (q1 - q1 / q2 * q2)), .second] [(.long q1)])) (fun t k => XT.lloadN X0.here hx rfl (hb hby d6_5) rfl k) ?_
  refine own_via (G := T0.setTop (mkF m 7 #[.val (.long q1), .second, .val (.long q2), .second, .val (.long (q1 - q1 / q2 * q2)), .second] [(.long q2), (.long q1)])) (fun t k => XT.lloadN X0.here hx rfl (hb hby d6_6) rfl k) ?_
  refine own_via (G := T0.setTop (mkF m 8 #[.val (.long q1), .second, .val (.long q2), .second, .val (.long (q1 - q1 / q2 * q2)), .second] [(.long (q1 ^^^ q2))])) (fun t k => XT.lxor X0.here hx rfl (hb hby d6_7) rfl k) ?_
  refine own_via (G := T0.setTop (mkF m 9 #[.val (.long q1), .second, .val (.long q2), .second, .val (.long (q1 - q1 / q2 * q2)), .second] [(.long (0 : Int64)), (.long (q1 ^^^ q2))])) (fun t k => XT.lconst X0.here hx rfl (hb hby d6_8) k) ?_
  refine own_via (G := T0.setTop (mkF m 10 #[.val (.long q1), .second, .val (.long q2), .second, .val (.long (q1 - q1 / q2 * q2)), .second] [(.int (XT.cmpL (q1 ^^^ q2) (0 : Int64)))])) (fun t k => XT.lcmp X0.here hx rfl (hb hby d6_9) rfl k) ?_
  have hc1_10 : ¬ ((q1 ^^^ q2) < (0 : Int64)) := hs
  refine own_via (G := T0.setTop (mkF m 25 #[.val (.long q1), .second, .val (.long q2), .second, .val (.long (q1 - q1 / q2 * q2)), .second] [])) (fun t k => XS.ifYes X0.here hx rfl (pc0 := 10) (pc' := 25) rfl (hb hby d6_10) rfl (XT.ll_ge_t hc1_10) (by decide) (by decide) k) ?_
  refine own_via (G := T0.setTop (mkF m 27 #[.val (.long q1), .second, .val (.long q2), .second, .val (.long (q1 - q1 / q2 * q2)), .second] [(.long (q1 - q1 / q2 * q2))])) (fun t k => XT.lload X0.here hx rfl (hb hby d6_25) rfl k) ?_
  exact own_fin X0 e0 (v := some (.long (q1 - q1 / q2 * q2))) (fun h => by rw [hret] at h; cases h) hlk (fun fs hr => X0.lreturnOut hx hret (hb hby d6_27) hr) (show ((fun (v : Option Value) (h : Heap) (L : List Loc) => Q6 Z q1 q2 h0 n0 v h L)) (some (.long (q1 - q1 / q2 * q2))) h0 _ from ⟨rfl, N0, rfl⟩) (by decide) (by decide)
theorem ef_6 (m : MethodId) (q1 : Int64) (q2 : Int64) : entryFrame m #[(.long q1), (.long q2)] 6 = mkF m 0 #[.val (.long q1), .second, .val (.long q2), .second, .unset, .unset] [] := by first | (simp [entryFrame, mkF, argsToLocals, Value.category, maxLocals]; done) | rfl
set_option maxRecDepth 65536 in
set_option maxHeartbeats 40000000 in
theorem rm6 (l : Launch) (Z : State) (a0 : Array Value) (hw : ∀ d ∈ tables_1, d.before a0 Z = true) (ws : List Jvm.Cond) (q1 : Int64) (q2 : Int64) (h0 : Heap) (n0 : Nat) (Z0 : n0 ≤ h0.size) (hs : ¬ (q1 ^^^ q2) < (0 : Int64)) (hy : ¬ q2 = 0) :
    MetFree l (⟨"java/lang/Math", "floorMod", "(JJ)J"⟩ : MethodName) (head1 (Jvm.Cond.code (⟨"java/lang/Math", "floorMod", "(JJ)J"⟩ : MethodName) jdk_29_method_52_code 6 (some .long) :: ws) ({ frames := 0, cells := 0, slots := 0, locals := 0 } : Room)) (fun a U => a = #[(.long q1), (.long q2)] ∧ Z.Warmed39 U.vm ∧ U.heap = h0) (fun _ _ _ _ _ => True) (fun _ U o U' => ∃ v L, o = .returned v ∧ Q6 Z q1 q2 h0 n0 v U'.heap L ∧ FrameEnd U o U' L ({ frames := 0, cells := 0, slots := 0, locals := 0 } : Room).cells ({ frames := 0, cells := 0, slots := 0, locals := 0 } : Room).slots) := by
  refine MetFree.of_bodySF (Jvm.Free.JP.mathPlain rfl (by decide +kernel)) hisR ?_
  intro p e s m args below meth c s₁ Bd hml0 hP hK
  obtain ⟨rfl, hZ, hh⟩ := hP
  have e0 : s₁.heap = h0 := by rw [← hh, Bd.state]; rfl
  rw [ef_6 m q1 q2]
  exact b6 q1 q2 ⟨Bd.exec, hZ, hw, Bd.bytes, hml0, findClass_of_methodNamed Bd.named, Bd.returns, Bd.notSynchronized, (name_of_methodNamed Bd.named Bd.method).1⟩ (Stand.of_body Bd) e0 Z0 (Fr.nil n0) hs hy
def Q5 (Z : State) (q1 : Int64) (q2 : Int32) (h0 : Heap) (n0 : Nat) (v : Option Value) (h : Heap) (L : List Loc) : Prop := v = some (.int ((q1 - q1 / (q2.toInt64) * (q2.toInt64)).toInt32)) ∧ Fr n0 L ∧ h = h0
theorem d5_0 : decode jdk_29_method_51_code 0 = .ok (.lload_n 0, 1) := by decide +kernel
theorem d5_1 : decode jdk_29_method_51_code 1 = .ok (.iload_n 2, 1) := by decide +kernel
theorem d5_2 : decode jdk_29_method_51_code 2 = .ok (.i2l, 1) := by decide +kernel
theorem d5_3 : decode jdk_29_method_51_code 3 = .ok (.invokestatic 146, 3) := by decide +kernel
theorem d5_6 : decode jdk_29_method_51_code 6 = .ok (.l2i, 1) := by decide +kernel
theorem d5_7 : decode jdk_29_method_51_code 7 = .ok (.ireturn, 1) := by decide +kernel
set_option maxRecDepth 65536 in
set_option maxHeartbeats 40000000 in
theorem b5 {p : Program} {l : Launch} {e : Env} {s : State} {m : MethodId} {args : Array Value} {below : List Frame} {meth : Method} {c : Code} {T0 : State} {locs : List Loc} {Z : State} {a0 : Array Value} {h0 : Heap} {n0 : Nat} (q1 : Int64) (q2 : Int32)
    (C : own_C p s m meth c Z a0 jdk_29_method_51_code 3 "java/lang/Math" (some .int) "floorMod") (X0 : Stand p l e ({ frames := 1, cells := 0, slots := 0, locals := 17 } : Room) s m args below meth c T0 locs 0 0) (e0 : T0.heap = h0) (Z0 : n0 ≤ h0.size) (N0 : Fr n0 locs) (hs : ¬ (q1 ^^^ (q2.toInt64)) < (0 : Int64)) (hy : ¬ (q2.toInt64) = 0) :
    own_Go p.tables e below (T0.setTop (mkF m 0 #[.val (.long q1), .second, .val (.int q2)] [])) (own_K s (fun (v : Option Value) (h : Heap) (L : List Loc) => Q5 Z q1 q2 h0 n0 v h L) ({ frames := 1, cells := 0, slots := 0, locals := 17 } : Room).cells ({ frames := 1, cells := 0, slots := 0, locals := 17 } : Room).slots) := by
  obtain ⟨hx, hZ, hw, hby, hml, hown, hret, hlk, hnm⟩ := C
  refine own_via (G := T0.setTop (mkF m 1 #[.val (.long q1), .second, .val (.int q2)] [(.long q1)])) (fun t k => XT.lloadN X0.here hx rfl (hb hby d5_0) rfl k) ?_
  refine own_via (G := T0.setTop (mkF m 2 #[.val (.long q1), .second, .val (.int q2)] [(.int q2), (.long q1)])) (fun t k => XS.iloadN X0.here hx rfl (hb hby d5_1) rfl k) ?_
  refine own_via (G := T0.setTop (mkF m 3 #[.val (.long q1), .second, .val (.int q2)] [(.long (q2.toInt64)), (.long q1)])) (fun t k => XT.i2l X0.here hx rfl (hb hby d5_2) rfl k) ?_
  obtain ⟨_, _, ⟨T1, L1, k1, n1⟩, -, X1, ⟨Lc1, hQ1, l1, y1, z1⟩, st1⟩ := Jvm.LawKit.callS X0 hx (y := (⟨"java/lang/Math", "floorMod", "(JJ)J"⟩ : MethodName)) hown (mvT hZ (hw _ (List.mem_of_getElem? (i := 21) rfl))) (mvT hZ (hw _ (List.mem_of_getElem? (i := 22) rfl))) (mvT hZ (hw _ (List.mem_of_getElem? (i := 13) rfl))) (mvT hZ (hw _ (List.mem_of_getElem? (i := 23) rfl))) (by decide) (backOf (W := 0) (rm6 l Z a0 hw [] q1 (q2.toInt64) h0 n0 Z0 hs hy) hZ (hw _ (List.mem_of_getElem? (i := 23) rfl)) (hw _ (List.mem_of_getElem? (i := 13) rfl)) (by decide) (by decide)) (g := (mkF m 3 #[.val (.long q1), .second, .val (.int q2)] [(.long (q2.toInt64)), (.long q1)])) rfl (by rw [hml]; rfl) (argsL := [(.long q1), (.long (q2.toInt64))]) (rest := []) (lenOf pd_0 rfl) rfl (by show 2 * 0 + _ ≤ _; exact Nat.le_of_eq rfl) (hb hby d5_3) (fun _ _ => ⟨rfl, e0, (by decide : 0 + 0 ≤ _), (by decide : 0 + 0 ≤ _)⟩)
  dsimp only [Pt.U, Pt.locs, Pt.cells, Pt.slots] at X1 l1 y1 z1 st1 hQ1
  subst l1 y1 z1
  obtain ⟨rfl, Nq1, eh1⟩ := hQ1
  have N1 := Fr.app N0 Nq1
  refine own_via (G := T1.setTop (mkF m 6 #[.val (.long q1), .second, .val (.int q2)] [(.long (q1 - q1 / (q2.toInt64) * (q2.toInt64)))])) (fun t k => st1 t k) ?_
  refine own_via (G := T1.setTop (mkF m 7 #[.val (.long q1), .second, .val (.int q2)] [(.int ((q1 - q1 / (q2.toInt64) * (q2.toInt64)).toInt32))])) (fun t k => XT.l2i X1.here hx rfl (hb hby d5_6) rfl k) ?_
  exact own_fin X1 eh1 (v := some (.int ((q1 - q1 / (q2.toInt64) * (q2.toInt64)).toInt32))) (fun h => by rw [hret] at h; cases h) hlk (fun fs hr => retI X1 hx hret (hb hby d5_7) hr) (show ((fun (v : Option Value) (h : Heap) (L : List Loc) => Q5 Z q1 q2 h0 n0 v h L)) (some (.int ((q1 - q1 / (q2.toInt64) * (q2.toInt64)).toInt32))) h0 _ from ⟨rfl, N1, rfl⟩) (by decide) (by decide)
theorem ef_5 (m : MethodId) (q1 : Int64) (q2 : Int32) : entryFrame m #[(.long q1), (.int q2)] 3 = mkF m 0 #[.val (.long q1), .second, .val (.int q2)] [] := by first | (simp [entryFrame, mkF, argsToLocals, Value.category, maxLocals]; done) | rfl
set_option maxRecDepth 65536 in
set_option maxHeartbeats 40000000 in
theorem rm5 (l : Launch) (Z : State) (a0 : Array Value) (hw : ∀ d ∈ tables_1, d.before a0 Z = true) (ws : List Jvm.Cond) (q1 : Int64) (q2 : Int32) (h0 : Heap) (n0 : Nat) (Z0 : n0 ≤ h0.size) (hs : ¬ (q1 ^^^ (q2.toInt64)) < (0 : Int64)) (hy : ¬ (q2.toInt64) = 0) :
    MetFree l (⟨"java/lang/Math", "floorMod", "(JI)I"⟩ : MethodName) (head1 (Jvm.Cond.code (⟨"java/lang/Math", "floorMod", "(JI)I"⟩ : MethodName) jdk_29_method_51_code 3 (some .int) :: ws) ({ frames := 1, cells := 0, slots := 0, locals := 17 } : Room)) (fun a U => a = #[(.long q1), (.int q2)] ∧ Z.Warmed39 U.vm ∧ U.heap = h0) (fun _ _ _ _ _ => True) (fun _ U o U' => ∃ v L, o = .returned v ∧ Q5 Z q1 q2 h0 n0 v U'.heap L ∧ FrameEnd U o U' L ({ frames := 1, cells := 0, slots := 0, locals := 17 } : Room).cells ({ frames := 1, cells := 0, slots := 0, locals := 17 } : Room).slots) := by
  refine MetFree.of_bodySF (Jvm.Free.JP.mathPlain rfl (by decide +kernel)) hisR ?_
  intro p e s m args below meth c s₁ Bd hml0 hP hK
  obtain ⟨rfl, hZ, hh⟩ := hP
  have e0 : s₁.heap = h0 := by rw [← hh, Bd.state]; rfl
  rw [ef_5 m q1 q2]
  exact b5 q1 q2 ⟨Bd.exec, hZ, hw, Bd.bytes, hml0, findClass_of_methodNamed Bd.named, Bd.returns, Bd.notSynchronized, (name_of_methodNamed Bd.named Bd.method).1⟩ (Stand.of_body Bd) e0 Z0 (Fr.nil n0) hs hy
def Q8 (Z : State) (o1 : Addr) (q1 : Int64) (q2 : Int32) (u1 : Int64) (u2 : Int32) (h0 : Heap) (n0 : Nat) (v : Option Value) (h : Heap) (L : List Loc) : Prop := v = none ∧ Fr n0 L ∧ Keep h0 h [o1] ∧ Exa Z h o1 "java/time/Instant" ∧ Fld Z h o1 "java/time/Instant" "seconds" "J" (.long q1) ∧ Fld Z h o1 "java/time/Instant" "nanos" "I" (.int q2)
theorem d8_0 : decode jdk_2320_method_9_code 0 = .ok (.aload_n 0, 1) := by decide +kernel
theorem d8_1 : decode jdk_2320_method_9_code 1 = .ok (.invokespecial 137, 3) := by decide +kernel
theorem d8_4 : decode jdk_2320_method_9_code 4 = .ok (.aload_n 0, 1) := by decide +kernel
theorem d8_5 : decode jdk_2320_method_9_code 5 = .ok (.lload_n 1, 1) := by decide +kernel
theorem d8_6 : decode jdk_2320_method_9_code 6 = .ok (.putfield 140, 3) := by decide +kernel
theorem d8_9 : decode jdk_2320_method_9_code 9 = .ok (.aload_n 0, 1) := by decide +kernel
theorem d8_10 : decode jdk_2320_method_9_code 10 = .ok (.iload_n 3, 1) := by decide +kernel
theorem d8_11 : decode jdk_2320_method_9_code 11 = .ok (.putfield 144, 3) := by decide +kernel
theorem d8_14 : decode jdk_2320_method_9_code 14 = .ok (.return_, 1) := by decide +kernel
set_option maxRecDepth 65536 in
set_option maxHeartbeats 40000000 in
theorem b8 {p : Program} {l : Launch} {e : Env} {s : State} {m : MethodId} {args : Array Value} {below : List Frame} {meth : Method} {c : Code} {T0 : State} {locs : List Loc} {Z : State} {a0 : Array Value} {h0 : Heap} {n0 : Nat} (o1 : Addr) (q1 : Int64) (q2 : Int32) (u1 : Int64) (u2 : Int32)
    (C : own_C p s m meth c Z a0 jdk_2320_method_9_code 4 "java/time/Instant" none "<init>") (X0 : Stand p l e ({ frames := 1, cells := 0, slots := 0, locals := 12 } : Room) s m args below meth c T0 locs 0 0) (e0 : T0.heap = h0) (Z0 : n0 ≤ h0.size) (N0 : Fr n0 locs) (E1 : Exa Z h0 o1 "java/time/Instant") (F1 : Fld Z h0 o1 "java/time/Instant" "seconds" "J" (.long u1)) (F2 : Fld Z h0 o1 "java/time/Instant" "nanos" "I" (.int u2)) (g_o1 : n0 ≤ o1) :
    own_Go p.tables e below (T0.setTop (mkF m 0 #[.val (.ref o1), .val (.long q1), .second, .val (.int q2)] [])) (own_K s (fun (v : Option Value) (h : Heap) (L : List Loc) => Q8 Z o1 q1 q2 u1 u2 h0 n0 v h L) ({ frames := 1, cells := 0, slots := 0, locals := 12 } : Room).cells ({ frames := 1, cells := 0, slots := 0, locals := 12 } : Room).slots) := by
  obtain ⟨hx, hZ, hw, hby, hml, hown, hret, hlk, hnm⟩ := C
  refine own_via (G := T0.setTop (mkF m 1 #[.val (.ref o1), .val (.long q1), .second, .val (.int q2)] [(.ref o1)])) (fun t k => XS.aloadN X0.here hx rfl (hb hby d8_0) rfl rfl k) ?_
  obtain ⟨T1, X1, e1, st1⟩ := initO X0 hx hZ hown (hw _ (List.mem_of_getElem? (i := 36) rfl)) (hw _ (List.mem_of_getElem? (i := 37) rfl)) (hw _ (List.mem_of_getElem? (i := 38) rfl)) e0 (g := (mkF m 1 #[.val (.ref o1), .val (.long q1), .second, .val (.int q2)] [(.ref o1)])) rfl (by rw [hml]; rfl) rfl (hb hby d8_1) (by decide) (W := 0) (by show 2 * 0 + _ ≤ _; exact Nat.le_of_eq rfl) (by decide)
  refine own_via (G := T1.setTop (mkF m 4 #[.val (.ref o1), .val (.long q1), .second, .val (.int q2)] [])) (fun t k => st1 t k) ?_
  refine own_via (G := T1.setTop (mkF m 5 #[.val (.ref o1), .val (.long q1), .second, .val (.int q2)] [(.ref o1)])) (fun t k => XS.aloadN X1.here hx rfl (hb hby d8_4) rfl rfl k) ?_
  refine own_via (G := T1.setTop (mkF m 6 #[.val (.ref o1), .val (.long q1), .second, .val (.int q2)] [(.long q1), (.ref o1)])) (fun t k => XT.lloadN X1.here hx rfl (hb hby d8_5) rfl k) ?_
  obtain ⟨T2, h2, X2, e2, W2, st2⟩ := putF X1 hx hZ hown (host := "") (Or.inl (hw _ (List.mem_of_getElem? (i := 39) rfl))) Via.refl e1 F1 E1 (Or.inr ⟨(hw _ (List.mem_of_getElem? (i := 40) rfl)), rfl, hnm⟩) (hw _ (List.mem_of_getElem? (i := 31) rfl)) (ty := .long) (by decide) rfl rfl (g := (mkF m 6 #[.val (.ref o1), .val (.long q1), .second, .val (.int q2)] [(.long q1), (.ref o1)])) rfl rfl (hb hby d8_6)
  have F1'2 := F1.same W2
  have E1'2 := E1.wr W2
  have F2'2 := F2.other W2 (Or.inr (slot_ne (Or.inr (hw _ (List.mem_of_getElem? (i := 42) rfl))) (Or.inr (hw _ (List.mem_of_getElem? (i := 40) rfl))) (by decide) (t := .int) (t' := .long) (by decide) (by decide)))
  have N2 := Fr.snoc X2 N0 g_o1
  have Z2 : n0 ≤ h2.size := Nat.le_trans Z0 (Keep.of_wr W2).1
  have K2 := ((Keep.refl h0 [o1])).wr W2 (Or.inl (List.mem_of_getElem? (i := 0) rfl))
  refine own_via (G := T2.setTop (mkF m 9 #[.val (.ref o1), .val (.long q1), .second, .val (.int q2)] [])) (fun t k => st2 t k) ?_
  refine own_via (G := T2.setTop (mkF m 10 #[.val (.ref o1), .val (.long q1), .second, .val (.int q2)] [(.ref o1)])) (fun t k => XS.aloadN X2.here hx rfl (hb hby d8_9) rfl rfl k) ?_
  refine own_via (G := T2.setTop (mkF m 11 #[.val (.ref o1), .val (.long q1), .second, .val (.int q2)] [(.int q2), (.ref o1)])) (fun t k => XS.iloadN X2.here hx rfl (hb hby d8_10) rfl k) ?_
  obtain ⟨T3, h3, X3, e3, W3, st3⟩ := putF X2 hx hZ hown (host := "") (Or.inl (hw _ (List.mem_of_getElem? (i := 41) rfl))) Via.refl e2 F2'2 E1'2 (Or.inr ⟨(hw _ (List.mem_of_getElem? (i := 42) rfl)), rfl, hnm⟩) (hw _ (List.mem_of_getElem? (i := 31) rfl)) (ty := .int) (by decide) rfl rfl (g := (mkF m 11 #[.val (.ref o1), .val (.long q1), .second, .val (.int q2)] [(.int q2), (.ref o1)])) rfl rfl (hb hby d8_11)
  have F2'3 := F2'2.same W3
  have E1'3 := E1'2.wr W3
  have F1'3 := F1'2.other W3 (Or.inr (slot_ne (Or.inr (hw _ (List.mem_of_getElem? (i := 40) rfl))) (Or.inr (hw _ (List.mem_of_getElem? (i := 42) rfl))) (by decide) (t := .long) (t' := .int) (by decide) (by decide)))
  have N3 := Fr.snoc X3 N2 g_o1
  have Z3 : n0 ≤ h3.size := Nat.le_trans Z2 (Keep.of_wr W3).1
  have K3 := (K2).wr W3 (Or.inl (List.mem_of_getElem? (i := 0) rfl))
  refine own_via (G := T3.setTop (mkF m 14 #[.val (.ref o1), .val (.long q1), .second, .val (.int q2)] [])) (fun t k => st3 t k) ?_
  exact own_fin X3 e3 (v := none) (fun _ => rfl) hlk (fun fs hr => X3.returnOut hx hret (hb hby d8_14) hr) (show ((fun (v : Option Value) (h : Heap) (L : List Loc) => Q8 Z o1 q1 q2 u1 u2 h0 n0 v h L)) none h3 _ from ⟨rfl, N3, K3, (E1'3), (F1'3), (F2'3)⟩) (by decide) (by decide)
theorem pn_0 : plainName "java/time/Instant" = true := by first | (simp [plainName, overriddenIn]; done) | decide +kernel
theorem ef_8 (m : MethodId) (o1 : Addr) (q1 : Int64) (q2 : Int32) : entryFrame m #[(.ref o1), (.long q1), (.int q2)] 4 = mkF m 0 #[.val (.ref o1), .val (.long q1), .second, .val (.int q2)] [] := by first | (simp [entryFrame, mkF, argsToLocals, Value.category, maxLocals]; done) | rfl
set_option maxRecDepth 65536 in
set_option maxHeartbeats 40000000 in
theorem rm8 (l : Launch) (Z : State) (a0 : Array Value) (hw : ∀ d ∈ tables_1, d.before a0 Z = true) (ws : List Jvm.Cond) (o1 : Addr) (q1 : Int64) (q2 : Int32) (u1 : Int64) (u2 : Int32) (h0 : Heap) (n0 : Nat) (Z0 : n0 ≤ h0.size) (E1 : Exa Z h0 o1 "java/time/Instant") (F1 : Fld Z h0 o1 "java/time/Instant" "seconds" "J" (.long u1)) (F2 : Fld Z h0 o1 "java/time/Instant" "nanos" "I" (.int u2)) (g_o1 : n0 ≤ o1) :
    MetFree l (⟨"java/time/Instant", "<init>", "(JI)V"⟩ : MethodName) (head1 (Jvm.Cond.code (⟨"java/time/Instant", "<init>", "(JI)V"⟩ : MethodName) jdk_2320_method_9_code 4 none :: ws) ({ frames := 1, cells := 0, slots := 0, locals := 12 } : Room)) (fun a U => a = #[(.ref o1), (.long q1), (.int q2)] ∧ Z.Warmed39 U.vm ∧ U.heap = h0) (fun _ _ _ _ _ => True) (fun _ U o U' => ∃ v L, o = .returned v ∧ Q8 Z o1 q1 q2 u1 u2 h0 n0 v U'.heap L ∧ FrameEnd U o U' L ({ frames := 1, cells := 0, slots := 0, locals := 12 } : Room).cells ({ frames := 1, cells := 0, slots := 0, locals := 12 } : Room).slots) := by
  refine MetFree.of_bodySF (plainFor_of_name pn_0) hisR ?_
  intro p e s m args below meth c s₁ Bd hml0 hP hK
  obtain ⟨rfl, hZ, hh⟩ := hP
  have e0 : s₁.heap = h0 := by rw [← hh, Bd.state]; rfl
  rw [ef_8 m o1 q1 q2]
  exact b8 o1 q1 q2 u1 u2 ⟨Bd.exec, hZ, hw, Bd.bytes, hml0, findClass_of_methodNamed Bd.named, Bd.returns, Bd.notSynchronized, (name_of_methodNamed Bd.named Bd.method).1⟩ (Stand.of_body Bd) e0 Z0 (Fr.nil n0) E1 F1 F2 g_o1
def Q7 (Z : State) (q1 : Int64) (q2 : Int32) (h0 : Heap) (n0 : Nat) (v : Option Value) (h : Heap) (L : List Loc) : Prop := ∃ bz : Addr, v = some (.ref bz) ∧ Fr n0 L ∧ Keep h0 h [] ∧ h0.size ≤ bz ∧ Exa Z h bz "java/time/Instant" ∧ Fld Z h bz "java/time/Instant" "seconds" "J" (.long q1) ∧ Fld Z h bz "java/time/Instant" "nanos" "I" (.int q2)
theorem d7_0 : decode jdk_2320_method_8_code 0 = .ok (.lload_n 0, 1) := by decide +kernel
theorem d7_1 : decode jdk_2320_method_8_code 1 = .ok (.iload_n 2, 1) := by decide +kernel
theorem d7_2 : decode jdk_2320_method_8_code 2 = .ok (.i2l, 1) := by decide +kernel
theorem d7_3 : decode jdk_2320_method_8_code 3 = .ok (.lor, 1) := by decide +kernel
theorem d7_4 : decode jdk_2320_method_8_code 4 = .ok (.lconst 0, 1) := by decide +kernel
theorem d7_5 : decode jdk_2320_method_8_code 5 = .ok (.lcmp, 1) := by decide +kernel
theorem d7_6 : decode jdk_2320_method_8_code 6 = .ok (.ifCond .ne 7, 3) := by decide +kernel
theorem d7_13 : decode jdk_2320_method_8_code 13 = .ok (.lload_n 0, 1) := by decide +kernel
theorem d7_14 : decode jdk_2320_method_8_code 14 = .ok (.ldc2_w 125, 3) := by decide +kernel
theorem d7_17 : decode jdk_2320_method_8_code 17 = .ok (.lcmp, 1) := by decide +kernel
theorem d7_18 : decode jdk_2320_method_8_code 18 = .ok (.ifCond .lt 11, 3) := by decide +kernel
theorem d7_21 : decode jdk_2320_method_8_code 21 = .ok (.lload_n 0, 1) := by decide +kernel
theorem d7_22 : decode jdk_2320_method_8_code 22 = .ok (.ldc2_w 127, 3) := by decide +kernel
theorem d7_25 : decode jdk_2320_method_8_code 25 = .ok (.lcmp, 1) := by decide +kernel
theorem d7_26 : decode jdk_2320_method_8_code 26 = .ok (.ifCond .le 13, 3) := by decide +kernel
theorem d7_39 : decode jdk_2320_method_8_code 39 = .ok (.new 21, 3) := by decide +kernel
theorem d7_42 : decode jdk_2320_method_8_code 42 = .ok (.dup, 1) := by decide +kernel
theorem d7_43 : decode jdk_2320_method_8_code 43 = .ok (.lload_n 0, 1) := by decide +kernel
theorem d7_44 : decode jdk_2320_method_8_code 44 = .ok (.iload_n 2, 1) := by decide +kernel
theorem d7_45 : decode jdk_2320_method_8_code 45 = .ok (.invokespecial 134, 3) := by decide +kernel
theorem pd_1 : parseMethodDescriptor "(JI)V" = some ⟨[.long, .int], none⟩ := by decide +kernel
theorem d7_48 : decode jdk_2320_method_8_code 48 = .ok (.areturn, 1) := by decide +kernel
set_option maxRecDepth 65536 in
set_option maxHeartbeats 40000000 in
theorem b7 {p : Program} {l : Launch} {e : Env} {s : State} {m : MethodId} {args : Array Value} {below : List Frame} {meth : Method} {c : Code} {T0 : State} {locs : List Loc} {Z : State} {a0 : Array Value} {h0 : Heap} {n0 : Nat} (q1 : Int64) (q2 : Int32)
    (C : own_C p s m meth c Z a0 jdk_2320_method_8_code 3 "java/time/Instant" (some (.object "java/time/Instant")) "create") (X0 : Stand p l e ({ frames := 2, cells := 1, slots := 2, locals := 28 } : Room) s m args below meth c T0 locs 0 0) (e0 : T0.heap = h0) (Z0 : n0 ≤ h0.size) (N0 : Fr n0 locs) (h1 : ¬ (q1 ||| (q2.toInt64)) = (0 : Int64)) (h2 : ¬ q1 < (-31557014167219200 : Int64)) (h3 : ¬ (31556889864403199 : Int64) < q1) :
    own_Go p.tables e below (T0.setTop (mkF m 0 #[.val (.long q1), .second, .val (.int q2)] [])) (own_K s (fun (v : Option Value) (h : Heap) (L : List Loc) => Q7 Z q1 q2 h0 n0 v h L) ({ frames := 2, cells := 1, slots := 2, locals := 28 } : Room).cells ({ frames := 2, cells := 1, slots := 2, locals := 28 } : Room).slots) := by
  obtain ⟨hx, hZ, hw, hby, hml, hown, hret, hlk, hnm⟩ := C
  refine own_via (G := T0.setTop (mkF m 1 #[.val (.long q1), .second, .val (.int q2)] [(.long q1)])) (fun t k => XT.lloadN X0.here hx rfl (hb hby d7_0) rfl k) ?_
  refine own_via (G := T0.setTop (mkF m 2 #[.val (.long q1), .second, .val (.int q2)] [(.int q2), (.long q1)])) (fun t k => XS.iloadN X0.here hx rfl (hb hby d7_1) rfl k) ?_
  refine own_via (G := T0.setTop (mkF m 3 #[.val (.long q1), .second, .val (.int q2)] [(.long (q2.toInt64)), (.long q1)])) (fun t k => XT.i2l X0.here hx rfl (hb hby d7_2) rfl k) ?_
  refine own_via (G := T0.setTop (mkF m 4 #[.val (.long q1), .second, .val (.int q2)] [(.long (q1 ||| (q2.toInt64)))])) (fun t k => XT.lor X0.here hx rfl (hb hby d7_3) rfl k) ?_
  refine own_via (G := T0.setTop (mkF m 5 #[.val (.long q1), .second, .val (.int q2)] [(.long (0 : Int64)), (.long (q1 ||| (q2.toInt64)))])) (fun t k => XT.lconst X0.here hx rfl (hb hby d7_4) k) ?_
  refine own_via (G := T0.setTop (mkF m 6 #[.val (.long q1), .second, .val (.int q2)] [(.int (XT.cmpL (q1 ||| (q2.toInt64)) (0 : Int64)))])) (fun t k => XT.lcmp X0.here hx rfl (hb hby d7_5) rfl k) ?_
  have hc1_6 : ¬ ((q1 ||| (q2.toInt64)) = (0 : Int64)) := h1
  refine own_via (G := T0.setTop (mkF m 13 #[.val (.long q1), .second, .val (.int q2)] [])) (fun t k => XS.ifYes X0.here hx rfl (pc0 := 6) (pc' := 13) rfl (hb hby d7_6) rfl (XT.ll_ne_t hc1_6) (by decide) (by decide) k) ?_
  refine own_via (G := T0.setTop (mkF m 14 #[.val (.long q1), .second, .val (.int q2)] [(.long q1)])) (fun t k => XT.lloadN X0.here hx rfl (hb hby d7_13) rfl k) ?_
  refine own_via (G := T0.setTop (mkF m 17 #[.val (.long q1), .second, .val (.int q2)] [(.long (-31557014167219200 : Int64)), (.long q1)])) (fun t k => X0.ldc2J hx hown (mvT hZ (hw _ (List.mem_of_getElem? (i := 28) rfl))) (g := (mkF m 14 #[.val (.long q1), .second, .val (.int q2)] [(.long q1)])) rfl (hb hby d7_14) k) ?_
  refine own_via (G := T0.setTop (mkF m 18 #[.val (.long q1), .second, .val (.int q2)] [(.int (XT.cmpL q1 (-31557014167219200 : Int64)))])) (fun t k => XT.lcmp X0.here hx rfl (hb hby d7_17) rfl k) ?_
  have hc2_18 : ¬ (q1 < (-31557014167219200 : Int64)) := h2
  refine own_via (G := T0.setTop (mkF m 21 #[.val (.long q1), .second, .val (.int q2)] [])) (fun t k => XS.ifNo X0.here hx rfl (hb hby d7_18) rfl (XT.ll_lt_f hc2_18) k) ?_
  refine own_via (G := T0.setTop (mkF m 22 #[.val (.long q1), .second, .val (.int q2)] [(.long q1)])) (fun t k => XT.lloadN X0.here hx rfl (hb hby d7_21) rfl k) ?_
  refine own_via (G := T0.setTop (mkF m 25 #[.val (.long q1), .second, .val (.int q2)] [(.long (31556889864403199 : Int64)), (.long q1)])) (fun t k => X0.ldc2J hx hown (mvT hZ (hw _ (List.mem_of_getElem? (i := 29) rfl))) (g := (mkF m 22 #[.val (.long q1), .second, .val (.int q2)] [(.long q1)])) rfl (hb hby d7_22) k) ?_
  refine own_via (G := T0.setTop (mkF m 26 #[.val (.long q1), .second, .val (.int q2)] [(.int (XT.cmpL q1 (31556889864403199 : Int64)))])) (fun t k => XT.lcmp X0.here hx rfl (hb hby d7_25) rfl k) ?_
  have hc3_26 : ¬ ((31556889864403199 : Int64) < q1) := h3
  refine own_via (G := T0.setTop (mkF m 39 #[.val (.long q1), .second, .val (.int q2)] [])) (fun t k => XS.ifYes X0.here hx rfl (pc0 := 26) (pc' := 39) rfl (hb hby d7_26) rfl (XT.ll_le_t hc3_26) (by decide) (by decide) k) ?_
  obtain ⟨T4, h4, X4, e4, E4, A4, D4, -, st4⟩ := newO X0 hx hZ hown (hw _ (List.mem_of_getElem? (i := 30) rfl)) (hw _ (List.mem_of_getElem? (i := 31) rfl)) (hw _ (List.mem_of_getElem? (i := 9) rfl)) e0 (g := (mkF m 39 #[.val (.long q1), .second, .val (.int q2)] [])) rfl (hb hby d7_39) (by decide) (by decide)
  obtain ⟨b4, g4⟩ : ∃ z, z = h0.size := ⟨_, rfl⟩
  rw [← g4] at A4 D4 st4
  have g_b4 : n0 ≤ b4 := Nat.le_trans Z0 (Nat.le_of_eq g4.symm)
  have sz_b4 : h0.size ≤ b4 := Nat.le_trans ((Keep.refl h0 [])).1 (Nat.le_of_eq g4.symm)
  have K4 := ((Keep.refl h0 [])).ext E4
  have Z4 : n0 ≤ h4.size := Nat.le_trans Z0 E4.1
  have F_seconds_b4 : Fld Z h4 b4 "java/time/Instant" "seconds" "J" (.long (0 : Int64)) := D4 (Or.inr (hw _ (List.mem_of_getElem? (i := 40) rfl))) (ty := .long) (by decide)
  have F_nanos_b4 : Fld Z h4 b4 "java/time/Instant" "nanos" "I" (.int (0 : Int32)) := D4 (Or.inr (hw _ (List.mem_of_getElem? (i := 42) rfl))) (ty := .int) (by decide)
  refine own_via (G := T4.setTop (mkF m 42 #[.val (.long q1), .second, .val (.int q2)] [(.ref b4)])) (fun t k => st4 t k) ?_
  refine own_via (G := T4.setTop (mkF m 43 #[.val (.long q1), .second, .val (.int q2)] [(.ref b4), (.ref b4)])) (fun t k => XS.dup X4.here hx rfl (hb hby d7_42) rfl rfl k) ?_
  refine own_via (G := T4.setTop (mkF m 44 #[.val (.long q1), .second, .val (.int q2)] [(.long q1), (.ref b4), (.ref b4)])) (fun t k => XT.lloadN X4.here hx rfl (hb hby d7_43) rfl k) ?_
  refine own_via (G := T4.setTop (mkF m 45 #[.val (.long q1), .second, .val (.int q2)] [(.int q2), (.long q1), (.ref b4), (.ref b4)])) (fun t k => XS.iloadN X4.here hx rfl (hb hby d7_44) rfl k) ?_
  obtain ⟨_, _, ⟨T5, L5, k5, n5⟩, -, X5, ⟨Lc5, hQ5, l5, y5, z5⟩, st5⟩ := X4.specialBack hx (y := (⟨"java/time/Instant", "<init>", "(JI)V"⟩ : MethodName)) rfl hown (mvT hZ (hw _ (List.mem_of_getElem? (i := 32) rfl))) (mvT hZ (hw _ (List.mem_of_getElem? (i := 33) rfl))) (mvT hZ (hw _ (List.mem_of_getElem? (i := 35) rfl))) (by decide) (backOf (W := 1) (rm8 l Z a0 hw [] b4 q1 q2 (0 : Int64) (0 : Int32) h4 n0 Z4 A4 F_seconds_b4 F_nanos_b4 g_b4) hZ (hw _ (List.mem_of_getElem? (i := 35) rfl)) (hw _ (List.mem_of_getElem? (i := 9) rfl)) (by decide) (by decide)) (g := (mkF m 45 #[.val (.long q1), .second, .val (.int q2)] [(.int q2), (.long q1), (.ref b4), (.ref b4)])) rfl (by rw [hml]; rfl) (Steps.refl _) (a := b4) (argsL := [(.long q1), (.int q2)]) (rest := [(.ref b4)]) (lenOf pd_1 rfl) rfl (by show 2 * 0 + _ ≤ _; exact Nat.le_of_eq rfl) (hb hby d7_45) (fun _ _ => ⟨rfl, e4, (by decide : (0 + 1) + 0 ≤ _), (by decide : (0 + 2) + 0 ≤ _)⟩)
  dsimp only [Pt.U, Pt.locs, Pt.cells, Pt.slots] at X5 l5 y5 z5 st5 hQ5
  subst l5 y5 z5
  obtain ⟨rfl, Nq5, K5q, P0_5, P1_5, P2_5⟩ := hQ5
  have N5 := Fr.app N0 Nq5
  have A4'5 := A4.keep K5q
  have K5 := (K4).trans K5q (allS (Or.inr sz_b4) all0)
  have Z5 : n0 ≤ T5.heap.size := Nat.le_trans Z4 K5q.1
  refine own_via (G := T5.setTop (mkF m 48 #[.val (.long q1), .second, .val (.int q2)] [(.ref b4)])) (fun t k => st5.trans k) ?_
  exact own_fin X5 rfl (v := some (.ref b4)) (fun h => by rw [hret] at h; cases h) hlk (fun fs hr => X5.areturnOut hx rfl hret rfl (hb hby d7_48) hr) (show ((fun (v : Option Value) (h : Heap) (L : List Loc) => Q7 Z q1 q2 h0 n0 v h L)) (some (.ref b4)) T5.heap _ from ⟨b4, rfl, N5, K5, sz_b4, (P0_5), (P1_5), (P2_5)⟩) (by decide) (by decide)
theorem ef_7 (m : MethodId) (q1 : Int64) (q2 : Int32) : entryFrame m #[(.long q1), (.int q2)] 3 = mkF m 0 #[.val (.long q1), .second, .val (.int q2)] [] := by first | (simp [entryFrame, mkF, argsToLocals, Value.category, maxLocals]; done) | rfl
set_option maxRecDepth 65536 in
set_option maxHeartbeats 40000000 in
theorem rm7 (l : Launch) (Z : State) (a0 : Array Value) (hw : ∀ d ∈ tables_1, d.before a0 Z = true) (ws : List Jvm.Cond) (q1 : Int64) (q2 : Int32) (h0 : Heap) (n0 : Nat) (Z0 : n0 ≤ h0.size) (h1 : ¬ (q1 ||| (q2.toInt64)) = (0 : Int64)) (h2 : ¬ q1 < (-31557014167219200 : Int64)) (h3 : ¬ (31556889864403199 : Int64) < q1) :
    MetFree l (⟨"java/time/Instant", "create", "(JI)Ljava/time/Instant;"⟩ : MethodName) (head1 (Jvm.Cond.code (⟨"java/time/Instant", "create", "(JI)Ljava/time/Instant;"⟩ : MethodName) jdk_2320_method_8_code 3 (some (.object "java/time/Instant")) :: ws) ({ frames := 2, cells := 1, slots := 2, locals := 28 } : Room)) (fun a U => a = #[(.long q1), (.int q2)] ∧ Z.Warmed39 U.vm ∧ U.heap = h0) (fun _ _ _ _ _ => True) (fun _ U o U' => ∃ v L, o = .returned v ∧ Q7 Z q1 q2 h0 n0 v U'.heap L ∧ FrameEnd U o U' L ({ frames := 2, cells := 1, slots := 2, locals := 28 } : Room).cells ({ frames := 2, cells := 1, slots := 2, locals := 28 } : Room).slots) := by
  refine MetFree.of_bodySF (plainFor_of_name pn_0) hisR ?_
  intro p e s m args below meth c s₁ Bd hml0 hP hK
  obtain ⟨rfl, hZ, hh⟩ := hP
  have e0 : s₁.heap = h0 := by rw [← hh, Bd.state]; rfl
  rw [ef_7 m q1 q2]
  exact b7 q1 q2 ⟨Bd.exec, hZ, hw, Bd.bytes, hml0, findClass_of_methodNamed Bd.named, Bd.returns, Bd.notSynchronized, (name_of_methodNamed Bd.named Bd.method).1⟩ (Stand.of_body Bd) e0 Z0 (Fr.nil n0) h1 h2 h3
def Q2 (Z : State) (q1 : Int64) (h0 : Heap) (n0 : Nat) (v : Option Value) (h : Heap) (L : List Loc) : Prop := ∃ bz : Addr, v = some (.ref bz) ∧ Fr n0 L ∧ Keep h0 h [] ∧ h0.size ≤ bz ∧ Exa Z h bz "java/time/Instant" ∧ Fld Z h bz "java/time/Instant" "seconds" "J" (.long (q1 / (1000 : Int32).toInt64)) ∧ Fld Z h bz "java/time/Instant" "nanos" "I" (.int (((q1 - q1 / ((1000 : Int32).toInt64) * ((1000 : Int32).toInt64)).toInt32) * (1000000 : Int32)))
theorem d2_0 : decode jdk_2320_method_5_code 0 = .ok (.lload_n 0, 1) := by decide +kernel
theorem d2_1 : decode jdk_2320_method_5_code 1 = .ok (.sipush 1000, 3) := by decide +kernel
theorem d2_4 : decode jdk_2320_method_5_code 4 = .ok (.invokestatic 40, 3) := by decide +kernel
theorem pd_2 : parseMethodDescriptor "(JI)J" = some ⟨[.long, .int], some .long⟩ := by decide +kernel
theorem d2_7 : decode jdk_2320_method_5_code 7 = .ok (.lstore_n 2, 1) := by decide +kernel
theorem d2_8 : decode jdk_2320_method_5_code 8 = .ok (.lload_n 0, 1) := by decide +kernel
theorem d2_9 : decode jdk_2320_method_5_code 9 = .ok (.sipush 1000, 3) := by decide +kernel
theorem d2_12 : decode jdk_2320_method_5_code 12 = .ok (.invokestatic 43, 3) := by decide +kernel
theorem pd_3 : parseMethodDescriptor "(JI)I" = some ⟨[.long, .int], some .int⟩ := by decide +kernel
theorem d2_15 : decode jdk_2320_method_5_code 15 = .ok (.istore 4, 2) := by decide +kernel
theorem d2_17 : decode jdk_2320_method_5_code 17 = .ok (.lload_n 2, 1) := by decide +kernel
theorem d2_18 : decode jdk_2320_method_5_code 18 = .ok (.iload 4, 2) := by decide +kernel
theorem d2_20 : decode jdk_2320_method_5_code 20 = .ok (.ldc 46, 2) := by decide +kernel
theorem d2_22 : decode jdk_2320_method_5_code 22 = .ok (.imul, 1) := by decide +kernel
theorem d2_23 : decode jdk_2320_method_5_code 23 = .ok (.invokestatic 20, 3) := by decide +kernel
theorem pd_4 : parseMethodDescriptor "(JI)Ljava/time/Instant;" = some ⟨[.long, .int], some (.object "java/time/Instant")⟩ := by decide +kernel
theorem d2_26 : decode jdk_2320_method_5_code 26 = .ok (.areturn, 1) := by decide +kernel
set_option maxRecDepth 65536 in
set_option maxHeartbeats 40000000 in
theorem b2 {p : Program} {l : Launch} {e : Env} {s : State} {m : MethodId} {args : Array Value} {below : List Frame} {meth : Method} {c : Code} {T0 : State} {locs : List Loc} {Z : State} {a0 : Array Value} {h0 : Heap} {n0 : Nat} (q1 : Int64)
    (C : own_C p s m meth c Z a0 jdk_2320_method_5_code 5 "java/time/Instant" (some (.object "java/time/Instant")) "ofEpochMilli") (X0 : Stand p l e ({ frames := 3, cells := 1, slots := 2, locals := 42 } : Room) s m args below meth c T0 locs 0 0) (e0 : T0.heap = h0) (Z0 : n0 ≤ h0.size) (N0 : Fr n0 locs) (hr : own_rng q1) :
    own_Go p.tables e below (T0.setTop (mkF m 0 #[.val (.long q1), .second, .unset, .unset, .unset] [])) (own_K s (fun (v : Option Value) (h : Heap) (L : List Loc) => Q2 Z q1 h0 n0 v h L) ({ frames := 3, cells := 1, slots := 2, locals := 42 } : Room).cells ({ frames := 3, cells := 1, slots := 2, locals := 42 } : Room).slots) := by
  obtain ⟨hx, hZ, hw, hby, hml, hown, hret, hlk, hnm⟩ := C
  refine own_via (G := T0.setTop (mkF m 1 #[.val (.long q1), .second, .unset, .unset, .unset] [(.long q1)])) (fun t k => XT.lloadN X0.here hx rfl (hb hby d2_0) rfl k) ?_
  refine own_via (G := T0.setTop (mkF m 4 #[.val (.long q1), .second, .unset, .unset, .unset] [(.int (1000 : Int32)), (.long q1)])) (fun t k => XS.sipush X0.here hx rfl (hb hby d2_1) k) ?_
  obtain ⟨_, _, ⟨T1, L1, k1, n1⟩, -, X1, ⟨Lc1, hQ1, l1, y1, z1⟩, st1⟩ := Jvm.LawKit.callS X0 hx (y := (⟨"java/lang/Math", "floorDiv", "(JI)J"⟩ : MethodName)) hown (mvT hZ (hw _ (List.mem_of_getElem? (i := 11) rfl))) (mvT hZ (hw _ (List.mem_of_getElem? (i := 12) rfl))) (mvT hZ (hw _ (List.mem_of_getElem? (i := 13) rfl))) (mvT hZ (hw _ (List.mem_of_getElem? (i := 14) rfl))) (by decide) (backOf (W := 0) (rm3 l Z a0 hw [] q1 (1000 : Int32) h0 n0 Z0 (own_x hr) (by decide)) hZ (hw _ (List.mem_of_getElem? (i := 14) rfl)) (hw _ (List.mem_of_getElem? (i := 13) rfl)) (by decide) (by decide)) (g := (mkF m 4 #[.val (.long q1), .second, .unset, .unset, .unset] [(.int (1000 : Int32)), (.long q1)])) rfl (by rw [hml]; rfl) (argsL := [(.long q1), (.int (1000 : Int32))]) (rest := []) (lenOf pd_2 rfl) rfl (by show 2 * 0 + _ ≤ _; exact Nat.le_of_eq rfl) (hb hby d2_4) (fun _ _ => ⟨rfl, e0, (by decide : 0 + 0 ≤ _), (by decide : 0 + 0 ≤ _)⟩)
  dsimp only [Pt.U, Pt.locs, Pt.cells, Pt.slots] at X1 l1 y1 z1 st1 hQ1
  subst l1 y1 z1
  obtain ⟨rfl, Nq1, eh1⟩ := hQ1
  have N1 := Fr.app N0 Nq1
  refine own_via (G := T1.setTop (mkF m 7 #[.val (.long q1), .second, .unset, .unset, .unset] [(.long (q1 / (1000 : Int32).toInt64))])) (fun t k => st1 t k) ?_
  refine own_via (G := T1.setTop (mkF m 8 #[.val (.long q1), .second, .val (.long (q1 / (1000 : Int32).toInt64)), .second, .unset] [])) (fun t k => XT.lstoreN X1.here hx rfl (hb hby d2_7) rfl (l' := #[.val (.long q1), .second, .val (.long (q1 / (1000 : Int32).toInt64)), .second, .unset]) rfl k) ?_
  refine own_via (G := T1.setTop (mkF m 9 #[.val (.long q1), .second, .val (.long (q1 / (1000 : Int32).toInt64)), .second, .unset] [(.long q1)])) (fun t k => XT.lloadN X1.here hx rfl (hb hby d2_8) rfl k) ?_
  refine own_via (G := T1.setTop (mkF m 12 #[.val (.long q1), .second, .val (.long (q1 / (1000 : Int32).toInt64)), .second, .unset] [(.int (1000 : Int32)), (.long q1)])) (fun t k => XS.sipush X1.here hx rfl (hb hby d2_9) k) ?_
  obtain ⟨_, _, ⟨T2, L2, k2, n2⟩, -, X2, ⟨Lc2, hQ2, l2, y2, z2⟩, st2⟩ := Jvm.LawKit.callS X1 hx (y := (⟨"java/lang/Math", "floorMod", "(JI)I"⟩ : MethodName)) hown (mvT hZ (hw _ (List.mem_of_getElem? (i := 18) rfl))) (mvT hZ (hw _ (List.mem_of_getElem? (i := 19) rfl))) (mvT hZ (hw _ (List.mem_of_getElem? (i := 13) rfl))) (mvT hZ (hw _ (List.mem_of_getElem? (i := 20) rfl))) (by decide) (backOf (W := 0) (rm5 l Z a0 hw [] q1 (1000 : Int32) h0 n0 Z0 (own_x hr) (by decide)) hZ (hw _ (List.mem_of_getElem? (i := 20) rfl)) (hw _ (List.mem_of_getElem? (i := 13) rfl)) (by decide) (by decide)) (g := (mkF m 12 #[.val (.long q1), .second, .val (.long (q1 / (1000 : Int32).toInt64)), .second, .unset] [(.int (1000 : Int32)), (.long q1)])) rfl (by rw [hml]; rfl) (argsL := [(.long q1), (.int (1000 : Int32))]) (rest := []) (lenOf pd_3 rfl) rfl (by show 2 * 0 + _ ≤ _; exact Nat.le_of_eq rfl) (hb hby d2_12) (fun _ _ => ⟨rfl, eh1, (by decide : (0 + 0) + 0 ≤ _), (by decide : (0 + 0) + 0 ≤ _)⟩)
  dsimp only [Pt.U, Pt.locs, Pt.cells, Pt.slots] at X2 l2 y2 z2 st2 hQ2
  subst l2 y2 z2
  obtain ⟨rfl, Nq2, eh2⟩ := hQ2
  have N2 := Fr.app N1 Nq2
  refine own_via (G := T2.setTop (mkF m 15 #[.val (.long q1), .second, .val (.long (q1 / (1000 : Int32).toInt64)), .second, .unset] [(.int ((q1 - q1 / ((1000 : Int32).toInt64) * ((1000 : Int32).toInt64)).toInt32))])) (fun t k => st2 t k) ?_
  refine own_via (G := T2.setTop (mkF m 17 #[.val (.long q1), .second, .val (.long (q1 / (1000 : Int32).toInt64)), .second, .val (.int ((q1 - q1 / ((1000 : Int32).toInt64) * ((1000 : Int32).toInt64)).toInt32))] [])) (fun t k => XS.istore X2.here hx rfl (hb hby d2_15) rfl (l' := #[.val (.long q1), .second, .val (.long (q1 / (1000 : Int32).toInt64)), .second, .val (.int ((q1 - q1 / ((1000 : Int32).toInt64) * ((1000 : Int32).toInt64)).toInt32))]) rfl k) ?_
  refine own_via (G := T2.setTop (mkF m 18 #[.val (.long q1), .second, .val (.long (q1 / (1000 : Int32).toInt64)), .second, .val (.int ((q1 - q1 / ((1000 : Int32).toInt64) * ((1000 : Int32).toInt64)).toInt32))] [(.long (q1 / (1000 : Int32).toInt64))])) (fun t k => XT.lloadN X2.here hx rfl (hb hby d2_17) rfl k) ?_
  refine own_via (G := T2.setTop (mkF m 20 #[.val (.long q1), .second, .val (.long (q1 / (1000 : Int32).toInt64)), .second, .val (.int ((q1 - q1 / ((1000 : Int32).toInt64) * ((1000 : Int32).toInt64)).toInt32))] [(.int ((q1 - q1 / ((1000 : Int32).toInt64) * ((1000 : Int32).toInt64)).toInt32)), (.long (q1 / (1000 : Int32).toInt64))])) (fun t k => XS.iload X2.here hx rfl (hb hby d2_18) rfl k) ?_
  refine own_via (G := T2.setTop (mkF m 22 #[.val (.long q1), .second, .val (.long (q1 / (1000 : Int32).toInt64)), .second, .val (.int ((q1 - q1 / ((1000 : Int32).toInt64) * ((1000 : Int32).toInt64)).toInt32))] [(.int (1000000 : Int32)), (.int ((q1 - q1 / ((1000 : Int32).toInt64) * ((1000 : Int32).toInt64)).toInt32)), (.long (q1 / (1000 : Int32).toInt64))])) (fun t k => X2.ldcI hx hown (mvT hZ (hw _ (List.mem_of_getElem? (i := 24) rfl))) (g := (mkF m 20 #[.val (.long q1), .second, .val (.long (q1 / (1000 : Int32).toInt64)), .second, .val (.int ((q1 - q1 / ((1000 : Int32).toInt64) * ((1000 : Int32).toInt64)).toInt32))] [(.int ((q1 - q1 / ((1000 : Int32).toInt64) * ((1000 : Int32).toInt64)).toInt32)), (.long (q1 / (1000 : Int32).toInt64))])) rfl (hb hby d2_20) k) ?_
  refine own_via (G := T2.setTop (mkF m 23 #[.val (.long q1), .second, .val (.long (q1 / (1000 : Int32).toInt64)), .second, .val (.int ((q1 - q1 / ((1000 : Int32).toInt64) * ((1000 : Int32).toInt64)).toInt32))] [(.int (((q1 - q1 / ((1000 : Int32).toInt64) * ((1000 : Int32).toInt64)).toInt32) * (1000000 : Int32))), (.long (q1 / (1000 : Int32).toInt64))])) (fun t k => XS.imul X2.here hx rfl (hb hby d2_22) rfl k) ?_
  obtain ⟨_, _, ⟨T3, L3, k3, n3⟩, -, X3, ⟨Lc3, hQ3, l3, y3, z3⟩, st3⟩ := Jvm.LawKit.callS X2 hx (y := (⟨"java/time/Instant", "create", "(JI)Ljava/time/Instant;"⟩ : MethodName)) hown (mvT hZ (hw _ (List.mem_of_getElem? (i := 25) rfl))) (mvT hZ (hw _ (List.mem_of_getElem? (i := 26) rfl))) (mvT hZ (hw _ (List.mem_of_getElem? (i := 9) rfl))) (mvT hZ (hw _ (List.mem_of_getElem? (i := 27) rfl))) (by decide) (backOf (W := 0) (rm7 l Z a0 hw [] (q1 / (1000 : Int32).toInt64) (((q1 - q1 / ((1000 : Int32).toInt64) * ((1000 : Int32).toInt64)).toInt32) * (1000000 : Int32)) h0 n0 Z0 (own_c1 hr) (own_c2 hr) (own_c3 hr)) hZ (hw _ (List.mem_of_getElem? (i := 27) rfl)) (hw _ (List.mem_of_getElem? (i := 9) rfl)) (by decide) (by decide)) (g := (mkF m 23 #[.val (.long q1), .second, .val (.long (q1 / (1000 : Int32).toInt64)), .second, .val (.int ((q1 - q1 / ((1000 : Int32).toInt64) * ((1000 : Int32).toInt64)).toInt32))] [(.int (((q1 - q1 / ((1000 : Int32).toInt64) * ((1000 : Int32).toInt64)).toInt32) * (1000000 : Int32))), (.long (q1 / (1000 : Int32).toInt64))])) rfl (by rw [hml]; rfl) (argsL := [(.long (q1 / (1000 : Int32).toInt64)), (.int (((q1 - q1 / ((1000 : Int32).toInt64) * ((1000 : Int32).toInt64)).toInt32) * (1000000 : Int32)))]) (rest := []) (lenOf pd_4 rfl) rfl (by show 2 * 0 + _ ≤ _; exact Nat.le_of_eq rfl) (hb hby d2_23) (fun _ _ => ⟨rfl, eh2, (by decide : ((0 + 0) + 0) + 1 ≤ _), (by decide : ((0 + 0) + 0) + 2 ≤ _)⟩)
  dsimp only [Pt.U, Pt.locs, Pt.cells, Pt.slots] at X3 l3 y3 z3 st3 hQ3
  subst l3 y3 z3
  obtain ⟨bz_3, rfl, Nq3, K3q, fz_bz_3, P0_3, P1_3, P2_3⟩ := hQ3
  have N3 := Fr.app N2 Nq3
  have K3 := ((Keep.refl h0 [])).trans K3q all0
  have g_bz_3 : n0 ≤ bz_3 := Nat.le_trans Z0 fz_bz_3
  have sz_bz_3 : h0.size ≤ bz_3 := Nat.le_trans ((Keep.refl h0 [])).1 fz_bz_3
  have Z3 : n0 ≤ T3.heap.size := Nat.le_trans Z0 K3q.1
  refine own_via (G := T3.setTop (mkF m 26 #[.val (.long q1), .second, .val (.long (q1 / (1000 : Int32).toInt64)), .second, .val (.int ((q1 - q1 / ((1000 : Int32).toInt64) * ((1000 : Int32).toInt64)).toInt32))] [(.ref bz_3)])) (fun t k => st3 t k) ?_
  exact own_fin X3 rfl (v := some (.ref bz_3)) (fun h => by rw [hret] at h; cases h) hlk (fun fs hr => X3.areturnOut hx rfl hret rfl (hb hby d2_26) hr) (show ((fun (v : Option Value) (h : Heap) (L : List Loc) => Q2 Z q1 h0 n0 v h L)) (some (.ref bz_3)) T3.heap _ from ⟨bz_3, rfl, N3, K3, sz_bz_3, (P0_3), (P1_3), (P2_3)⟩) (by decide) (by decide)
theorem ef_2 (m : MethodId) (q1 : Int64) : entryFrame m #[(.long q1)] 5 = mkF m 0 #[.val (.long q1), .second, .unset, .unset, .unset] [] := by first | (simp [entryFrame, mkF, argsToLocals, Value.category, maxLocals]; done) | rfl
set_option maxRecDepth 65536 in
set_option maxHeartbeats 40000000 in
theorem rm2 (l : Launch) (Z : State) (a0 : Array Value) (hw : ∀ d ∈ tables_1, d.before a0 Z = true) (ws : List Jvm.Cond) (q1 : Int64) (h0 : Heap) (n0 : Nat) (Z0 : n0 ≤ h0.size) (hr : own_rng q1) :
    MetFree l (⟨"java/time/Instant", "ofEpochMilli", "(J)Ljava/time/Instant;"⟩ : MethodName) (head1 (Jvm.Cond.code (⟨"java/time/Instant", "ofEpochMilli", "(J)Ljava/time/Instant;"⟩ : MethodName) jdk_2320_method_5_code 5 (some (.object "java/time/Instant")) :: ws) ({ frames := 3, cells := 1, slots := 2, locals := 42 } : Room)) (fun a U => a = #[(.long q1)] ∧ Z.Warmed39 U.vm ∧ U.heap = h0) (fun _ _ _ _ _ => True) (fun _ U o U' => ∃ v L, o = .returned v ∧ Q2 Z q1 h0 n0 v U'.heap L ∧ FrameEnd U o U' L ({ frames := 3, cells := 1, slots := 2, locals := 42 } : Room).cells ({ frames := 3, cells := 1, slots := 2, locals := 42 } : Room).slots) := by
  refine MetFree.of_bodySF (plainFor_of_name pn_0) hisR ?_
  intro p e s m args below meth c s₁ Bd hml0 hP hK
  obtain ⟨rfl, hZ, hh⟩ := hP
  have e0 : s₁.heap = h0 := by rw [← hh, Bd.state]; rfl
  rw [ef_2 m q1]
  exact b2 q1 ⟨Bd.exec, hZ, hw, Bd.bytes, hml0, findClass_of_methodNamed Bd.named, Bd.returns, Bd.notSynchronized, (name_of_methodNamed Bd.named Bd.method).1⟩ (Stand.of_body Bd) e0 Z0 (Fr.nil n0) hr
def Q1 (Z : State) (q1 : Int64) (h0 : Heap) (n0 : Nat) (v : Option Value) (h : Heap) (L : List Loc) : Prop := ∃ bz : Addr, v = some (.ref bz) ∧ Fr n0 L ∧ Keep h0 h [] ∧ h0.size ≤ bz ∧ Exa Z h bz "java/time/Instant" ∧ Fld Z h bz "java/time/Instant" "seconds" "J" (.long (((q1 >>> ((22 : Int32).toInt64 &&& 63)) + (1288834974657 : Int64)) / (1000 : Int32).toInt64)) ∧ Fld Z h bz "java/time/Instant" "nanos" "I" (.int (((((q1 >>> ((22 : Int32).toInt64 &&& 63)) + (1288834974657 : Int64)) - ((q1 >>> ((22 : Int32).toInt64 &&& 63)) + (1288834974657 : Int64)) / ((1000 : Int32).toInt64) * ((1000 : Int32).toInt64)).toInt32) * (1000000 : Int32)))
theorem d1_0 : decode prog_53_method_3_code 0 = .ok (.lload_n 0, 1) := by decide +kernel
theorem d1_1 : decode prog_53_method_3_code 1 = .ok (.lconst 0, 1) := by decide +kernel
theorem d1_2 : decode prog_53_method_3_code 2 = .ok (.lcmp, 1) := by decide +kernel
theorem d1_3 : decode prog_53_method_3_code 3 = .ok (.ifCond .gt 17, 3) := by decide +kernel
theorem d1_20 : decode prog_53_method_3_code 20 = .ok (.lload_n 0, 1) := by decide +kernel
theorem d1_21 : decode prog_53_method_3_code 21 = .ok (.bipush 22, 2) := by decide +kernel
theorem d1_23 : decode prog_53_method_3_code 23 = .ok (.lshr, 1) := by decide +kernel
theorem d1_24 : decode prog_53_method_3_code 24 = .ok (.ldc2_w 29, 3) := by decide +kernel
theorem d1_27 : decode prog_53_method_3_code 27 = .ok (.ladd, 1) := by decide +kernel
theorem d1_28 : decode prog_53_method_3_code 28 = .ok (.invokestatic 31, 3) := by decide +kernel
theorem pd_5 : parseMethodDescriptor "(J)Ljava/time/Instant;" = some ⟨[.long], some (.object "java/time/Instant")⟩ := by decide +kernel
theorem d1_31 : decode prog_53_method_3_code 31 = .ok (.areturn, 1) := by decide +kernel
set_option maxRecDepth 65536 in
set_option maxHeartbeats 40000000 in
theorem b1 {p : Program} {l : Launch} {e : Env} {s : State} {m : MethodId} {args : Array Value} {below : List Frame} {meth : Method} {c : Code} {T0 : State} {locs : List Loc} {Z : State} {a0 : Array Value} {h0 : Heap} {n0 : Nat} (q1 : Int64)
    (C : own_C p s m meth c Z a0 prog_53_method_3_code 2 "com/example/sift140/sift140/model/TweetIds" (some (.object "java/time/Instant")) "createdAt") (X0 : Stand p l e ({ frames := 4, cells := 1, slots := 2, locals := 58 } : Room) s m args below meth c T0 locs 0 0) (e0 : T0.heap = h0) (Z0 : n0 ≤ h0.size) (N0 : Fr n0 locs) (hp : (0 : Int64) < q1) (hr : own_rng ((q1 >>> ((22 : Int32).toInt64 &&& 63)) + (1288834974657 : Int64))) :
    own_Go p.tables e below (T0.setTop (mkF m 0 #[.val (.long q1), .second] [])) (own_K s (fun (v : Option Value) (h : Heap) (L : List Loc) => Q1 Z q1 h0 n0 v h L) ({ frames := 4, cells := 1, slots := 2, locals := 58 } : Room).cells ({ frames := 4, cells := 1, slots := 2, locals := 58 } : Room).slots) := by
  obtain ⟨hx, hZ, hw, hby, hml, hown, hret, hlk, hnm⟩ := C
  refine own_via (G := T0.setTop (mkF m 1 #[.val (.long q1), .second] [(.long q1)])) (fun t k => XT.lloadN X0.here hx rfl (hb hby d1_0) rfl k) ?_
  refine own_via (G := T0.setTop (mkF m 2 #[.val (.long q1), .second] [(.long (0 : Int64)), (.long q1)])) (fun t k => XT.lconst X0.here hx rfl (hb hby d1_1) k) ?_
  refine own_via (G := T0.setTop (mkF m 3 #[.val (.long q1), .second] [(.int (XT.cmpL q1 (0 : Int64)))])) (fun t k => XT.lcmp X0.here hx rfl (hb hby d1_2) rfl k) ?_
  have hc1_3 : (0 : Int64) < q1 := hp
  refine own_via (G := T0.setTop (mkF m 20 #[.val (.long q1), .second] [])) (fun t k => XS.ifYes X0.here hx rfl (pc0 := 3) (pc' := 20) rfl (hb hby d1_3) rfl (XT.ll_gt_t hc1_3) (by decide) (by decide) k) ?_
  refine own_via (G := T0.setTop (mkF m 21 #[.val (.long q1), .second] [(.long q1)])) (fun t k => XT.lloadN X0.here hx rfl (hb hby d1_20) rfl k) ?_
  refine own_via (G := T0.setTop (mkF m 23 #[.val (.long q1), .second] [(.int (22 : Int32)), (.long q1)])) (fun t k => XS.bipush X0.here hx rfl (hb hby d1_21) k) ?_
  refine own_via (G := T0.setTop (mkF m 24 #[.val (.long q1), .second] [(.long (q1 >>> ((22 : Int32).toInt64 &&& 63)))])) (fun t k => XT.lshr X0.here hx rfl (hb hby d1_23) rfl k) ?_
  refine own_via (G := T0.setTop (mkF m 27 #[.val (.long q1), .second] [(.long (1288834974657 : Int64)), (.long (q1 >>> ((22 : Int32).toInt64 &&& 63)))])) (fun t k => X0.ldc2J hx hown (mvT hZ (hw _ (List.mem_of_getElem? (i := 6) rfl))) (g := (mkF m 24 #[.val (.long q1), .second] [(.long (q1 >>> ((22 : Int32).toInt64 &&& 63)))])) rfl (hb hby d1_24) k) ?_
  refine own_via (G := T0.setTop (mkF m 28 #[.val (.long q1), .second] [(.long ((q1 >>> ((22 : Int32).toInt64 &&& 63)) + (1288834974657 : Int64)))])) (fun t k => XT.ladd X0.here hx rfl (hb hby d1_27) rfl k) ?_
  obtain ⟨_, _, ⟨T2, L2, k2, n2⟩, -, X2, ⟨Lc2, hQ2, l2, y2, z2⟩, st2⟩ := Jvm.LawKit.callS X0 hx (y := (⟨"java/time/Instant", "ofEpochMilli", "(J)Ljava/time/Instant;"⟩ : MethodName)) hown (mvT hZ (hw _ (List.mem_of_getElem? (i := 7) rfl))) (mvT hZ (hw _ (List.mem_of_getElem? (i := 8) rfl))) (mvT hZ (hw _ (List.mem_of_getElem? (i := 9) rfl))) (mvT hZ (hw _ (List.mem_of_getElem? (i := 10) rfl))) (by decide) (backOf (W := 0) (rm2 l Z a0 hw [] ((q1 >>> ((22 : Int32).toInt64 &&& 63)) + (1288834974657 : Int64)) h0 n0 Z0 (by assumption)) hZ (hw _ (List.mem_of_getElem? (i := 10) rfl)) (hw _ (List.mem_of_getElem? (i := 9) rfl)) (by decide) (by decide)) (g := (mkF m 28 #[.val (.long q1), .second] [(.long ((q1 >>> ((22 : Int32).toInt64 &&& 63)) + (1288834974657 : Int64)))])) rfl (by rw [hml]; rfl) (argsL := [(.long ((q1 >>> ((22 : Int32).toInt64 &&& 63)) + (1288834974657 : Int64)))]) (rest := []) (lenOf pd_5 rfl) rfl (by show 2 * 0 + _ ≤ _; exact Nat.le_of_eq rfl) (hb hby d1_28) (fun _ _ => ⟨rfl, e0, (by decide : 0 + 1 ≤ _), (by decide : 0 + 2 ≤ _)⟩)
  dsimp only [Pt.U, Pt.locs, Pt.cells, Pt.slots] at X2 l2 y2 z2 st2 hQ2
  subst l2 y2 z2
  obtain ⟨bz_2, rfl, Nq2, K2q, fz_bz_2, P0_2, P1_2, P2_2⟩ := hQ2
  have N2 := Fr.app N0 Nq2
  have K2 := ((Keep.refl h0 [])).trans K2q all0
  have g_bz_2 : n0 ≤ bz_2 := Nat.le_trans Z0 fz_bz_2
  have sz_bz_2 : h0.size ≤ bz_2 := Nat.le_trans ((Keep.refl h0 [])).1 fz_bz_2
  have Z2 : n0 ≤ T2.heap.size := Nat.le_trans Z0 K2q.1
  refine own_via (G := T2.setTop (mkF m 31 #[.val (.long q1), .second] [(.ref bz_2)])) (fun t k => st2 t k) ?_
  exact own_fin X2 rfl (v := some (.ref bz_2)) (fun h => by rw [hret] at h; cases h) hlk (fun fs hr => X2.areturnOut hx rfl hret rfl (hb hby d1_31) hr) (show ((fun (v : Option Value) (h : Heap) (L : List Loc) => Q1 Z q1 h0 n0 v h L)) (some (.ref bz_2)) T2.heap _ from ⟨bz_2, rfl, N2, K2, sz_bz_2, (P0_2), (P1_2), (P2_2)⟩) (by decide) (by decide)
theorem pn_1 : plainName "com/example/sift140/sift140/model/TweetIds" = true := by first | (simp [plainName, overriddenIn]; done) | decide +kernel
theorem ef_1 (m : MethodId) (q1 : Int64) : entryFrame m #[(.long q1)] 2 = mkF m 0 #[.val (.long q1), .second] [] := by first | (simp [entryFrame, mkF, argsToLocals, Value.category, maxLocals]; done) | rfl
set_option maxRecDepth 65536 in
set_option maxHeartbeats 40000000 in
theorem rm1 (l : Launch) (Z : State) (a0 : Array Value) (hw : ∀ d ∈ tables_1, d.before a0 Z = true) (ws : List Jvm.Cond) (q1 : Int64) (h0 : Heap) (n0 : Nat) (Z0 : n0 ≤ h0.size) (hp : (0 : Int64) < q1) (hr : own_rng ((q1 >>> ((22 : Int32).toInt64 &&& 63)) + (1288834974657 : Int64))) :
    MetFree l (⟨"com/example/sift140/sift140/model/TweetIds", "createdAt", "(J)Ljava/time/Instant;"⟩ : MethodName) (head1 (Jvm.Cond.code (⟨"com/example/sift140/sift140/model/TweetIds", "createdAt", "(J)Ljava/time/Instant;"⟩ : MethodName) prog_53_method_3_code 2 (some (.object "java/time/Instant")) :: ws) ({ frames := 4, cells := 1, slots := 2, locals := 58 } : Room)) (fun a U => a = #[(.long q1)] ∧ Z.Warmed39 U.vm ∧ U.heap = h0) (fun _ _ _ _ _ => True) (fun _ U o U' => ∃ v L, o = .returned v ∧ Q1 Z q1 h0 n0 v U'.heap L ∧ FrameEnd U o U' L ({ frames := 4, cells := 1, slots := 2, locals := 58 } : Room).cells ({ frames := 4, cells := 1, slots := 2, locals := 58 } : Room).slots) := by
  refine MetFree.of_bodySF (plainFor_of_name pn_1) hisR ?_
  intro p e s m args below meth c s₁ Bd hml0 hP hK
  obtain ⟨rfl, hZ, hh⟩ := hP
  have e0 : s₁.heap = h0 := by rw [← hh, Bd.state]; rfl
  rw [ef_1 m q1]
  exact b1 q1 ⟨Bd.exec, hZ, hw, Bd.bytes, hml0, findClass_of_methodNamed Bd.named, Bd.returns, Bd.notSynchronized, (name_of_methodNamed Bd.named Bd.method).1⟩ (Stand.of_body Bd) e0 Z0 (Fr.nil n0) hp hr
def Q13 (Z : State) (q1 : Int64) (h0 : Heap) (n0 : Nat) (v : Option Value) (h : Heap) (L : List Loc) : Prop := v = some (.long q1) ∧ Fr n0 L ∧ h = h0
theorem d13_0 : decode jdk_29_method_61_code 0 = .ok (.lload_n 0, 1) := by decide +kernel
theorem d13_1 : decode jdk_29_method_61_code 1 = .ok (.lconst 0, 1) := by decide +kernel
theorem d13_2 : decode jdk_29_method_61_code 2 = .ok (.lcmp, 1) := by decide +kernel
theorem d13_3 : decode jdk_29_method_61_code 3 = .ok (.ifCond .ge 8, 3) := by decide +kernel
theorem d13_11 : decode jdk_29_method_61_code 11 = .ok (.lload_n 0, 1) := by decide +kernel
theorem d13_12 : decode jdk_29_method_61_code 12 = .ok (.lreturn, 1) := by decide +kernel
set_option maxRecDepth 65536 in
set_option maxHeartbeats 40000000 in
theorem b13 {p : Program} {l : Launch} {e : Env} {s : State} {m : MethodId} {args : Array Value} {below : List Frame} {meth : Method} {c : Code} {T0 : State} {locs : List Loc} {Z : State} {a0 : Array Value} {h0 : Heap} {n0 : Nat} (q1 : Int64)
    (C : own_C p s m meth c Z a0 jdk_29_method_61_code 2 "java/lang/Math" (some .long) "abs") (X0 : Stand p l e ({ frames := 0, cells := 0, slots := 0, locals := 0 } : Room) s m args below meth c T0 locs 0 0) (e0 : T0.heap = h0) (Z0 : n0 ≤ h0.size) (N0 : Fr n0 locs) (hn : ¬ q1 < (0 : Int64)) :
    own_Go p.tables e below (T0.setTop (mkF m 0 #[.val (.long q1), .second] [])) (own_K s (fun (v : Option Value) (h : Heap) (L : List Loc) => Q13 Z q1 h0 n0 v h L) ({ frames := 0, cells := 0, slots := 0, locals := 0 } : Room).cells ({ frames := 0, cells := 0, slots := 0, locals := 0 } : Room).slots) := by
  obtain ⟨hx, hZ, hw, hby, hml, hown, hret, hlk, hnm⟩ := C
  refine own_via (G := T0.setTop (mkF m 1 #[.val (.long q1), .second] [(.long q1)])) (fun t k => XT.lloadN X0.here hx rfl (hb hby d13_0) rfl k) ?_
  refine own_via (G := T0.setTop (mkF m 2 #[.val (.long q1), .second] [(.long (0 : Int64)), (.long q1)])) (fun t k => XT.lconst X0.here hx rfl (hb hby d13_1) k) ?_
  refine own_via (G := T0.setTop (mkF m 3 #[.val (.long q1), .second] [(.int (XT.cmpL q1 (0 : Int64)))])) (fun t k => XT.lcmp X0.here hx rfl (hb hby d13_2) rfl k) ?_
  have hc1_3 : ¬ (q1 < (0 : Int64)) := hn
  refine own_via (G := T0.setTop (mkF m 11 #[.val (.long q1), .second] [])) (fun t k => XS.ifYes X0.here hx rfl (pc0 := 3) (pc' := 11) rfl (hb hby d13_3) rfl (XT.ll_ge_t hc1_3) (by decide) (by decide) k) ?_
  refine own_via (G := T0.setTop (mkF m 12 #[.val (.long q1), .second] [(.long q1)])) (fun t k => XT.lloadN X0.here hx rfl (hb hby d13_11) rfl k) ?_
  exact own_fin X0 e0 (v := some (.long q1)) (fun h => by rw [hret] at h; cases h) hlk (fun fs hr => X0.lreturnOut hx hret (hb hby d13_12) hr) (show ((fun (v : Option Value) (h : Heap) (L : List Loc) => Q13 Z q1 h0 n0 v h L)) (some (.long q1)) h0 _ from ⟨rfl, N0, rfl⟩) (by decide) (by decide)
theorem ef_13 (m : MethodId) (q1 : Int64) : entryFrame m #[(.long q1)] 2 = mkF m 0 #[.val (.long q1), .second] [] := by first | (simp [entryFrame, mkF, argsToLocals, Value.category, maxLocals]; done) | rfl
set_option maxRecDepth 65536 in
set_option maxHeartbeats 40000000 in
theorem rm13 (l : Launch) (Z : State) (a0 : Array Value) (hw : ∀ d ∈ tables_1, d.before a0 Z = true) (ws : List Jvm.Cond) (q1 : Int64) (h0 : Heap) (n0 : Nat) (Z0 : n0 ≤ h0.size) (hn : ¬ q1 < (0 : Int64)) :
    MetFree l (⟨"java/lang/Math", "abs", "(J)J"⟩ : MethodName) (head1 (Jvm.Cond.code (⟨"java/lang/Math", "abs", "(J)J"⟩ : MethodName) jdk_29_method_61_code 2 (some .long) :: ws) ({ frames := 0, cells := 0, slots := 0, locals := 0 } : Room)) (fun a U => a = #[(.long q1)] ∧ Z.Warmed39 U.vm ∧ U.heap = h0) (fun _ _ _ _ _ => True) (fun _ U o U' => ∃ v L, o = .returned v ∧ Q13 Z q1 h0 n0 v U'.heap L ∧ FrameEnd U o U' L ({ frames := 0, cells := 0, slots := 0, locals := 0 } : Room).cells ({ frames := 0, cells := 0, slots := 0, locals := 0 } : Room).slots) := by
  refine MetFree.of_bodySF (Jvm.Free.JP.mathPlain rfl (by decide +kernel)) hisR ?_
  intro p e s m args below meth c s₁ Bd hml0 hP hK
  obtain ⟨rfl, hZ, hh⟩ := hP
  have e0 : s₁.heap = h0 := by rw [← hh, Bd.state]; rfl
  rw [ef_13 m q1]
  exact b13 q1 ⟨Bd.exec, hZ, hw, Bd.bytes, hml0, findClass_of_methodNamed Bd.named, Bd.returns, Bd.notSynchronized, (name_of_methodNamed Bd.named Bd.method).1⟩ (Stand.of_body Bd) e0 Z0 (Fr.nil n0) hn
def Q12 (Z : State) (q1 : Int64) (q2 : Int64) (h0 : Heap) (n0 : Nat) (v : Option Value) (h : Heap) (L : List Loc) : Prop := v = some (.long (q1 * q2)) ∧ Fr n0 L ∧ h = h0
theorem d12_0 : decode jdk_29_method_30_code 0 = .ok (.lload_n 0, 1) := by decide +kernel
theorem d12_1 : decode jdk_29_method_30_code 1 = .ok (.lload_n 2, 1) := by decide +kernel
theorem d12_2 : decode jdk_29_method_30_code 2 = .ok (.lmul, 1) := by decide +kernel
theorem d12_3 : decode jdk_29_method_30_code 3 = .ok (.lstore 4, 2) := by decide +kernel
theorem d12_5 : decode jdk_29_method_30_code 5 = .ok (.lload_n 0, 1) := by decide +kernel
theorem d12_6 : decode jdk_29_method_30_code 6 = .ok (.invokestatic 122, 3) := by decide +kernel
theorem pd_6 : parseMethodDescriptor "(J)J" = some ⟨[.long], some .long⟩ := by decide +kernel
theorem d12_9 : decode jdk_29_method_30_code 9 = .ok (.lstore 6, 2) := by decide +kernel
theorem d12_11 : decode jdk_29_method_30_code 11 = .ok (.lload_n 2, 1) := by decide +kernel
theorem d12_12 : decode jdk_29_method_30_code 12 = .ok (.invokestatic 122, 3) := by decide +kernel
theorem d12_15 : decode jdk_29_method_30_code 15 = .ok (.lstore 8, 2) := by decide +kernel
theorem d12_17 : decode jdk_29_method_30_code 17 = .ok (.lload 6, 2) := by decide +kernel
theorem d12_19 : decode jdk_29_method_30_code 19 = .ok (.lload 8, 2) := by decide +kernel
theorem d12_21 : decode jdk_29_method_30_code 21 = .ok (.lor, 1) := by decide +kernel
theorem d12_22 : decode jdk_29_method_30_code 22 = .ok (.bipush 31, 2) := by decide +kernel
theorem d12_24 : decode jdk_29_method_30_code 24 = .ok (.lushr, 1) := by decide +kernel
theorem d12_25 : decode jdk_29_method_30_code 25 = .ok (.lconst 0, 1) := by decide +kernel
theorem d12_26 : decode jdk_29_method_30_code 26 = .ok (.lcmp, 1) := by decide +kernel
theorem d12_27 : decode jdk_29_method_30_code 27 = .ok (.ifCond .eq 44, 3) := by decide +kernel
theorem d12_71 : decode jdk_29_method_30_code 71 = .ok (.lload 4, 2) := by decide +kernel
theorem d12_73 : decode jdk_29_method_30_code 73 = .ok (.lreturn, 1) := by decide +kernel
theorem d12_30 : decode jdk_29_method_30_code 30 = .ok (.lload_n 2, 1) := by decide +kernel
theorem d12_31 : decode jdk_29_method_30_code 31 = .ok (.lconst 0, 1) := by decide +kernel
theorem d12_32 : decode jdk_29_method_30_code 32 = .ok (.lcmp, 1) := by decide +kernel
theorem d12_33 : decode jdk_29_method_30_code 33 = .ok (.ifCond .eq 12, 3) := by decide +kernel
theorem d12_36 : decode jdk_29_method_30_code 36 = .ok (.lload 4, 2) := by decide +kernel
theorem d12_38 : decode jdk_29_method_30_code 38 = .ok (.lload_n 2, 1) := by decide +kernel
theorem d12_39 : decode jdk_29_method_30_code 39 = .ok (.ldiv, 1) := by decide +kernel
theorem d12_40 : decode jdk_29_method_30_code 40 = .ok (.lload_n 0, 1) := by decide +kernel
theorem d12_41 : decode jdk_29_method_30_code 41 = .ok (.lcmp, 1) := by decide +kernel
theorem d12_42 : decode jdk_29_method_30_code 42 = .ok (.ifCond .ne 19, 3) := by decide +kernel
theorem d12_45 : decode jdk_29_method_30_code 45 = .ok (.lload_n 0, 1) := by decide +kernel
theorem d12_46 : decode jdk_29_method_30_code 46 = .ok (.ldc2_w 128, 3) := by decide +kernel
theorem d12_49 : decode jdk_29_method_30_code 49 = .ok (.lcmp, 1) := by decide +kernel
theorem d12_50 : decode jdk_29_method_30_code 50 = .ok (.ifCond .ne 21, 3) := by decide +kernel
set_option maxRecDepth 65536 in
set_option maxHeartbeats 40000000 in
theorem b12 {p : Program} {l : Launch} {e : Env} {s : State} {m : MethodId} {args : Array Value} {below : List Frame} {meth : Method} {c : Code} {T0 : State} {locs : List Loc} {Z : State} {a0 : Array Value} {h0 : Heap} {n0 : Nat} (q1 : Int64) (q2 : Int64)
    (C : own_C p s m meth c Z a0 jdk_29_method_30_code 10 "java/lang/Math" (some .long) "multiplyExact") (X0 : Stand p l e ({ frames := 1, cells := 0, slots := 0, locals := 13 } : Room) s m args below meth c T0 locs 0 0) (e0 : T0.heap = h0) (Z0 : n0 ≤ h0.size) (N0 : Fr n0 locs) (h1 : ¬ q1 < (0 : Int64)) (h2 : ¬ q2 < (0 : Int64)) (h3 : ¬ q2 = (0 : Int64)) (h4 : ((q1 * q2) / q2) = q1) (h5 : ¬ q1 = (-9223372036854775808 : Int64)) :
    own_Go p.tables e below (T0.setTop (mkF m 0 #[.val (.long q1), .second, .val (.long q2), .second, .unset, .unset, .unset, .unset, .unset, .unset] [])) (own_K s (fun (v : Option Value) (h : Heap) (L : List Loc) => Q12 Z q1 q2 h0 n0 v h L) ({ frames := 1, cells := 0, slots := 0, locals := 13 } : Room).cells ({ frames := 1, cells := 0, slots := 0, locals := 13 } : Room).slots) := by
  obtain ⟨hx, hZ, hw, hby, hml, hown, hret, hlk, hnm⟩ := C
  refine own_via (G := T0.setTop (mkF m 1 #[.val (.long q1), .second, .val (.long q2), .second, .unset, .unset, .unset, .unset, .unset, .unset] [(.long q1)])) (fun t k => XT.lloadN X0.here hx rfl (hb hby d12_0) rfl k) ?_
  refine own_via (G := T0.setTop (mkF m 2 #[.val (.long q1), .second, .val (.long q2), .second, .unset, .unset, .unset, .unset, .unset, .unset] [(.long q2), (.long q1)])) (fun t k => XT.lloadN X0.here hx rfl (hb hby d12_1) rfl k) ?_
  refine own_via (G := T0.setTop (mkF m 3 #[.val (.long q1), .second, .val (.long q2), .second, .unset, .unset, .unset, .unset, .unset, .unset] [(.long (q1 * q2))])) (fun t k => XT.lmul X0.here hx rfl (hb hby d12_2) rfl k) ?_
  refine own_via (G := T0.setTop (mkF m 5 #[.val (.long q1), .second, .val (.long q2), .second, .val (.long (q1 * q2)), .second, .unset, .unset, .unset, .unset] [])) (fun t k => XT.lstore X0.here hx rfl (hb hby d12_3) rfl (l' := #[.val (.long q1), .second, .val (.long q2), .second, .val (.long (q1 * q2)), .second, .unset, .unset, .unset, .unset]) rfl k) ?_
  refine own_via (G := T0.setTop (mkF m 6 #[.val (.long q1), .second, .val (.long q2), .second, .val (.long (q1 * q2)), .second, .unset, .unset, .unset, .unset] [(.long q1)])) (fun t k => XT.lloadN X0.here hx rfl (hb hby d12_5) rfl k) ?_
  obtain ⟨_, _, ⟨T1, L1, k1, n1⟩, -, X1, ⟨Lc1, hQ1, l1, y1, z1⟩, st1⟩ := Jvm.LawKit.callS X0 hx (y := (⟨"java/lang/Math", "abs", "(J)J"⟩ : MethodName)) hown (mvT hZ (hw _ (List.mem_of_getElem? (i := 55) rfl))) (mvT hZ (hw _ (List.mem_of_getElem? (i := 56) rfl))) (mvT hZ (hw _ (List.mem_of_getElem? (i := 13) rfl))) (mvT hZ (hw _ (List.mem_of_getElem? (i := 57) rfl))) (by decide) (backOf (W := 0) (rm13 l Z a0 hw [] q1 h0 n0 Z0 h1) hZ (hw _ (List.mem_of_getElem? (i := 57) rfl)) (hw _ (List.mem_of_getElem? (i := 13) rfl)) (by decide) (by decide)) (g := (mkF m 6 #[.val (.long q1), .second, .val (.long q2), .second, .val (.long (q1 * q2)), .second, .unset, .unset, .unset, .unset] [(.long q1)])) rfl (by rw [hml]; rfl) (argsL := [(.long q1)]) (rest := []) (lenOf pd_6 rfl) rfl (by show 2 * 0 + _ ≤ _; exact Nat.le_of_eq rfl) (hb hby d12_6) (fun _ _ => ⟨rfl, e0, (by decide : 0 + 0 ≤ _), (by decide : 0 + 0 ≤ _)⟩)
  dsimp only [Pt.U, Pt.locs, Pt.cells, Pt.slots] at X1 l1 y1 z1 st1 hQ1
  subst l1 y1 z1
  obtain ⟨rfl, Nq1, eh1⟩ := hQ1
  have N1 := Fr.app N0 Nq1
  refine own_via (G := T1.setTop (mkF m 9 #[.val (.long q1), .second, .val (.long q2), .second, .val (.long (q1 * q2)), .second, .unset, .unset, .unset, .unset] [(.long q1)])) (fun t k => st1 t k) ?_
  refine own_via (G := T1.setTop (mkF m 11 #[.val (.long q1), .second, .val (.long q2), .second, .val (.long (q1 * q2)), .second, .val (.long q1), .second, .unset, .unset] [])) (fun t k => XT.lstore X1.here hx rfl (hb hby d12_9) rfl (l' := #[.val (.long q1), .second, .val (.long q2), .second, .val (.long (q1 * q2)), .second, .val (.long q1), .second, .unset, .unset]) rfl k) ?_
  refine own_via (G := T1.setTop (mkF m 12 #[.val (.long q1), .second, .val (.long q2), .second, .val (.long (q1 * q2)), .second, .val (.long q1), .second, .unset, .unset] [(.long q2)])) (fun t k => XT.lloadN X1.here hx rfl (hb hby d12_11) rfl k) ?_
  obtain ⟨_, _, ⟨T2, L2, k2, n2⟩, -, X2, ⟨Lc2, hQ2, l2, y2, z2⟩, st2⟩ := Jvm.LawKit.callS X1 hx (y := (⟨"java/lang/Math", "abs", "(J)J"⟩ : MethodName)) hown (mvT hZ (hw _ (List.mem_of_getElem? (i := 55) rfl))) (mvT hZ (hw _ (List.mem_of_getElem? (i := 56) rfl))) (mvT hZ (hw _ (List.mem_of_getElem? (i := 13) rfl))) (mvT hZ (hw _ (List.mem_of_getElem? (i := 57) rfl))) (by decide) (backOf (W := 0) (rm13 l Z a0 hw [] q2 h0 n0 Z0 h2) hZ (hw _ (List.mem_of_getElem? (i := 57) rfl)) (hw _ (List.mem_of_getElem? (i := 13) rfl)) (by decide) (by decide)) (g := (mkF m 12 #[.val (.long q1), .second, .val (.long q2), .second, .val (.long (q1 * q2)), .second, .val (.long q1), .second, .unset, .unset] [(.long q2)])) rfl (by rw [hml]; rfl) (argsL := [(.long q2)]) (rest := []) (lenOf pd_6 rfl) rfl (by show 2 * 0 + _ ≤ _; exact Nat.le_of_eq rfl) (hb hby d12_12) (fun _ _ => ⟨rfl, eh1, (by decide : (0 + 0) + 0 ≤ _), (by decide : (0 + 0) + 0 ≤ _)⟩)
  dsimp only [Pt.U, Pt.locs, Pt.cells, Pt.slots] at X2 l2 y2 z2 st2 hQ2
  subst l2 y2 z2
  obtain ⟨rfl, Nq2, eh2⟩ := hQ2
  have N2 := Fr.app N1 Nq2
  refine own_via (G := T2.setTop (mkF m 15 #[.val (.long q1), .second, .val (.long q2), .second, .val (.long (q1 * q2)), .second, .val (.long q1), .second, .unset, .unset] [(.long q2)])) (fun t k => st2 t k) ?_
  refine own_via (G := T2.setTop (mkF m 17 #[.val (.long q1), .second, .val (.long q2), .second, .val (.long (q1 * q2)), .second, .val (.long q1), .second, .val (.long q2), .second] [])) (fun t k => XT.lstore X2.here hx rfl (hb hby d12_15) rfl (l' := #[.val (.long q1), .second, .val (.long q2), .second, .val (.long (q1 * q2)), .second, .val (.long q1), .second, .val (.long q2), .second]) rfl k) ?_
  refine own_via (G := T2.setTop (mkF m 19 #[.val (.long q1), .second, .val (.long q2), .second, .val (.long (q1 * q2)), .second, .val (.long q1), .second, .val (.long q2), .second] [(.long q1)])) (fun t k => XT.lload X2.here hx rfl (hb hby d12_17) rfl k) ?_
  refine own_via (G := T2.setTop (mkF m 21 #[.val (.long q1), .second, .val (.long q2), .second, .val (.long (q1 * q2)), .second, .val (.long q1), .second, .val (.long q2), .second] [(.long q2), (.long q1)])) (fun t k => XT.lload X2.here hx rfl (hb hby d12_19) rfl k) ?_
  refine own_via (G := T2.setTop (mkF m 22 #[.val (.long q1), .second, .val (.long q2), .second, .val (.long (q1 * q2)), .second, .val (.long q1), .second, .val (.long q2), .second] [(.long (q1 ||| q2))])) (fun t k => XT.lor X2.here hx rfl (hb hby d12_21) rfl k) ?_
  refine own_via (G := T2.setTop (mkF m 24 #[.val (.long q1), .second, .val (.long q2), .second, .val (.long (q1 * q2)), .second, .val (.long q1), .second, .val (.long q2), .second] [(.int (31 : Int32)), (.long (q1 ||| q2))])) (fun t k => XS.bipush X2.here hx rfl (hb hby d12_22) k) ?_
  refine own_via (G := T2.setTop (mkF m 25 #[.val (.long q1), .second, .val (.long q2), .second, .val (.long (q1 * q2)), .second, .val (.long q1), .second, .val (.long q2), .second] [(.long (XT.ushrL (q1 ||| q2) (31 : Int32)))])) (fun t k => XT.lushr X2.here hx rfl (hb hby d12_24) rfl k) ?_
  refine own_via (G := T2.setTop (mkF m 26 #[.val (.long q1), .second, .val (.long q2), .second, .val (.long (q1 * q2)), .second, .val (.long q1), .second, .val (.long q2), .second] [(.long (0 : Int64)), (.long (XT.ushrL (q1 ||| q2) (31 : Int32)))])) (fun t k => XT.lconst X2.here hx rfl (hb hby d12_25) k) ?_
  refine own_via (G := T2.setTop (mkF m 27 #[.val (.long q1), .second, .val (.long q2), .second, .val (.long (q1 * q2)), .second, .val (.long q1), .second, .val (.long q2), .second] [(.int (XT.cmpL (XT.ushrL (q1 ||| q2) (31 : Int32)) (0 : Int64)))])) (fun t k => XT.lcmp X2.here hx rfl (hb hby d12_26) rfl k) ?_
  by_cases hc3_27 : (XT.ushrL (q1 ||| q2) (31 : Int32)) = (0 : Int64)
  · refine own_via (G := T2.setTop (mkF m 71 #[.val (.long q1), .second, .val (.long q2), .second, .val (.long (q1 * q2)), .second, .val (.long q1), .second, .val (.long q2), .second] [])) (fun t k => XS.ifYes X2.here hx rfl (pc0 := 27) (pc' := 71) rfl (hb hby d12_27) rfl (XT.ll_eq_t hc3_27) (by decide) (by decide) k) ?_
    refine own_via (G := T2.setTop (mkF m 73 #[.val (.long q1), .second, .val (.long q2), .second, .val (.long (q1 * q2)), .second, .val (.long q1), .second, .val (.long q2), .second] [(.long (q1 * q2))])) (fun t k => XT.lload X2.here hx rfl (hb hby d12_71) rfl k) ?_
    exact own_fin X2 eh2 (v := some (.long (q1 * q2))) (fun h => by rw [hret] at h; cases h) hlk (fun fs hr => X2.lreturnOut hx hret (hb hby d12_73) hr) (show ((fun (v : Option Value) (h : Heap) (L : List Loc) => Q12 Z q1 q2 h0 n0 v h L)) (some (.long (q1 * q2))) h0 _ from ⟨rfl, N2, rfl⟩) (by decide) (by decide)
  · refine own_via (G := T2.setTop (mkF m 30 #[.val (.long q1), .second, .val (.long q2), .second, .val (.long (q1 * q2)), .second, .val (.long q1), .second, .val (.long q2), .second] [])) (fun t k => XS.ifNo X2.here hx rfl (hb hby d12_27) rfl (XT.ll_eq_f hc3_27) k) ?_
    refine own_via (G := T2.setTop (mkF m 31 #[.val (.long q1), .second, .val (.long q2), .second, .val (.long (q1 * q2)), .second, .val (.long q1), .second, .val (.long q2), .second] [(.long q2)])) (fun t k => XT.lloadN X2.here hx rfl (hb hby d12_30) rfl k) ?_
    refine own_via (G := T2.setTop (mkF m 32 #[.val (.long q1), .second, .val (.long q2), .second, .val (.long (q1 * q2)), .second, .val (.long q1), .second, .val (.long q2), .second] [(.long (0 : Int64)), (.long q2)])) (fun t k => XT.lconst X2.here hx rfl (hb hby d12_31) k) ?_
    refine own_via (G := T2.setTop (mkF m 33 #[.val (.long q1), .second, .val (.long q2), .second, .val (.long (q1 * q2)), .second, .val (.long q1), .second, .val (.long q2), .second] [(.int (XT.cmpL q2 (0 : Int64)))])) (fun t k => XT.lcmp X2.here hx rfl (hb hby d12_32) rfl k) ?_
    have hc4_33 : ¬ (q2 = (0 : Int64)) := h3
    refine own_via (G := T2.setTop (mkF m 36 #[.val (.long q1), .second, .val (.long q2), .second, .val (.long (q1 * q2)), .second, .val (.long q1), .second, .val (.long q2), .second] [])) (fun t k => XS.ifNo X2.here hx rfl (hb hby d12_33) rfl (XT.ll_eq_f hc4_33) k) ?_
    refine own_via (G := T2.setTop (mkF m 38 #[.val (.long q1), .second, .val (.long q2), .second, .val (.long (q1 * q2)), .second, .val (.long q1), .second, .val (.long q2), .second] [(.long (q1 * q2))])) (fun t k => XT.lload X2.here hx rfl (hb hby d12_36) rfl k) ?_
    refine own_via (G := T2.setTop (mkF m 39 #[.val (.long q1), .second, .val (.long q2), .second, .val (.long (q1 * q2)), .second, .val (.long q1), .second, .val (.long q2), .second] [(.long q2), (.long (q1 * q2))])) (fun t k => XT.lloadN X2.here hx rfl (hb hby d12_38) rfl k) ?_
    refine own_via (G := T2.setTop (mkF m 40 #[.val (.long q1), .second, .val (.long q2), .second, .val (.long (q1 * q2)), .second, .val (.long q1), .second, .val (.long q2), .second] [(.long ((q1 * q2) / q2))])) (fun t k => XT.ldiv X2.here hx rfl (hb hby d12_39) rfl h3 k) ?_
    refine own_via (G := T2.setTop (mkF m 41 #[.val (.long q1), .second, .val (.long q2), .second, .val (.long (q1 * q2)), .second, .val (.long q1), .second, .val (.long q2), .second] [(.long q1), (.long ((q1 * q2) / q2))])) (fun t k => XT.lloadN X2.here hx rfl (hb hby d12_40) rfl k) ?_
    refine own_via (G := T2.setTop (mkF m 42 #[.val (.long q1), .second, .val (.long q2), .second, .val (.long (q1 * q2)), .second, .val (.long q1), .second, .val (.long q2), .second] [(.int (XT.cmpL ((q1 * q2) / q2) q1))])) (fun t k => XT.lcmp X2.here hx rfl (hb hby d12_41) rfl k) ?_
    have hc5_42 : ((q1 * q2) / q2) = q1 := h4
    refine own_via (G := T2.setTop (mkF m 45 #[.val (.long q1), .second, .val (.long q2), .second, .val (.long (q1 * q2)), .second, .val (.long q1), .second, .val (.long q2), .second] [])) (fun t k => XS.ifNo X2.here hx rfl (hb hby d12_42) rfl (XT.ll_ne_f hc5_42) k) ?_
    refine own_via (G := T2.setTop (mkF m 46 #[.val (.long q1), .second, .val (.long q2), .second, .val (.long (q1 * q2)), .second, .val (.long q1), .second, .val (.long q2), .second] [(.long q1)])) (fun t k => XT.lloadN X2.here hx rfl (hb hby d12_45) rfl k) ?_
    refine own_via (G := T2.setTop (mkF m 49 #[.val (.long q1), .second, .val (.long q2), .second, .val (.long (q1 * q2)), .second, .val (.long q1), .second, .val (.long q2), .second] [(.long (-9223372036854775808 : Int64)), (.long q1)])) (fun t k => X2.ldc2J hx hown (mvT hZ (hw _ (List.mem_of_getElem? (i := 61) rfl))) (g := (mkF m 46 #[.val (.long q1), .second, .val (.long q2), .second, .val (.long (q1 * q2)), .second, .val (.long q1), .second, .val (.long q2), .second] [(.long q1)])) rfl (hb hby d12_46) k) ?_
    refine own_via (G := T2.setTop (mkF m 50 #[.val (.long q1), .second, .val (.long q2), .second, .val (.long (q1 * q2)), .second, .val (.long q1), .second, .val (.long q2), .second] [(.int (XT.cmpL q1 (-9223372036854775808 : Int64)))])) (fun t k => XT.lcmp X2.here hx rfl (hb hby d12_49) rfl k) ?_
    have hc6_50 : ¬ (q1 = (-9223372036854775808 : Int64)) := h5
    refine own_via (G := T2.setTop (mkF m 71 #[.val (.long q1), .second, .val (.long q2), .second, .val (.long (q1 * q2)), .second, .val (.long q1), .second, .val (.long q2), .second] [])) (fun t k => XS.ifYes X2.here hx rfl (pc0 := 50) (pc' := 71) rfl (hb hby d12_50) rfl (XT.ll_ne_t hc6_50) (by decide) (by decide) k) ?_
    refine own_via (G := T2.setTop (mkF m 73 #[.val (.long q1), .second, .val (.long q2), .second, .val (.long (q1 * q2)), .second, .val (.long q1), .second, .val (.long q2), .second] [(.long (q1 * q2))])) (fun t k => XT.lload X2.here hx rfl (hb hby d12_71) rfl k) ?_
    exact own_fin X2 eh2 (v := some (.long (q1 * q2))) (fun h => by rw [hret] at h; cases h) hlk (fun fs hr => X2.lreturnOut hx hret (hb hby d12_73) hr) (show ((fun (v : Option Value) (h : Heap) (L : List Loc) => Q12 Z q1 q2 h0 n0 v h L)) (some (.long (q1 * q2))) h0 _ from ⟨rfl, N2, rfl⟩) (by decide) (by decide)
theorem ef_12 (m : MethodId) (q1 : Int64) (q2 : Int64) : entryFrame m #[(.long q1), (.long q2)] 10 = mkF m 0 #[.val (.long q1), .second, .val (.long q2), .second, .unset, .unset, .unset, .unset, .unset, .unset] [] := by first | (simp [entryFrame, mkF, argsToLocals, Value.category, maxLocals]; done) | rfl
set_option maxRecDepth 65536 in
set_option maxHeartbeats 40000000 in
theorem rm12 (l : Launch) (Z : State) (a0 : Array Value) (hw : ∀ d ∈ tables_1, d.before a0 Z = true) (ws : List Jvm.Cond) (q1 : Int64) (q2 : Int64) (h0 : Heap) (n0 : Nat) (Z0 : n0 ≤ h0.size) (h1 : ¬ q1 < (0 : Int64)) (h2 : ¬ q2 < (0 : Int64)) (h3 : ¬ q2 = (0 : Int64)) (h4 : ((q1 * q2) / q2) = q1) (h5 : ¬ q1 = (-9223372036854775808 : Int64)) :
    MetFree l (⟨"java/lang/Math", "multiplyExact", "(JJ)J"⟩ : MethodName) (head1 (Jvm.Cond.code (⟨"java/lang/Math", "multiplyExact", "(JJ)J"⟩ : MethodName) jdk_29_method_30_code 10 (some .long) :: ws) ({ frames := 1, cells := 0, slots := 0, locals := 13 } : Room)) (fun a U => a = #[(.long q1), (.long q2)] ∧ Z.Warmed39 U.vm ∧ U.heap = h0) (fun _ _ _ _ _ => True) (fun _ U o U' => ∃ v L, o = .returned v ∧ Q12 Z q1 q2 h0 n0 v U'.heap L ∧ FrameEnd U o U' L ({ frames := 1, cells := 0, slots := 0, locals := 13 } : Room).cells ({ frames := 1, cells := 0, slots := 0, locals := 13 } : Room).slots) := by
  refine MetFree.of_bodySF (Jvm.Free.JP.mathPlain rfl (by decide +kernel)) hisR ?_
  intro p e s m args below meth c s₁ Bd hml0 hP hK
  obtain ⟨rfl, hZ, hh⟩ := hP
  have e0 : s₁.heap = h0 := by rw [← hh, Bd.state]; rfl
  rw [ef_12 m q1 q2]
  exact b12 q1 q2 ⟨Bd.exec, hZ, hw, Bd.bytes, hml0, findClass_of_methodNamed Bd.named, Bd.returns, Bd.notSynchronized, (name_of_methodNamed Bd.named Bd.method).1⟩ (Stand.of_body Bd) e0 Z0 (Fr.nil n0) h1 h2 h3 h4 h5
def Q11 (Z : State) (q1 : Int64) (q2 : Int32) (h0 : Heap) (n0 : Nat) (v : Option Value) (h : Heap) (L : List Loc) : Prop := v = some (.long (q1 * (q2.toInt64))) ∧ Fr n0 L ∧ h = h0
theorem d11_0 : decode jdk_29_method_29_code 0 = .ok (.lload_n 0, 1) := by decide +kernel
theorem d11_1 : decode jdk_29_method_29_code 1 = .ok (.iload_n 2, 1) := by decide +kernel
theorem d11_2 : decode jdk_29_method_29_code 2 = .ok (.i2l, 1) := by decide +kernel
theorem d11_3 : decode jdk_29_method_29_code 3 = .ok (.invokestatic 118, 3) := by decide +kernel
theorem d11_6 : decode jdk_29_method_29_code 6 = .ok (.lreturn, 1) := by decide +kernel
set_option maxRecDepth 65536 in
set_option maxHeartbeats 40000000 in
theorem b11 {p : Program} {l : Launch} {e : Env} {s : State} {m : MethodId} {args : Array Value} {below : List Frame} {meth : Method} {c : Code} {T0 : State} {locs : List Loc} {Z : State} {a0 : Array Value} {h0 : Heap} {n0 : Nat} (q1 : Int64) (q2 : Int32)
    (C : own_C p s m meth c Z a0 jdk_29_method_29_code 3 "java/lang/Math" (some .long) "multiplyExact") (X0 : Stand p l e ({ frames := 2, cells := 0, slots := 0, locals := 34 } : Room) s m args below meth c T0 locs 0 0) (e0 : T0.heap = h0) (Z0 : n0 ≤ h0.size) (N0 : Fr n0 locs) (h1 : ¬ q1 < (0 : Int64)) (h2 : ¬ (q2.toInt64) < (0 : Int64)) (h3 : ¬ (q2.toInt64) = (0 : Int64)) (h4 : ((q1 * (q2.toInt64)) / (q2.toInt64)) = q1) (h5 : ¬ q1 = (-9223372036854775808 : Int64)) :
    own_Go p.tables e below (T0.setTop (mkF m 0 #[.val (.long q1), .second, .val (.int q2)] [])) (own_K s (fun (v : Option Value) (h : Heap) (L : List Loc) => Q11 Z q1 q2 h0 n0 v h L) ({ frames := 2, cells := 0, slots := 0, locals := 34 } : Room).cells ({ frames := 2, cells := 0, slots := 0, locals := 34 } : Room).slots) := by
  obtain ⟨hx, hZ, hw, hby, hml, hown, hret, hlk, hnm⟩ := C
  refine own_via (G := T0.setTop (mkF m 1 #[.val (.long q1), .second, .val (.int q2)] [(.long q1)])) (fun t k => XT.lloadN X0.here hx rfl (hb hby d11_0) rfl k) ?_
  refine own_via (G := T0.setTop (mkF m 2 #[.val (.long q1), .second, .val (.int q2)] [(.int q2), (.long q1)])) (fun t k => XS.iloadN X0.here hx rfl (hb hby d11_1) rfl k) ?_
  refine own_via (G := T0.setTop (mkF m 3 #[.val (.long q1), .second, .val (.int q2)] [(.long (q2.toInt64)), (.long q1)])) (fun t k => XT.i2l X0.here hx rfl (hb hby d11_2) rfl k) ?_
  obtain ⟨_, _, ⟨T1, L1, k1, n1⟩, -, X1, ⟨Lc1, hQ1, l1, y1, z1⟩, st1⟩ := Jvm.LawKit.callS X0 hx (y := (⟨"java/lang/Math", "multiplyExact", "(JJ)J"⟩ : MethodName)) hown (mvT hZ (hw _ (List.mem_of_getElem? (i := 52) rfl))) (mvT hZ (hw _ (List.mem_of_getElem? (i := 53) rfl))) (mvT hZ (hw _ (List.mem_of_getElem? (i := 13) rfl))) (mvT hZ (hw _ (List.mem_of_getElem? (i := 54) rfl))) (by decide) (backOf (W := 0) (rm12 l Z a0 hw [] q1 (q2.toInt64) h0 n0 Z0 h1 h2 h3 h4 h5) hZ (hw _ (List.mem_of_getElem? (i := 54) rfl)) (hw _ (List.mem_of_getElem? (i := 13) rfl)) (by decide) (by decide)) (g := (mkF m 3 #[.val (.long q1), .second, .val (.int q2)] [(.long (q2.toInt64)), (.long q1)])) rfl (by rw [hml]; rfl) (argsL := [(.long q1), (.long (q2.toInt64))]) (rest := []) (lenOf pd_0 rfl) rfl (by show 2 * 0 + _ ≤ _; exact Nat.le_of_eq rfl) (hb hby d11_3) (fun _ _ => ⟨rfl, e0, (by decide : 0 + 0 ≤ _), (by decide : 0 + 0 ≤ _)⟩)
  dsimp only [Pt.U, Pt.locs, Pt.cells, Pt.slots] at X1 l1 y1 z1 st1 hQ1
  subst l1 y1 z1
  obtain ⟨rfl, Nq1, eh1⟩ := hQ1
  have N1 := Fr.app N0 Nq1
  refine own_via (G := T1.setTop (mkF m 6 #[.val (.long q1), .second, .val (.int q2)] [(.long (q1 * (q2.toInt64)))])) (fun t k => st1 t k) ?_
  exact own_fin X1 eh1 (v := some (.long (q1 * (q2.toInt64)))) (fun h => by rw [hret] at h; cases h) hlk (fun fs hr => X1.lreturnOut hx hret (hb hby d11_6) hr) (show ((fun (v : Option Value) (h : Heap) (L : List Loc) => Q11 Z q1 q2 h0 n0 v h L)) (some (.long (q1 * (q2.toInt64)))) h0 _ from ⟨rfl, N1, rfl⟩) (by decide) (by decide)
theorem ef_11 (m : MethodId) (q1 : Int64) (q2 : Int32) : entryFrame m #[(.long q1), (.int q2)] 3 = mkF m 0 #[.val (.long q1), .second, .val (.int q2)] [] := by first | (simp [entryFrame, mkF, argsToLocals, Value.category, maxLocals]; done) | rfl
set_option maxRecDepth 65536 in
set_option maxHeartbeats 40000000 in
theorem rm11 (l : Launch) (Z : State) (a0 : Array Value) (hw : ∀ d ∈ tables_1, d.before a0 Z = true) (ws : List Jvm.Cond) (q1 : Int64) (q2 : Int32) (h0 : Heap) (n0 : Nat) (Z0 : n0 ≤ h0.size) (h1 : ¬ q1 < (0 : Int64)) (h2 : ¬ (q2.toInt64) < (0 : Int64)) (h3 : ¬ (q2.toInt64) = (0 : Int64)) (h4 : ((q1 * (q2.toInt64)) / (q2.toInt64)) = q1) (h5 : ¬ q1 = (-9223372036854775808 : Int64)) :
    MetFree l (⟨"java/lang/Math", "multiplyExact", "(JI)J"⟩ : MethodName) (head1 (Jvm.Cond.code (⟨"java/lang/Math", "multiplyExact", "(JI)J"⟩ : MethodName) jdk_29_method_29_code 3 (some .long) :: ws) ({ frames := 2, cells := 0, slots := 0, locals := 34 } : Room)) (fun a U => a = #[(.long q1), (.int q2)] ∧ Z.Warmed39 U.vm ∧ U.heap = h0) (fun _ _ _ _ _ => True) (fun _ U o U' => ∃ v L, o = .returned v ∧ Q11 Z q1 q2 h0 n0 v U'.heap L ∧ FrameEnd U o U' L ({ frames := 2, cells := 0, slots := 0, locals := 34 } : Room).cells ({ frames := 2, cells := 0, slots := 0, locals := 34 } : Room).slots) := by
  refine MetFree.of_bodySF (Jvm.Free.JP.mathPlain rfl (by decide +kernel)) hisR ?_
  intro p e s m args below meth c s₁ Bd hml0 hP hK
  obtain ⟨rfl, hZ, hh⟩ := hP
  have e0 : s₁.heap = h0 := by rw [← hh, Bd.state]; rfl
  rw [ef_11 m q1 q2]
  exact b11 q1 q2 ⟨Bd.exec, hZ, hw, Bd.bytes, hml0, findClass_of_methodNamed Bd.named, Bd.returns, Bd.notSynchronized, (name_of_methodNamed Bd.named Bd.method).1⟩ (Stand.of_body Bd) e0 Z0 (Fr.nil n0) h1 h2 h3 h4 h5
def Q14 (Z : State) (q1 : Int64) (q2 : Int64) (h0 : Heap) (n0 : Nat) (v : Option Value) (h : Heap) (L : List Loc) : Prop := v = some (.long (q1 + q2)) ∧ Fr n0 L ∧ h = h0
theorem d14_0 : decode jdk_29_method_25_code 0 = .ok (.lload_n 0, 1) := by decide +kernel
theorem d14_1 : decode jdk_29_method_25_code 1 = .ok (.lload_n 2, 1) := by decide +kernel
theorem d14_2 : decode jdk_29_method_25_code 2 = .ok (.ladd, 1) := by decide +kernel
theorem d14_3 : decode jdk_29_method_25_code 3 = .ok (.lstore 4, 2) := by decide +kernel
theorem d14_5 : decode jdk_29_method_25_code 5 = .ok (.lload_n 0, 1) := by decide +kernel
theorem d14_6 : decode jdk_29_method_25_code 6 = .ok (.lload 4, 2) := by decide +kernel
theorem d14_8 : decode jdk_29_method_25_code 8 = .ok (.lxor, 1) := by decide +kernel
theorem d14_9 : decode jdk_29_method_25_code 9 = .ok (.lload_n 2, 1) := by decide +kernel
theorem d14_10 : decode jdk_29_method_25_code 10 = .ok (.lload 4, 2) := by decide +kernel
theorem d14_12 : decode jdk_29_method_25_code 12 = .ok (.lxor, 1) := by decide +kernel
theorem d14_13 : decode jdk_29_method_25_code 13 = .ok (.land, 1) := by decide +kernel
theorem d14_14 : decode jdk_29_method_25_code 14 = .ok (.lconst 0, 1) := by decide +kernel
theorem d14_15 : decode jdk_29_method_25_code 15 = .ok (.lcmp, 1) := by decide +kernel
theorem d14_16 : decode jdk_29_method_25_code 16 = .ok (.ifCond .ge 13, 3) := by decide +kernel
theorem d14_29 : decode jdk_29_method_25_code 29 = .ok (.lload 4, 2) := by decide +kernel
theorem d14_31 : decode jdk_29_method_25_code 31 = .ok (.lreturn, 1) := by decide +kernel
set_option maxRecDepth 65536 in
set_option maxHeartbeats 40000000 in
theorem b14 {p : Program} {l : Launch} {e : Env} {s : State} {m : MethodId} {args : Array Value} {below : List Frame} {meth : Method} {c : Code} {T0 : State} {locs : List Loc} {Z : State} {a0 : Array Value} {h0 : Heap} {n0 : Nat} (q1 : Int64) (q2 : Int64)
    (C : own_C p s m meth c Z a0 jdk_29_method_25_code 6 "java/lang/Math" (some .long) "addExact") (X0 : Stand p l e ({ frames := 0, cells := 0, slots := 0, locals := 0 } : Room) s m args below meth c T0 locs 0 0) (e0 : T0.heap = h0) (Z0 : n0 ≤ h0.size) (N0 : Fr n0 locs) (hs : ¬ ((q1 ^^^ (q1 + q2)) &&& (q2 ^^^ (q1 + q2))) < (0 : Int64)) :
    own_Go p.tables e below (T0.setTop (mkF m 0 #[.val (.long q1), .second, .val (.long q2), .second, .unset, .unset] [])) (own_K s (fun (v : Option Value) (h : Heap) (L : List Loc) => Q14 Z q1 q2 h0 n0 v h L) ({ frames := 0, cells := 0, slots := 0, locals := 0 } : Room).cells ({ frames := 0, cells := 0, slots := 0, locals := 0 } : Room).slots) := by
  obtain ⟨hx, hZ, hw, hby, hml, hown, hret, hlk, hnm⟩ := C
  refine own_via (G := T0.setTop (mkF m 1 #[.val (.long q1), .second, .val (.long q2), .second, .unset, .unset] [(.long q1)])) (fun t k => XT.lloadN X0.here hx rfl (hb hby d14_0) rfl k) ?_
  refine own_via (G := T0.setTop (mkF m 2 #[.val (.long q1), .second, .val (.long q2), .second, .unset, .unset] [(.long q2), (.long q1)])) (fun t k => XT.lloadN X0.here hx rfl (hb hby d14_1) rfl k) ?_
  refine own_via (G := T0.setTop (mkF m 3 #[.val (.long q1), .second, .val (.long q2), .second, .unset, .unset] [(.long (q1 + q2))])) (fun t k => XT.ladd X0.here hx rfl (hb hby d14_2) rfl k) ?_
  refine own_via (G := T0.setTop (mkF m 5 #[.val (.long q1), .second, .val (.long q2), .second, .val (.long (q1 + q2)), .second] [])) (fun t k => XT.lstore X0.here hx rfl (hb hby d14_3) rfl (l' := #[.val (.long q1), .second, .val (.long q2), .second, .val (.long (q1 + q2)), .second]) rfl k) ?_
  refine own_via (G := T0.setTop (mkF m 6 #[.val (.long q1), .second, .val (.long q2), .second, .val (.long (q1 + q2)), .second] [(.long q1)])) (fun t k => XT.lloadN X0.here hx rfl (hb hby d14_5) rfl k) ?_
  refine own_via (G := T0.setTop (mkF m 8 #[.val (.long q1), .second, .val (.long q2), .second, .val (.long (q1 + q2)), .second] [(.long (q1 + q2)), (.long q1)])) (fun t k => XT.lload X0.here hx rfl (hb hby d14_6) rfl k) ?_
  refine own_via (G := T0.setTop (mkF m 9 #[.val (.long q1), .second, .val (.long q2), .second, .val (.long (q1 + q2)), .second] [(.long (q1 ^^^ (q1 + q2)))])) (fun t k => XT.lxor X0.here hx rfl (hb hby d14_8) rfl k) ?_
  refine own_via (G := T0.setTop (mkF m 10 #[.val (.long q1), .second, .val (.long q2), .second, .val (.long (q1 + q2)), .second] [(.long q2), (.long (q1 ^^^ (q1 + q2)))])) (fun t k => XT.lloadN X0.here hx rfl (hb hby d14_9) rfl k) ?_
  refine own_via (G := T0.setTop (mkF m 12 #[.val (.long q1), .second, .val (.long q2), .second, .val (.long (q1 + q2)), .second] [(.long (q1 + q2)), (.long q2), (.long (q1 ^^^ (q1 + q2)))])) (fun t k => XT.lload X0.here hx rfl (hb hby d14_10) rfl k) ?_
  refine own_via (G := T0.setTop (mkF m 13 #[.val (.long q1), .second, .val (.long q2), .second, .val (.long (q1 + q2)), .second] [(.long (q2 ^^^ (q1 + q2))), (.long (q1 ^^^ (q1 + q2)))])) (fun t k => XT.lxor X0.here hx rfl (hb hby d14_12) rfl k) ?_
  refine own_via (G := T0.setTop (mkF m 14 #[.val (.long q1), .second, .val (.long q2), .second, .val (.long (q1 + q2)), .second] [(.long ((q1 ^^^ (q1 + q2)) &&& (q2 ^^^ (q1 + q2))))])) (fun t k => XT.land X0.here hx rfl (hb hby d14_13) rfl k) ?_
  refine own_via (G := T0.setTop (mkF m 15 #[.val (.long q1), .second, .val (.long q2), .second, .val (.long (q1 + q2)), .second] [(.long (0 : Int64)), (.long ((q1 ^^^ (q1 + q2)) &&& (q2 ^^^ (q1 + q2))))])) (fun t k => XT.lconst X0.here hx rfl (hb hby d14_14) k) ?_
  refine own_via (G := T0.setTop (mkF m 16 #[.val (.long q1), .second, .val (.long q2), .second, .val (.long (q1 + q2)), .second] [(.int (XT.cmpL ((q1 ^^^ (q1 + q2)) &&& (q2 ^^^ (q1 + q2))) (0 : Int64)))])) (fun t k => XT.lcmp X0.here hx rfl (hb hby d14_15) rfl k) ?_
  have hc1_16 : ¬ (((q1 ^^^ (q1 + q2)) &&& (q2 ^^^ (q1 + q2))) < (0 : Int64)) := hs
  refine own_via (G := T0.setTop (mkF m 29 #[.val (.long q1), .second, .val (.long q2), .second, .val (.long (q1 + q2)), .second] [])) (fun t k => XS.ifYes X0.here hx rfl (pc0 := 16) (pc' := 29) rfl (hb hby d14_16) rfl (XT.ll_ge_t hc1_16) (by decide) (by decide) k) ?_
  refine own_via (G := T0.setTop (mkF m 31 #[.val (.long q1), .second, .val (.long q2), .second, .val (.long (q1 + q2)), .second] [(.long (q1 + q2))])) (fun t k => XT.lload X0.here hx rfl (hb hby d14_29) rfl k) ?_
  exact own_fin X0 e0 (v := some (.long (q1 + q2))) (fun h => by rw [hret] at h; cases h) hlk (fun fs hr => X0.lreturnOut hx hret (hb hby d14_31) hr) (show ((fun (v : Option Value) (h : Heap) (L : List Loc) => Q14 Z q1 q2 h0 n0 v h L)) (some (.long (q1 + q2))) h0 _ from ⟨rfl, N0, rfl⟩) (by decide) (by decide)
theorem ef_14 (m : MethodId) (q1 : Int64) (q2 : Int64) : entryFrame m #[(.long q1), (.long q2)] 6 = mkF m 0 #[.val (.long q1), .second, .val (.long q2), .second, .unset, .unset] [] := by first | (simp [entryFrame, mkF, argsToLocals, Value.category, maxLocals]; done) | rfl
set_option maxRecDepth 65536 in
set_option maxHeartbeats 40000000 in
theorem rm14 (l : Launch) (Z : State) (a0 : Array Value) (hw : ∀ d ∈ tables_1, d.before a0 Z = true) (ws : List Jvm.Cond) (q1 : Int64) (q2 : Int64) (h0 : Heap) (n0 : Nat) (Z0 : n0 ≤ h0.size) (hs : ¬ ((q1 ^^^ (q1 + q2)) &&& (q2 ^^^ (q1 + q2))) < (0 : Int64)) :
    MetFree l (⟨"java/lang/Math", "addExact", "(JJ)J"⟩ : MethodName) (head1 (Jvm.Cond.code (⟨"java/lang/Math", "addExact", "(JJ)J"⟩ : MethodName) jdk_29_method_25_code 6 (some .long) :: ws) ({ frames := 0, cells := 0, slots := 0, locals := 0 } : Room)) (fun a U => a = #[(.long q1), (.long q2)] ∧ Z.Warmed39 U.vm ∧ U.heap = h0) (fun _ _ _ _ _ => True) (fun _ U o U' => ∃ v L, o = .returned v ∧ Q14 Z q1 q2 h0 n0 v U'.heap L ∧ FrameEnd U o U' L ({ frames := 0, cells := 0, slots := 0, locals := 0 } : Room).cells ({ frames := 0, cells := 0, slots := 0, locals := 0 } : Room).slots) := by
  refine MetFree.of_bodySF (Jvm.Free.JP.mathPlain rfl (by decide +kernel)) hisR ?_
  intro p e s m args below meth c s₁ Bd hml0 hP hK
  obtain ⟨rfl, hZ, hh⟩ := hP
  have e0 : s₁.heap = h0 := by rw [← hh, Bd.state]; rfl
  rw [ef_14 m q1 q2]
  exact b14 q1 q2 ⟨Bd.exec, hZ, hw, Bd.bytes, hml0, findClass_of_methodNamed Bd.named, Bd.returns, Bd.notSynchronized, (name_of_methodNamed Bd.named Bd.method).1⟩ (Stand.of_body Bd) e0 Z0 (Fr.nil n0) hs
def Q10 (Z : State) (o1 : Addr) (u1 : Int64) (u2 : Int32) (h0 : Heap) (n0 : Nat) (v : Option Value) (h : Heap) (L : List Loc) : Prop := v = some (.long ((u1 * ((1000 : Int32).toInt64)) + ((u2 / (1000000 : Int32)).toInt64))) ∧ Fr n0 L ∧ h = h0
theorem d10_0 : decode jdk_2320_method_40_code 0 = .ok (.aload_n 0, 1) := by decide +kernel
theorem d10_1 : decode jdk_2320_method_40_code 1 = .ok (.getfield 140, 3) := by decide +kernel
theorem d10_4 : decode jdk_2320_method_40_code 4 = .ok (.lconst 0, 1) := by decide +kernel
theorem d10_5 : decode jdk_2320_method_40_code 5 = .ok (.lcmp, 1) := by decide +kernel
theorem d10_6 : decode jdk_2320_method_40_code 6 = .ok (.ifCond .ge 42, 3) := by decide +kernel
theorem d10_48 : decode jdk_2320_method_40_code 48 = .ok (.aload_n 0, 1) := by decide +kernel
theorem d10_49 : decode jdk_2320_method_40_code 49 = .ok (.getfield 140, 3) := by decide +kernel
theorem d10_52 : decode jdk_2320_method_40_code 52 = .ok (.sipush 1000, 3) := by decide +kernel
theorem d10_55 : decode jdk_2320_method_40_code 55 = .ok (.invokestatic 270, 3) := by decide +kernel
theorem d10_58 : decode jdk_2320_method_40_code 58 = .ok (.lstore_n 1, 1) := by decide +kernel
theorem d10_59 : decode jdk_2320_method_40_code 59 = .ok (.lload_n 1, 1) := by decide +kernel
theorem d10_60 : decode jdk_2320_method_40_code 60 = .ok (.aload_n 0, 1) := by decide +kernel
theorem d10_61 : decode jdk_2320_method_40_code 61 = .ok (.getfield 144, 3) := by decide +kernel
theorem d10_64 : decode jdk_2320_method_40_code 64 = .ok (.ldc 46, 2) := by decide +kernel
theorem d10_66 : decode jdk_2320_method_40_code 66 = .ok (.idiv, 1) := by decide +kernel
theorem d10_67 : decode jdk_2320_method_40_code 67 = .ok (.i2l, 1) := by decide +kernel
theorem d10_68 : decode jdk_2320_method_40_code 68 = .ok (.invokestatic 34, 3) := by decide +kernel
theorem d10_71 : decode jdk_2320_method_40_code 71 = .ok (.lreturn, 1) := by decide +kernel
set_option maxRecDepth 65536 in
set_option maxHeartbeats 40000000 in
theorem b10 {p : Program} {l : Launch} {e : Env} {s : State} {m : MethodId} {args : Array Value} {below : List Frame} {meth : Method} {c : Code} {T0 : State} {locs : List Loc} {Z : State} {a0 : Array Value} {h0 : Heap} {n0 : Nat} (o1 : Addr) (u1 : Int64) (u2 : Int32)
    (C : own_C p s m meth c Z a0 jdk_2320_method_40_code 5 "java/time/Instant" (some .long) "toEpochMilli") (X0 : Stand p l e ({ frames := 3, cells := 0, slots := 0, locals := 48 } : Room) s m args below meth c T0 locs 0 0) (e0 : T0.heap = h0) (Z0 : n0 ≤ h0.size) (N0 : Fr n0 locs) (F1 : Fld Z h0 o1 "java/time/Instant" "seconds" "J" (.long u1)) (F2 : Fld Z h0 o1 "java/time/Instant" "nanos" "I" (.int u2)) (hr : own_two u1 u2) :
    own_Go p.tables e below (T0.setTop (mkF m 0 #[.val (.ref o1), .unset, .unset, .unset, .unset] [])) (own_K s (fun (v : Option Value) (h : Heap) (L : List Loc) => Q10 Z o1 u1 u2 h0 n0 v h L) ({ frames := 3, cells := 0, slots := 0, locals := 48 } : Room).cells ({ frames := 3, cells := 0, slots := 0, locals := 48 } : Room).slots) := by
  obtain ⟨hx, hZ, hw, hby, hml, hown, hret, hlk, hnm⟩ := C
  refine own_via (G := T0.setTop (mkF m 1 #[.val (.ref o1), .unset, .unset, .unset, .unset] [(.ref o1)])) (fun t k => XS.aloadN X0.here hx rfl (hb hby d10_0) rfl rfl k) ?_
  obtain ⟨T1, X1, e1, st1⟩ := getF X0 hx hZ hown (host := "") (Or.inl (hw _ (List.mem_of_getElem? (i := 39) rfl))) Via.refl e0 F1 (g := (mkF m 1 #[.val (.ref o1), .unset, .unset, .unset, .unset] [(.ref o1)])) rfl rfl (hb hby d10_1)
  refine own_via (G := T1.setTop (mkF m 4 #[.val (.ref o1), .unset, .unset, .unset, .unset] [(.long u1)])) (fun t k => st1 t k) ?_
  refine own_via (G := T1.setTop (mkF m 5 #[.val (.ref o1), .unset, .unset, .unset, .unset] [(.long (0 : Int64)), (.long u1)])) (fun t k => XT.lconst X1.here hx rfl (hb hby d10_4) k) ?_
  refine own_via (G := T1.setTop (mkF m 6 #[.val (.ref o1), .unset, .unset, .unset, .unset] [(.int (XT.cmpL u1 (0 : Int64)))])) (fun t k => XT.lcmp X1.here hx rfl (hb hby d10_5) rfl k) ?_
  have hc2_6 : ¬ (u1 < (0 : Int64)) := hr.1
  refine own_via (G := T1.setTop (mkF m 48 #[.val (.ref o1), .unset, .unset, .unset, .unset] [])) (fun t k => XS.ifYes X1.here hx rfl (pc0 := 6) (pc' := 48) rfl (hb hby d10_6) rfl (XT.ll_ge_t hc2_6) (by decide) (by decide) k) ?_
  refine own_via (G := T1.setTop (mkF m 49 #[.val (.ref o1), .unset, .unset, .unset, .unset] [(.ref o1)])) (fun t k => XS.aloadN X1.here hx rfl (hb hby d10_48) rfl rfl k) ?_
  obtain ⟨T3, X3, e3, st3⟩ := getF X1 hx hZ hown (host := "") (Or.inl (hw _ (List.mem_of_getElem? (i := 39) rfl))) Via.refl e1 F1 (g := (mkF m 49 #[.val (.ref o1), .unset, .unset, .unset, .unset] [(.ref o1)])) rfl rfl (hb hby d10_49)
  refine own_via (G := T3.setTop (mkF m 52 #[.val (.ref o1), .unset, .unset, .unset, .unset] [(.long u1)])) (fun t k => st3 t k) ?_
  refine own_via (G := T3.setTop (mkF m 55 #[.val (.ref o1), .unset, .unset, .unset, .unset] [(.int (1000 : Int32)), (.long u1)])) (fun t k => XS.sipush X3.here hx rfl (hb hby d10_52) k) ?_
  obtain ⟨_, _, ⟨T4, L4, k4, n4⟩, -, X4, ⟨Lc4, hQ4, l4, y4, z4⟩, st4⟩ := Jvm.LawKit.callS X3 hx (y := (⟨"java/lang/Math", "multiplyExact", "(JI)J"⟩ : MethodName)) hown (mvT hZ (hw _ (List.mem_of_getElem? (i := 49) rfl))) (mvT hZ (hw _ (List.mem_of_getElem? (i := 50) rfl))) (mvT hZ (hw _ (List.mem_of_getElem? (i := 13) rfl))) (mvT hZ (hw _ (List.mem_of_getElem? (i := 51) rfl))) (by decide) (backOf (W := 0) (rm11 l Z a0 hw [] u1 (1000 : Int32) h0 n0 Z0 hr.1 (by decide) (by decide) hr.2.1 hr.2.2.1) hZ (hw _ (List.mem_of_getElem? (i := 51) rfl)) (hw _ (List.mem_of_getElem? (i := 13) rfl)) (by decide) (by decide)) (g := (mkF m 55 #[.val (.ref o1), .unset, .unset, .unset, .unset] [(.int (1000 : Int32)), (.long u1)])) rfl (by rw [hml]; rfl) (argsL := [(.long u1), (.int (1000 : Int32))]) (rest := []) (lenOf pd_2 rfl) rfl (by show 2 * 0 + _ ≤ _; exact Nat.le_of_eq rfl) (hb hby d10_55) (fun _ _ => ⟨rfl, e3, (by decide : 0 + 0 ≤ _), (by decide : 0 + 0 ≤ _)⟩)
  dsimp only [Pt.U, Pt.locs, Pt.cells, Pt.slots] at X4 l4 y4 z4 st4 hQ4
  subst l4 y4 z4
  obtain ⟨rfl, Nq4, eh4⟩ := hQ4
  have N4 := Fr.app N0 Nq4
  refine own_via (G := T4.setTop (mkF m 58 #[.val (.ref o1), .unset, .unset, .unset, .unset] [(.long (u1 * ((1000 : Int32).toInt64)))])) (fun t k => st4 t k) ?_
  refine own_via (G := T4.setTop (mkF m 59 #[.val (.ref o1), .val (.long (u1 * ((1000 : Int32).toInt64))), .second, .unset, .unset] [])) (fun t k => XT.lstoreN X4.here hx rfl (hb hby d10_58) rfl (l' := #[.val (.ref o1), .val (.long (u1 * ((1000 : Int32).toInt64))), .second, .unset, .unset]) rfl k) ?_
  refine own_via (G := T4.setTop (mkF m 60 #[.val (.ref o1), .val (.long (u1 * ((1000 : Int32).toInt64))), .second, .unset, .unset] [(.long (u1 * ((1000 : Int32).toInt64)))])) (fun t k => XT.lloadN X4.here hx rfl (hb hby d10_59) rfl k) ?_
  refine own_via (G := T4.setTop (mkF m 61 #[.val (.ref o1), .val (.long (u1 * ((1000 : Int32).toInt64))), .second, .unset, .unset] [(.ref o1), (.long (u1 * ((1000 : Int32).toInt64)))])) (fun t k => XS.aloadN X4.here hx rfl (hb hby d10_60) rfl rfl k) ?_
  obtain ⟨T5, X5, e5, st5⟩ := getF X4 hx hZ hown (host := "") (Or.inl (hw _ (List.mem_of_getElem? (i := 41) rfl))) Via.refl eh4 F2 (g := (mkF m 61 #[.val (.ref o1), .val (.long (u1 * ((1000 : Int32).toInt64))), .second, .unset, .unset] [(.ref o1), (.long (u1 * ((1000 : Int32).toInt64)))])) rfl rfl (hb hby d10_61)
  refine own_via (G := T5.setTop (mkF m 64 #[.val (.ref o1), .val (.long (u1 * ((1000 : Int32).toInt64))), .second, .unset, .unset] [(.int u2), (.long (u1 * ((1000 : Int32).toInt64)))])) (fun t k => st5 t k) ?_
  refine own_via (G := T5.setTop (mkF m 66 #[.val (.ref o1), .val (.long (u1 * ((1000 : Int32).toInt64))), .second, .unset, .unset] [(.int (1000000 : Int32)), (.int u2), (.long (u1 * ((1000 : Int32).toInt64)))])) (fun t k => X5.ldcI hx hown (mvT hZ (hw _ (List.mem_of_getElem? (i := 24) rfl))) (g := (mkF m 64 #[.val (.ref o1), .val (.long (u1 * ((1000 : Int32).toInt64))), .second, .unset, .unset] [(.int u2), (.long (u1 * ((1000 : Int32).toInt64)))])) rfl (hb hby d10_64) k) ?_
  refine own_via (G := T5.setTop (mkF m 67 #[.val (.ref o1), .val (.long (u1 * ((1000 : Int32).toInt64))), .second, .unset, .unset] [(.int (u2 / (1000000 : Int32))), (.long (u1 * ((1000 : Int32).toInt64)))])) (fun t k => XS.idiv X5.here hx rfl (hb hby d10_66) rfl (by decide) k) ?_
  refine own_via (G := T5.setTop (mkF m 68 #[.val (.ref o1), .val (.long (u1 * ((1000 : Int32).toInt64))), .second, .unset, .unset] [(.long ((u2 / (1000000 : Int32)).toInt64)), (.long (u1 * ((1000 : Int32).toInt64)))])) (fun t k => XT.i2l X5.here hx rfl (hb hby d10_67) rfl k) ?_
  obtain ⟨_, _, ⟨T6, L6, k6, n6⟩, -, X6, ⟨Lc6, hQ6, l6, y6, z6⟩, st6⟩ := Jvm.LawKit.callS X5 hx (y := (⟨"java/lang/Math", "addExact", "(JJ)J"⟩ : MethodName)) hown (mvT hZ (hw _ (List.mem_of_getElem? (i := 58) rfl))) (mvT hZ (hw _ (List.mem_of_getElem? (i := 59) rfl))) (mvT hZ (hw _ (List.mem_of_getElem? (i := 13) rfl))) (mvT hZ (hw _ (List.mem_of_getElem? (i := 60) rfl))) (by decide) (backOf (W := 0) (rm14 l Z a0 hw [] (u1 * ((1000 : Int32).toInt64)) ((u2 / (1000000 : Int32)).toInt64) h0 n0 Z0 hr.2.2.2) hZ (hw _ (List.mem_of_getElem? (i := 60) rfl)) (hw _ (List.mem_of_getElem? (i := 13) rfl)) (by decide) (by decide)) (g := (mkF m 68 #[.val (.ref o1), .val (.long (u1 * ((1000 : Int32).toInt64))), .second, .unset, .unset] [(.long ((u2 / (1000000 : Int32)).toInt64)), (.long (u1 * ((1000 : Int32).toInt64)))])) rfl (by rw [hml]; rfl) (argsL := [(.long (u1 * ((1000 : Int32).toInt64))), (.long ((u2 / (1000000 : Int32)).toInt64))]) (rest := []) (lenOf pd_0 rfl) rfl (by show 2 * 0 + _ ≤ _; exact Nat.le_of_eq rfl) (hb hby d10_68) (fun _ _ => ⟨rfl, e5, (by decide : (0 + 0) + 0 ≤ _), (by decide : (0 + 0) + 0 ≤ _)⟩)
  dsimp only [Pt.U, Pt.locs, Pt.cells, Pt.slots] at X6 l6 y6 z6 st6 hQ6
  subst l6 y6 z6
  obtain ⟨rfl, Nq6, eh6⟩ := hQ6
  have N6 := Fr.app N4 Nq6
  refine own_via (G := T6.setTop (mkF m 71 #[.val (.ref o1), .val (.long (u1 * ((1000 : Int32).toInt64))), .second, .unset, .unset] [(.long ((u1 * ((1000 : Int32).toInt64)) + ((u2 / (1000000 : Int32)).toInt64)))])) (fun t k => st6 t k) ?_
  exact own_fin X6 eh6 (v := some (.long ((u1 * ((1000 : Int32).toInt64)) + ((u2 / (1000000 : Int32)).toInt64)))) (fun h => by rw [hret] at h; cases h) hlk (fun fs hr => X6.lreturnOut hx hret (hb hby d10_71) hr) (show ((fun (v : Option Value) (h : Heap) (L : List Loc) => Q10 Z o1 u1 u2 h0 n0 v h L)) (some (.long ((u1 * ((1000 : Int32).toInt64)) + ((u2 / (1000000 : Int32)).toInt64)))) h0 _ from ⟨rfl, N6, rfl⟩) (by decide) (by decide)
theorem ef_10 (m : MethodId) (o1 : Addr) : entryFrame m #[(.ref o1)] 5 = mkF m 0 #[.val (.ref o1), .unset, .unset, .unset, .unset] [] := by first | (simp [entryFrame, mkF, argsToLocals, Value.category, maxLocals]; done) | rfl
set_option maxRecDepth 65536 in
set_option maxHeartbeats 40000000 in
theorem rm10 (l : Launch) (Z : State) (a0 : Array Value) (hw : ∀ d ∈ tables_1, d.before a0 Z = true) (ws : List Jvm.Cond) (o1 : Addr) (u1 : Int64) (u2 : Int32) (h0 : Heap) (n0 : Nat) (Z0 : n0 ≤ h0.size) (F1 : Fld Z h0 o1 "java/time/Instant" "seconds" "J" (.long u1)) (F2 : Fld Z h0 o1 "java/time/Instant" "nanos" "I" (.int u2)) (hr : own_two u1 u2) :
    MetFree l (⟨"java/time/Instant", "toEpochMilli", "()J"⟩ : MethodName) (head1 (Jvm.Cond.code (⟨"java/time/Instant", "toEpochMilli", "()J"⟩ : MethodName) jdk_2320_method_40_code 5 (some .long) :: ws) ({ frames := 3, cells := 0, slots := 0, locals := 48 } : Room)) (fun a U => a = #[(.ref o1)] ∧ Z.Warmed39 U.vm ∧ U.heap = h0) (fun _ _ _ _ _ => True) (fun _ U o U' => ∃ v L, o = .returned v ∧ Q10 Z o1 u1 u2 h0 n0 v U'.heap L ∧ FrameEnd U o U' L ({ frames := 3, cells := 0, slots := 0, locals := 48 } : Room).cells ({ frames := 3, cells := 0, slots := 0, locals := 48 } : Room).slots) := by
  refine MetFree.of_bodySF (plainFor_of_name pn_0) hisR ?_
  intro p e s m args below meth c s₁ Bd hml0 hP hK
  obtain ⟨rfl, hZ, hh⟩ := hP
  have e0 : s₁.heap = h0 := by rw [← hh, Bd.state]; rfl
  rw [ef_10 m o1]
  exact b10 o1 u1 u2 ⟨Bd.exec, hZ, hw, Bd.bytes, hml0, findClass_of_methodNamed Bd.named, Bd.returns, Bd.notSynchronized, (name_of_methodNamed Bd.named Bd.method).1⟩ (Stand.of_body Bd) e0 Z0 (Fr.nil n0) F1 F2 hr
theorem own_sec {q : Int64} (h : own_rng q) : ((q / ((1000 : Int32).toInt64)) * ((1000 : Int32).toInt64)).toInt = q.toInt / 1000 * 1000 := by
  have e := own_dv h; have := h.1; have := h.2
  rw [Jvm.Kit.i64_mul (by rw [own_k3]; omega) (by rw [own_k3]; omega), e, own_k3]
theorem own_nd {q : Int64} (h : own_rng q) : (((((q - q / ((1000 : Int32).toInt64) * ((1000 : Int32).toInt64)).toInt32) * (1000000 : Int32)) / (1000000 : Int32)).toInt64).toInt = q.toInt % 1000 := by
  have e := own_na h
  have k : (1000000 : Int32).toInt = 1000000 := rfl
  rw [Jvm.Kit.i64_of_i32, Jvm.Kit.i32_div (by rw [k]; omega), e, k, Int.tdiv_eq_ediv_of_nonneg (by omega)]
  omega
theorem own_sum {q : Int64} (h : own_rng q) : ((q / ((1000 : Int32).toInt64)) * ((1000 : Int32).toInt64)) + (((((q - q / ((1000 : Int32).toInt64) * ((1000 : Int32).toInt64)).toInt32) * (1000000 : Int32)) / (1000000 : Int32)).toInt64) = q := by
  have e1 := own_sec h; have e2 := own_nd h; have := h.1; have := h.2
  apply Int64.toInt_inj.mp
  rw [Jvm.Kit.i64_add (by omega) (by omega), e1, e2]; omega
theorem own_tw {q : Int64} (h : own_rng q) : own_two (q / ((1000 : Int32).toInt64)) (((q - q / ((1000 : Int32).toInt64) * ((1000 : Int32).toInt64)).toInt32) * (1000000 : Int32)) := by
  have e := own_dv h; have e1 := own_sec h; have e2 := own_nd h; have h1 := h.1; have h2 := h.2
  refine ⟨own_pos_nn (by omega), ?_, ?_, ?_⟩
  · apply Int64.toInt_inj.mp
    rw [Jvm.Kit.i64_div (by rw [own_k3]; omega), own_k3, e1, e, Int.tdiv_eq_ediv_of_nonneg (by omega)]; omega
  · intro z
    have k : (-9223372036854775808 : Int64).toInt = -9223372036854775808 := by decide
    have := congrArg Int64.toInt z
    rw [e, k] at this; omega
  · rw [own_sum h]
    exact own_ann (own_xnn (own_pos_nn (by omega)) (own_pos_nn (by omega)))
def own_id (it : Int64) (iw : Int32) : Int64 := ((it &&& (2199023255551 : Int64)) <<< ((22 : Int32).toInt64 &&& 63)) ||| ((iw &&& (4194303 : Int32)).toInt64)
theorem own_tb (it : Int64) : 0 ≤ (it &&& (2199023255551 : Int64)).toInt ∧ (it &&& (2199023255551 : Int64)).toInt < 2 ^ 41 := by
  have e : (it &&& (2199023255551 : Int64)).toInt = it.toInt % 2 ^ 41 := Jvm.Kit.i64_mask it _ (k := 41) (by decide) (by decide)
  omega
theorem own_lb (iw : Int32) : 0 ≤ ((iw &&& (4194303 : Int32)).toInt64).toInt ∧ ((iw &&& (4194303 : Int32)).toInt64).toInt < 2 ^ 22 := by
  have e : (iw &&& (4194303 : Int32)).toInt = iw.toInt % 2 ^ 22 := Jvm.Kit.i32_mask iw _ (k := 22) (by decide) (by decide)
  rw [Jvm.Kit.i64_of_i32]; omega
theorem own_or {x y : Int64} (hx : 0 ≤ x.toInt ∧ x.toInt < 2 ^ 41) (hy : 0 ≤ y.toInt ∧ y.toInt < 2 ^ 22) : ((x <<< ((22 : Int32).toInt64 &&& 63)) ||| y).toInt = x.toInt * 2 ^ 22 + y.toInt := by
  have e1 : (x <<< ((22 : Int32).toInt64 &&& 63)).toInt = x.toInt * 2 ^ 22 := Jvm.Kit.i64_shl x _ (k := 22) (by decide) (by omega) (by omega)
  generalize hz : x <<< ((22 : Int32).toInt64 &&& 63) = z at e1 ⊢
  have toN : ∀ w : Int64, 0 ≤ w.toInt → w.toInt = (w.toBitVec.toNat : Int) := by
    intro w hw
    have e : w.toInt = w.toBitVec.toInt := rfl
    rw [e] at hw ⊢
    rw [BitVec.toInt_eq_toNat_cond] at hw ⊢
    have := w.toBitVec.isLt
    split at hw
    · rename_i q; rw [if_pos q]
    · omega
  have nz := toN z (by omega); have ny := toN y hy.1; have nx := toN x hx.1
  have hzn : z.toBitVec.toNat = x.toBitVec.toNat <<< 22 := by rw [Nat.shiftLeft_eq]; omega
  have hor : (z ||| y).toBitVec.toNat = x.toBitVec.toNat <<< 22 + y.toBitVec.toNat := by
    rw [Int64.toBitVec_or, BitVec.toNat_or, hzn]
    exact (Nat.shiftLeft_add_eq_or_of_lt (by omega) _).symm
  have hge : 0 ≤ (z ||| y).toInt := by
    have a : ¬ z < (0 : Int64) := own_pos_nn (by omega)
    have b : ¬ y < (0 : Int64) := own_pos_nn hy.1
    have c : ¬ (z ||| y) < (0 : Int64) := by
      rw [own_nn] at a b ⊢
      rw [Int64.toBitVec_or, BitVec.msb_or, a, b]; rfl
    rw [Int64.lt_iff_toInt_lt] at c
    have k : (0 : Int64).toInt = 0 := rfl
    omega
  have := toN _ hge
  rw [this, hor, Nat.shiftLeft_eq]; omega
theorem own_idv (it : Int64) (iw : Int32) : (own_id it iw).toInt = (it &&& (2199023255551 : Int64)).toInt * 2 ^ 22 + ((iw &&& (4194303 : Int32)).toInt64).toInt := own_or (own_tb it) (own_lb iw)
theorem own_back (it : Int64) (iw : Int32) : (own_id it iw) >>> ((22 : Int32).toInt64 &&& 63) = (it &&& (2199023255551 : Int64)) := by
  have a := own_tb it; have b := own_lb iw
  apply Int64.toInt_inj.mp
  rw [Jvm.Kit.i64_shr _ _ (k := 22) (by decide), own_idv]; omega
theorem own_pos {it : Int64} {iw : Int32} (h : ¬ own_id it iw = (0 : Int64)) : (0 : Int64) < own_id it iw := by
  have a := own_tb it; have b := own_lb iw; have e := own_idv it iw
  have : ¬ (own_id it iw).toInt = 0 := fun q => h (Int64.toInt_inj.mp q)
  rw [Int64.lt_iff_toInt_lt]; have k : (0 : Int64).toInt = 0 := rfl; omega
theorem own_ms (it : Int64) : ((it &&& (2199023255551 : Int64)) + (1288834974657 : Int64)).toInt = (it &&& (2199023255551 : Int64)).toInt + 1288834974657 := by
  have a := own_tb it
  have k : (1288834974657 : Int64).toInt = 1288834974657 := by decide
  rw [Jvm.Kit.i64_add (by omega) (by omega), k]
theorem own_r1 (it : Int64) (iw : Int32) : own_rng (((own_id it iw) >>> ((22 : Int32).toInt64 &&& 63)) + (1288834974657 : Int64)) := by
  rw [own_back]
  have a := own_tb it; have e := own_ms it
  unfold own_rng
  omega
theorem own_zero {it : Int64} {iw : Int32} (h : own_id it iw = (0 : Int64)) : (it &&& (2199023255551 : Int64)) = 0 := by
  have a := own_tb it; have b := own_lb iw; have e := own_idv it iw
  rw [h] at e
  have k : (0 : Int64).toInt = 0 := rfl
  apply Int64.toInt_inj.mp
  omega
theorem own_r0 {it : Int64} {iw : Int32} (h : own_id it iw = (0 : Int64)) : own_rng (((1 : Int64) >>> ((22 : Int32).toInt64 &&& 63)) + (1288834974657 : Int64)) := by
  unfold own_rng; decide
theorem own_end1 (it : Int64) (iw : Int32) : (((((own_id it iw) >>> ((22 : Int32).toInt64 &&& 63)) + (1288834974657 : Int64)) / ((1000 : Int32).toInt64)) * ((1000 : Int32).toInt64)) + (((((((((own_id it iw) >>> ((22 : Int32).toInt64 &&& 63)) + (1288834974657 : Int64)) - (((own_id it iw) >>> ((22 : Int32).toInt64 &&& 63)) + (1288834974657 : Int64)) / ((1000 : Int32).toInt64) * ((1000 : Int32).toInt64)).toInt32) * (1000000 : Int32)) / (1000000 : Int32)).toInt64)) = (1288834974657 : Int64) + (it &&& (2199023255551 : Int64)) := by
  rw [own_sum (own_r1 it iw), own_back, Int64.add_comm]
theorem own_end0 {it : Int64} {iw : Int32} (h : own_id it iw = (0 : Int64)) : (((((1 : Int64) >>> ((22 : Int32).toInt64 &&& 63)) + (1288834974657 : Int64)) / ((1000 : Int32).toInt64)) * ((1000 : Int32).toInt64)) + (((((((((1 : Int64) >>> ((22 : Int32).toInt64 &&& 63)) + (1288834974657 : Int64)) - (((1 : Int64) >>> ((22 : Int32).toInt64 &&& 63)) + (1288834974657 : Int64)) / ((1000 : Int32).toInt64) * ((1000 : Int32).toInt64)).toInt32) * (1000000 : Int32)) / (1000000 : Int32)).toInt64)) = (1288834974657 : Int64) + (it &&& (2199023255551 : Int64)) := by
  rw [own_sum (own_r0 h), own_zero h]; decide
def Q0 (Z : State) (it : Int64) (iw : Int32) (h0 : Heap) (n0 : Nat) (v : Option Value) (h : Heap) (L : List Loc) : Prop := v = some (.int (1 : Int32)) ∧ Fr n0 L
theorem pd_7 : parseMethodDescriptor "()J" = some ⟨[], some .long⟩ := by decide +kernel
set_option maxRecDepth 65536 in
set_option maxHeartbeats 40000000 in
theorem b0 {p : Program} {l : Launch} {e : Env} {s : State} {m : MethodId} {args : Array Value} {below : List Frame} {meth : Method} {c : Code} {T0 : State} {locs : List Loc} {Z : State} {a0 : Array Value} {h0 : Heap} {n0 : Nat} (it : Int64) (iw : Int32)
    (C : own_C p s m meth c Z a0 code maxLocals "com/example/sift140/sift140/model/TweetIdsCreatedAtPinLaw" ret "law") (X0 : Stand p l e room_1 s m args below meth c T0 locs 0 0) (e0 : T0.heap = h0) (Z0 : n0 ≤ h0.size) (N0 : Fr n0 locs) :
    own_Go p.tables e below (T0.setTop (mkF m 0 #[.val (.long it), .second, .val (.int iw), .unset, .unset, .unset, .unset, .unset, .unset, .unset, .unset, .unset] [])) (own_K s (fun (v : Option Value) (h : Heap) (L : List Loc) => Q0 Z it iw h0 n0 v h L) room_1.cells room_1.slots) := by
  obtain ⟨hx, hZ, hw, hby, hml, hown, hret, hlk, hnm⟩ := C
  refine own_via (G := T0.setTop (mkF m 1 #[.val (.long it), .second, .val (.int iw), .unset, .unset, .unset, .unset, .unset, .unset, .unset, .unset, .unset] [(.long it)])) (fun t k => XT.lloadN X0.here hx rfl (hb hby at_0) rfl k) ?_
  refine own_via (G := T0.setTop (mkF m 4 #[.val (.long it), .second, .val (.int iw), .unset, .unset, .unset, .unset, .unset, .unset, .unset, .unset, .unset] [(.long (2199023255551 : Int64)), (.long it)])) (fun t k => X0.ldc2J hx hown (mvT hZ (hw _ (List.mem_of_getElem? (i := 0) rfl))) (g := (mkF m 1 #[.val (.long it), .second, .val (.int iw), .unset, .unset, .unset, .unset, .unset, .unset, .unset, .unset, .unset] [(.long it)])) rfl (hb hby at_1) k) ?_
  refine own_via (G := T0.setTop (mkF m 5 #[.val (.long it), .second, .val (.int iw), .unset, .unset, .unset, .unset, .unset, .unset, .unset, .unset, .unset] [(.long (it &&& (2199023255551 : Int64)))])) (fun t k => XT.land X0.here hx rfl (hb hby at_4) rfl k) ?_
  refine own_via (G := T0.setTop (mkF m 6 #[.val (.long it), .second, .val (.int iw), .val (.long (it &&& (2199023255551 : Int64))), .second, .unset, .unset, .unset, .unset, .unset, .unset, .unset] [])) (fun t k => XT.lstoreN X0.here hx rfl (hb hby at_5) rfl (l' := #[.val (.long it), .second, .val (.int iw), .val (.long (it &&& (2199023255551 : Int64))), .second, .unset, .unset, .unset, .unset, .unset, .unset, .unset]) rfl k) ?_
  refine own_via (G := T0.setTop (mkF m 7 #[.val (.long it), .second, .val (.int iw), .val (.long (it &&& (2199023255551 : Int64))), .second, .unset, .unset, .unset, .unset, .unset, .unset, .unset] [(.int iw)])) (fun t k => XS.iloadN X0.here hx rfl (hb hby at_6) rfl k) ?_
  refine own_via (G := T0.setTop (mkF m 9 #[.val (.long it), .second, .val (.int iw), .val (.long (it &&& (2199023255551 : Int64))), .second, .unset, .unset, .unset, .unset, .unset, .unset, .unset] [(.int (4194303 : Int32)), (.int iw)])) (fun t k => X0.ldcI hx hown (mvT hZ (hw _ (List.mem_of_getElem? (i := 1) rfl))) (g := (mkF m 7 #[.val (.long it), .second, .val (.int iw), .val (.long (it &&& (2199023255551 : Int64))), .second, .unset, .unset, .unset, .unset, .unset, .unset, .unset] [(.int iw)])) rfl (hb hby at_7) k) ?_
  refine own_via (G := T0.setTop (mkF m 10 #[.val (.long it), .second, .val (.int iw), .val (.long (it &&& (2199023255551 : Int64))), .second, .unset, .unset, .unset, .unset, .unset, .unset, .unset] [(.int (iw &&& (4194303 : Int32)))])) (fun t k => XS.iand X0.here hx rfl (hb hby at_9) rfl k) ?_
  refine own_via (G := T0.setTop (mkF m 11 #[.val (.long it), .second, .val (.int iw), .val (.long (it &&& (2199023255551 : Int64))), .second, .unset, .unset, .unset, .unset, .unset, .unset, .unset] [(.long ((iw &&& (4194303 : Int32)).toInt64))])) (fun t k => XT.i2l X0.here hx rfl (hb hby at_10) rfl k) ?_
  refine own_via (G := T0.setTop (mkF m 13 #[.val (.long it), .second, .val (.int iw), .val (.long (it &&& (2199023255551 : Int64))), .second, .val (.long ((iw &&& (4194303 : Int32)).toInt64)), .second, .unset, .unset, .unset, .unset, .unset] [])) (fun t k => XT.lstore X0.here hx rfl (hb hby at_11) rfl (l' := #[.val (.long it), .second, .val (.int iw), .val (.long (it &&& (2199023255551 : Int64))), .second, .val (.long ((iw &&& (4194303 : Int32)).toInt64)), .second, .unset, .unset, .unset, .unset, .unset]) rfl k) ?_
  refine own_via (G := T0.setTop (mkF m 14 #[.val (.long it), .second, .val (.int iw), .val (.long (it &&& (2199023255551 : Int64))), .second, .val (.long ((iw &&& (4194303 : Int32)).toInt64)), .second, .unset, .unset, .unset, .unset, .unset] [(.long (it &&& (2199023255551 : Int64)))])) (fun t k => XT.lloadN X0.here hx rfl (hb hby at_13) rfl k) ?_
  refine own_via (G := T0.setTop (mkF m 16 #[.val (.long it), .second, .val (.int iw), .val (.long (it &&& (2199023255551 : Int64))), .second, .val (.long ((iw &&& (4194303 : Int32)).toInt64)), .second, .unset, .unset, .unset, .unset, .unset] [(.int (22 : Int32)), (.long (it &&& (2199023255551 : Int64)))])) (fun t k => XS.bipush X0.here hx rfl (hb hby at_14) k) ?_
  refine own_via (G := T0.setTop (mkF m 17 #[.val (.long it), .second, .val (.int iw), .val (.long (it &&& (2199023255551 : Int64))), .second, .val (.long ((iw &&& (4194303 : Int32)).toInt64)), .second, .unset, .unset, .unset, .unset, .unset] [(.long ((it &&& (2199023255551 : Int64)) <<< ((22 : Int32).toInt64 &&& 63)))])) (fun t k => XT.lshl X0.here hx rfl (hb hby at_16) rfl k) ?_
  refine own_via (G := T0.setTop (mkF m 19 #[.val (.long it), .second, .val (.int iw), .val (.long (it &&& (2199023255551 : Int64))), .second, .val (.long ((iw &&& (4194303 : Int32)).toInt64)), .second, .unset, .unset, .unset, .unset, .unset] [(.long ((iw &&& (4194303 : Int32)).toInt64)), (.long ((it &&& (2199023255551 : Int64)) <<< ((22 : Int32).toInt64 &&& 63)))])) (fun t k => XT.lload X0.here hx rfl (hb hby at_17) rfl k) ?_
  refine own_via (G := T0.setTop (mkF m 20 #[.val (.long it), .second, .val (.int iw), .val (.long (it &&& (2199023255551 : Int64))), .second, .val (.long ((iw &&& (4194303 : Int32)).toInt64)), .second, .unset, .unset, .unset, .unset, .unset] [(.long (own_id it iw))])) (fun t k => XT.lor X0.here hx rfl (hb hby at_19) rfl k) ?_
  refine own_via (G := T0.setTop (mkF m 22 #[.val (.long it), .second, .val (.int iw), .val (.long (it &&& (2199023255551 : Int64))), .second, .val (.long ((iw &&& (4194303 : Int32)).toInt64)), .second, .val (.long (own_id it iw)), .second, .unset, .unset, .unset] [])) (fun t k => XT.lstore X0.here hx rfl (hb hby at_20) rfl (l' := #[.val (.long it), .second, .val (.int iw), .val (.long (it &&& (2199023255551 : Int64))), .second, .val (.long ((iw &&& (4194303 : Int32)).toInt64)), .second, .val (.long (own_id it iw)), .second, .unset, .unset, .unset]) rfl k) ?_
  refine own_via (G := T0.setTop (mkF m 24 #[.val (.long it), .second, .val (.int iw), .val (.long (it &&& (2199023255551 : Int64))), .second, .val (.long ((iw &&& (4194303 : Int32)).toInt64)), .second, .val (.long (own_id it iw)), .second, .unset, .unset, .unset] [(.long (own_id it iw))])) (fun t k => XT.lload X0.here hx rfl (hb hby at_22) rfl k) ?_
  refine own_via (G := T0.setTop (mkF m 25 #[.val (.long it), .second, .val (.int iw), .val (.long (it &&& (2199023255551 : Int64))), .second, .val (.long ((iw &&& (4194303 : Int32)).toInt64)), .second, .val (.long (own_id it iw)), .second, .unset, .unset, .unset] [(.long (0 : Int64)), (.long (own_id it iw))])) (fun t k => XT.lconst X0.here hx rfl (hb hby at_24) k) ?_
  refine own_via (G := T0.setTop (mkF m 26 #[.val (.long it), .second, .val (.int iw), .val (.long (it &&& (2199023255551 : Int64))), .second, .val (.long ((iw &&& (4194303 : Int32)).toInt64)), .second, .val (.long (own_id it iw)), .second, .unset, .unset, .unset] [(.int (XT.cmpL (own_id it iw) (0 : Int64)))])) (fun t k => XT.lcmp X0.here hx rfl (hb hby at_25) rfl k) ?_
  by_cases hc1_26 : (own_id it iw) = (0 : Int64)
  · refine own_via (G := T0.setTop (mkF m 29 #[.val (.long it), .second, .val (.int iw), .val (.long (it &&& (2199023255551 : Int64))), .second, .val (.long ((iw &&& (4194303 : Int32)).toInt64)), .second, .val (.long (own_id it iw)), .second, .unset, .unset, .unset] [])) (fun t k => XS.ifNo X0.here hx rfl (hb hby at_26) rfl (XT.ll_ne_f hc1_26) k) ?_
    refine own_via (G := T0.setTop (mkF m 30 #[.val (.long it), .second, .val (.int iw), .val (.long (it &&& (2199023255551 : Int64))), .second, .val (.long ((iw &&& (4194303 : Int32)).toInt64)), .second, .val (.long (own_id it iw)), .second, .unset, .unset, .unset] [(.long (1 : Int64))])) (fun t k => XT.lconst X0.here hx rfl (hb hby at_29) k) ?_
    refine own_via (G := T0.setTop (mkF m 32 #[.val (.long it), .second, .val (.int iw), .val (.long (it &&& (2199023255551 : Int64))), .second, .val (.long ((iw &&& (4194303 : Int32)).toInt64)), .second, .val (.long (1 : Int64)), .second, .unset, .unset, .unset] [])) (fun t k => XT.lstore X0.here hx rfl (hb hby at_30) rfl (l' := #[.val (.long it), .second, .val (.int iw), .val (.long (it &&& (2199023255551 : Int64))), .second, .val (.long ((iw &&& (4194303 : Int32)).toInt64)), .second, .val (.long (1 : Int64)), .second, .unset, .unset, .unset]) rfl k) ?_
    refine own_via (G := T0.setTop (mkF m 34 #[.val (.long it), .second, .val (.int iw), .val (.long (it &&& (2199023255551 : Int64))), .second, .val (.long ((iw &&& (4194303 : Int32)).toInt64)), .second, .val (.long (1 : Int64)), .second, .unset, .unset, .unset] [(.long (1 : Int64))])) (fun t k => XT.lload X0.here hx rfl (hb hby at_32) rfl k) ?_
    obtain ⟨_, _, ⟨T2, L2, k2, n2⟩, -, X2, ⟨Lc2, hQ2, l2, y2, z2⟩, st2⟩ := Jvm.LawKit.callS X0 hx (y := (⟨"com/example/sift140/sift140/model/TweetIds", "createdAt", "(J)Ljava/time/Instant;"⟩ : MethodName)) hown (mvT hZ (hw _ (List.mem_of_getElem? (i := 2) rfl))) (mvT hZ (hw _ (List.mem_of_getElem? (i := 3) rfl))) (mvT hZ (hw _ (List.mem_of_getElem? (i := 4) rfl))) (mvT hZ (hw _ (List.mem_of_getElem? (i := 5) rfl))) (by decide) (backOf (W := 0) (rm1 l Z a0 hw [] (1 : Int64) h0 n0 Z0 (by decide) (own_r0 hc1_26)) hZ (hw _ (List.mem_of_getElem? (i := 5) rfl)) (hw _ (List.mem_of_getElem? (i := 4) rfl)) (by decide) (by decide)) (g := (mkF m 34 #[.val (.long it), .second, .val (.int iw), .val (.long (it &&& (2199023255551 : Int64))), .second, .val (.long ((iw &&& (4194303 : Int32)).toInt64)), .second, .val (.long (1 : Int64)), .second, .unset, .unset, .unset] [(.long (1 : Int64))])) rfl (by rw [hml]; rfl) (argsL := [(.long (1 : Int64))]) (rest := []) (lenOf pd_5 rfl) rfl (by show 2 * 0 + _ ≤ _; exact Nat.le_of_eq rfl) (hb hby at_34) (fun _ _ => ⟨rfl, e0, (by decide : 0 + 1 ≤ _), (by decide : 0 + 2 ≤ _)⟩)
    dsimp only [Pt.U, Pt.locs, Pt.cells, Pt.slots] at X2 l2 y2 z2 st2 hQ2
    subst l2 y2 z2
    obtain ⟨bz_2, rfl, Nq2, K2q, fz_bz_2, P0_2, P1_2, P2_2⟩ := hQ2
    have N2 := Fr.app N0 Nq2
    have g_bz_2 : n0 ≤ bz_2 := Nat.le_trans Z0 fz_bz_2
    have Z2 : n0 ≤ T2.heap.size := Nat.le_trans Z0 K2q.1
    refine own_via (G := T2.setTop (mkF m 37 #[.val (.long it), .second, .val (.int iw), .val (.long (it &&& (2199023255551 : Int64))), .second, .val (.long ((iw &&& (4194303 : Int32)).toInt64)), .second, .val (.long (1 : Int64)), .second, .unset, .unset, .unset] [(.ref bz_2)])) (fun t k => st2 t k) ?_
    refine own_via (G := T2.setTop (mkF m 39 #[.val (.long it), .second, .val (.int iw), .val (.long (it &&& (2199023255551 : Int64))), .second, .val (.long ((iw &&& (4194303 : Int32)).toInt64)), .second, .val (.long (1 : Int64)), .second, .val (.ref bz_2), .unset, .unset] [])) (fun t k => XS.astore X2.here hx rfl (hb hby at_37) rfl rfl (l' := #[.val (.long it), .second, .val (.int iw), .val (.long (it &&& (2199023255551 : Int64))), .second, .val (.long ((iw &&& (4194303 : Int32)).toInt64)), .second, .val (.long (1 : Int64)), .second, .val (.ref bz_2), .unset, .unset]) rfl k) ?_
    refine own_via (G := T2.setTop (mkF m 42 #[.val (.long it), .second, .val (.int iw), .val (.long (it &&& (2199023255551 : Int64))), .second, .val (.long ((iw &&& (4194303 : Int32)).toInt64)), .second, .val (.long (1 : Int64)), .second, .val (.ref bz_2), .unset, .unset] [(.long (1288834974657 : Int64))])) (fun t k => X2.ldc2J hx hown (mvT hZ (hw _ (List.mem_of_getElem? (i := 43) rfl))) (g := (mkF m 39 #[.val (.long it), .second, .val (.int iw), .val (.long (it &&& (2199023255551 : Int64))), .second, .val (.long ((iw &&& (4194303 : Int32)).toInt64)), .second, .val (.long (1 : Int64)), .second, .val (.ref bz_2), .unset, .unset] [])) rfl (hb hby at_39) k) ?_
    refine own_via (G := T2.setTop (mkF m 43 #[.val (.long it), .second, .val (.int iw), .val (.long (it &&& (2199023255551 : Int64))), .second, .val (.long ((iw &&& (4194303 : Int32)).toInt64)), .second, .val (.long (1 : Int64)), .second, .val (.ref bz_2), .unset, .unset] [(.long (it &&& (2199023255551 : Int64))), (.long (1288834974657 : Int64))])) (fun t k => XT.lloadN X2.here hx rfl (hb hby at_42) rfl k) ?_
    refine own_via (G := T2.setTop (mkF m 44 #[.val (.long it), .second, .val (.int iw), .val (.long (it &&& (2199023255551 : Int64))), .second, .val (.long ((iw &&& (4194303 : Int32)).toInt64)), .second, .val (.long (1 : Int64)), .second, .val (.ref bz_2), .unset, .unset] [(.long ((1288834974657 : Int64) + (it &&& (2199023255551 : Int64))))])) (fun t k => XT.ladd X2.here hx rfl (hb hby at_43) rfl k) ?_
    refine own_via (G := T2.setTop (mkF m 46 #[.val (.long it), .second, .val (.int iw), .val (.long (it &&& (2199023255551 : Int64))), .second, .val (.long ((iw &&& (4194303 : Int32)).toInt64)), .second, .val (.long (1 : Int64)), .second, .val (.ref bz_2), .val (.long ((1288834974657 : Int64) + (it &&& (2199023255551 : Int64)))), .second] [])) (fun t k => XT.lstore X2.here hx rfl (hb hby at_44) rfl (l' := #[.val (.long it), .second, .val (.int iw), .val (.long (it &&& (2199023255551 : Int64))), .second, .val (.long ((iw &&& (4194303 : Int32)).toInt64)), .second, .val (.long (1 : Int64)), .second, .val (.ref bz_2), .val (.long ((1288834974657 : Int64) + (it &&& (2199023255551 : Int64)))), .second]) rfl k) ?_
    refine own_via (G := T2.setTop (mkF m 48 #[.val (.long it), .second, .val (.int iw), .val (.long (it &&& (2199023255551 : Int64))), .second, .val (.long ((iw &&& (4194303 : Int32)).toInt64)), .second, .val (.long (1 : Int64)), .second, .val (.ref bz_2), .val (.long ((1288834974657 : Int64) + (it &&& (2199023255551 : Int64)))), .second] [(.ref bz_2)])) (fun t k => XS.aload X2.here hx rfl (hb hby at_46) rfl rfl k) ?_
    obtain ⟨cq3, kq3, q3a, q3b, q3c⟩ := isOf hZ rfl P0_2
    obtain ⟨_, _, ⟨T3, L3, k3, n3⟩, -, X3, ⟨Lc3, hQ3, l3, y3, z3⟩, st3⟩ := X2.virtualBack hx (y := (⟨"java/time/Instant", "toEpochMilli", "()J"⟩ : MethodName)) (z := (⟨"java/time/Instant", "toEpochMilli", "()J"⟩ : MethodName)) hown (mvT hZ (hw _ (List.mem_of_getElem? (i := 44) rfl))) (mvT hZ (hw _ (List.mem_of_getElem? (i := 45) rfl))) (notFace_of_selects (args := #[]) (mvT hZ (hw _ (List.mem_of_getElem? (i := 47) rfl)))) (mvT hZ (hw _ (List.mem_of_getElem? (i := 47) rfl))) (mvT hZ (hw _ (List.mem_of_getElem? (i := 46) rfl))) (by decide) (backOf (W := 0) (rm10 l Z a0 hw [] bz_2 ((((1 : Int64) >>> ((22 : Int32).toInt64 &&& 63)) + (1288834974657 : Int64)) / (1000 : Int32).toInt64) ((((((1 : Int64) >>> ((22 : Int32).toInt64 &&& 63)) + (1288834974657 : Int64)) - (((1 : Int64) >>> ((22 : Int32).toInt64 &&& 63)) + (1288834974657 : Int64)) / ((1000 : Int32).toInt64) * ((1000 : Int32).toInt64)).toInt32) * (1000000 : Int32)) T2.heap n0 Z2 P1_2 P2_2 (own_tw (own_r0 hc1_26))) hZ (hw _ (List.mem_of_getElem? (i := 48) rfl)) (hw _ (List.mem_of_getElem? (i := 9) rfl)) (by decide) (by decide)) q3a q3c (g := (mkF m 48 #[.val (.long it), .second, .val (.int iw), .val (.long (it &&& (2199023255551 : Int64))), .second, .val (.long ((iw &&& (4194303 : Int32)).toInt64)), .second, .val (.long (1 : Int64)), .second, .val (.ref bz_2), .val (.long ((1288834974657 : Int64) + (it &&& (2199023255551 : Int64)))), .second] [(.ref bz_2)])) rfl (by rw [hml]; rfl) (Steps.refl _) (argsL := []) (rest := []) (lenOf pd_7 rfl) rfl (by show 2 * 0 + _ ≤ _; exact Nat.le_of_eq rfl) (hb hby at_48) (fun _ _ => ⟨rfl, rfl, (by decide : (0 + 1) + 0 ≤ _), (by decide : (0 + 2) + 0 ≤ _)⟩)
    dsimp only [Pt.U, Pt.locs, Pt.cells, Pt.slots] at X3 l3 y3 z3 st3 hQ3
    subst l3 y3 z3
    obtain ⟨rfl, Nq3, eh3⟩ := hQ3
    have N3 := Fr.app N2 Nq3
    refine own_via (G := T3.setTop (mkF m 51 #[.val (.long it), .second, .val (.int iw), .val (.long (it &&& (2199023255551 : Int64))), .second, .val (.long ((iw &&& (4194303 : Int32)).toInt64)), .second, .val (.long (1 : Int64)), .second, .val (.ref bz_2), .val (.long ((1288834974657 : Int64) + (it &&& (2199023255551 : Int64)))), .second] [(.long ((((((1 : Int64) >>> ((22 : Int32).toInt64 &&& 63)) + (1288834974657 : Int64)) / (1000 : Int32).toInt64) * ((1000 : Int32).toInt64)) + ((((((((1 : Int64) >>> ((22 : Int32).toInt64 &&& 63)) + (1288834974657 : Int64)) - (((1 : Int64) >>> ((22 : Int32).toInt64 &&& 63)) + (1288834974657 : Int64)) / ((1000 : Int32).toInt64) * ((1000 : Int32).toInt64)).toInt32) * (1000000 : Int32)) / (1000000 : Int32)).toInt64)))])) (fun t k => st3.trans k) ?_
    refine own_via (G := T3.setTop (mkF m 53 #[.val (.long it), .second, .val (.int iw), .val (.long (it &&& (2199023255551 : Int64))), .second, .val (.long ((iw &&& (4194303 : Int32)).toInt64)), .second, .val (.long (1 : Int64)), .second, .val (.ref bz_2), .val (.long ((1288834974657 : Int64) + (it &&& (2199023255551 : Int64)))), .second] [(.long ((1288834974657 : Int64) + (it &&& (2199023255551 : Int64)))), (.long ((((((1 : Int64) >>> ((22 : Int32).toInt64 &&& 63)) + (1288834974657 : Int64)) / (1000 : Int32).toInt64) * ((1000 : Int32).toInt64)) + ((((((((1 : Int64) >>> ((22 : Int32).toInt64 &&& 63)) + (1288834974657 : Int64)) - (((1 : Int64) >>> ((22 : Int32).toInt64 &&& 63)) + (1288834974657 : Int64)) / ((1000 : Int32).toInt64) * ((1000 : Int32).toInt64)).toInt32) * (1000000 : Int32)) / (1000000 : Int32)).toInt64)))])) (fun t k => XT.lload X3.here hx rfl (hb hby at_51) rfl k) ?_
    refine own_via (G := T3.setTop (mkF m 54 #[.val (.long it), .second, .val (.int iw), .val (.long (it &&& (2199023255551 : Int64))), .second, .val (.long ((iw &&& (4194303 : Int32)).toInt64)), .second, .val (.long (1 : Int64)), .second, .val (.ref bz_2), .val (.long ((1288834974657 : Int64) + (it &&& (2199023255551 : Int64)))), .second] [(.int (XT.cmpL ((((((1 : Int64) >>> ((22 : Int32).toInt64 &&& 63)) + (1288834974657 : Int64)) / (1000 : Int32).toInt64) * ((1000 : Int32).toInt64)) + ((((((((1 : Int64) >>> ((22 : Int32).toInt64 &&& 63)) + (1288834974657 : Int64)) - (((1 : Int64) >>> ((22 : Int32).toInt64 &&& 63)) + (1288834974657 : Int64)) / ((1000 : Int32).toInt64) * ((1000 : Int32).toInt64)).toInt32) * (1000000 : Int32)) / (1000000 : Int32)).toInt64)) ((1288834974657 : Int64) + (it &&& (2199023255551 : Int64)))))])) (fun t k => XT.lcmp X3.here hx rfl (hb hby at_53) rfl k) ?_
    have hc4_54 : ((((((1 : Int64) >>> ((22 : Int32).toInt64 &&& 63)) + (1288834974657 : Int64)) / (1000 : Int32).toInt64) * ((1000 : Int32).toInt64)) + ((((((((1 : Int64) >>> ((22 : Int32).toInt64 &&& 63)) + (1288834974657 : Int64)) - (((1 : Int64) >>> ((22 : Int32).toInt64 &&& 63)) + (1288834974657 : Int64)) / ((1000 : Int32).toInt64) * ((1000 : Int32).toInt64)).toInt32) * (1000000 : Int32)) / (1000000 : Int32)).toInt64)) = ((1288834974657 : Int64) + (it &&& (2199023255551 : Int64))) := own_end0 hc1_26
    refine own_via (G := T3.setTop (mkF m 57 #[.val (.long it), .second, .val (.int iw), .val (.long (it &&& (2199023255551 : Int64))), .second, .val (.long ((iw &&& (4194303 : Int32)).toInt64)), .second, .val (.long (1 : Int64)), .second, .val (.ref bz_2), .val (.long ((1288834974657 : Int64) + (it &&& (2199023255551 : Int64)))), .second] [])) (fun t k => XS.ifNo X3.here hx rfl (hb hby at_54) rfl (XT.ll_ne_f hc4_54) k) ?_
    refine own_via (G := T3.setTop (mkF m 58 #[.val (.long it), .second, .val (.int iw), .val (.long (it &&& (2199023255551 : Int64))), .second, .val (.long ((iw &&& (4194303 : Int32)).toInt64)), .second, .val (.long (1 : Int64)), .second, .val (.ref bz_2), .val (.long ((1288834974657 : Int64) + (it &&& (2199023255551 : Int64)))), .second] [(.int (1 : Int32))])) (fun t k => XS.iconst X3.here hx rfl (hb hby at_57) k) ?_
    refine own_via (G := T3.setTop (mkF m 62 #[.val (.long it), .second, .val (.int iw), .val (.long (it &&& (2199023255551 : Int64))), .second, .val (.long ((iw &&& (4194303 : Int32)).toInt64)), .second, .val (.long (1 : Int64)), .second, .val (.ref bz_2), .val (.long ((1288834974657 : Int64) + (it &&& (2199023255551 : Int64)))), .second] [(.int (1 : Int32))])) (fun t k => XS.goto X3.here hx rfl (pc0 := 58) (pc' := 62) rfl (hb hby at_58) (by decide) (by decide) k) ?_
    exact own_fin X3 eh3 (v := some (.int (1 : Int32))) (fun h => by rw [hret] at h; cases h) hlk (fun fs hr => retN X3 hx (t := .boolean) hret (by simp) (hb hby at_62) hr) (show ((fun (v : Option Value) (h : Heap) (L : List Loc) => Q0 Z it iw h0 n0 v h L)) (some (.int (1 : Int32))) T2.heap _ from ⟨rfl, N3⟩) (by decide) (by decide)
  · refine own_via (G := T0.setTop (mkF m 32 #[.val (.long it), .second, .val (.int iw), .val (.long (it &&& (2199023255551 : Int64))), .second, .val (.long ((iw &&& (4194303 : Int32)).toInt64)), .second, .val (.long (own_id it iw)), .second, .unset, .unset, .unset] [])) (fun t k => XS.ifYes X0.here hx rfl (pc0 := 26) (pc' := 32) rfl (hb hby at_26) rfl (XT.ll_ne_t hc1_26) (by decide) (by decide) k) ?_
    refine own_via (G := T0.setTop (mkF m 34 #[.val (.long it), .second, .val (.int iw), .val (.long (it &&& (2199023255551 : Int64))), .second, .val (.long ((iw &&& (4194303 : Int32)).toInt64)), .second, .val (.long (own_id it iw)), .second, .unset, .unset, .unset] [(.long (own_id it iw))])) (fun t k => XT.lload X0.here hx rfl (hb hby at_32) rfl k) ?_
    obtain ⟨_, _, ⟨T5, L5, k5, n5⟩, -, X5, ⟨Lc5, hQ5, l5, y5, z5⟩, st5⟩ := Jvm.LawKit.callS X0 hx (y := (⟨"com/example/sift140/sift140/model/TweetIds", "createdAt", "(J)Ljava/time/Instant;"⟩ : MethodName)) hown (mvT hZ (hw _ (List.mem_of_getElem? (i := 2) rfl))) (mvT hZ (hw _ (List.mem_of_getElem? (i := 3) rfl))) (mvT hZ (hw _ (List.mem_of_getElem? (i := 4) rfl))) (mvT hZ (hw _ (List.mem_of_getElem? (i := 5) rfl))) (by decide) (backOf (W := 0) (rm1 l Z a0 hw [] (own_id it iw) h0 n0 Z0 (own_pos hc1_26) (own_r1 _ _)) hZ (hw _ (List.mem_of_getElem? (i := 5) rfl)) (hw _ (List.mem_of_getElem? (i := 4) rfl)) (by decide) (by decide)) (g := (mkF m 34 #[.val (.long it), .second, .val (.int iw), .val (.long (it &&& (2199023255551 : Int64))), .second, .val (.long ((iw &&& (4194303 : Int32)).toInt64)), .second, .val (.long (own_id it iw)), .second, .unset, .unset, .unset] [(.long (own_id it iw))])) rfl (by rw [hml]; rfl) (argsL := [(.long (own_id it iw))]) (rest := []) (lenOf pd_5 rfl) rfl (by show 2 * 0 + _ ≤ _; exact Nat.le_of_eq rfl) (hb hby at_34) (fun _ _ => ⟨rfl, e0, (by decide : 0 + 1 ≤ _), (by decide : 0 + 2 ≤ _)⟩)
    dsimp only [Pt.U, Pt.locs, Pt.cells, Pt.slots] at X5 l5 y5 z5 st5 hQ5
    subst l5 y5 z5
    obtain ⟨bz_5, rfl, Nq5, K5q, fz_bz_5, P0_5, P1_5, P2_5⟩ := hQ5
    have N5 := Fr.app N0 Nq5
    have g_bz_5 : n0 ≤ bz_5 := Nat.le_trans Z0 fz_bz_5
    have Z5 : n0 ≤ T5.heap.size := Nat.le_trans Z0 K5q.1
    refine own_via (G := T5.setTop (mkF m 37 #[.val (.long it), .second, .val (.int iw), .val (.long (it &&& (2199023255551 : Int64))), .second, .val (.long ((iw &&& (4194303 : Int32)).toInt64)), .second, .val (.long (own_id it iw)), .second, .unset, .unset, .unset] [(.ref bz_5)])) (fun t k => st5 t k) ?_
    refine own_via (G := T5.setTop (mkF m 39 #[.val (.long it), .second, .val (.int iw), .val (.long (it &&& (2199023255551 : Int64))), .second, .val (.long ((iw &&& (4194303 : Int32)).toInt64)), .second, .val (.long (own_id it iw)), .second, .val (.ref bz_5), .unset, .unset] [])) (fun t k => XS.astore X5.here hx rfl (hb hby at_37) rfl rfl (l' := #[.val (.long it), .second, .val (.int iw), .val (.long (it &&& (2199023255551 : Int64))), .second, .val (.long ((iw &&& (4194303 : Int32)).toInt64)), .second, .val (.long (own_id it iw)), .second, .val (.ref bz_5), .unset, .unset]) rfl k) ?_
    refine own_via (G := T5.setTop (mkF m 42 #[.val (.long it), .second, .val (.int iw), .val (.long (it &&& (2199023255551 : Int64))), .second, .val (.long ((iw &&& (4194303 : Int32)).toInt64)), .second, .val (.long (own_id it iw)), .second, .val (.ref bz_5), .unset, .unset] [(.long (1288834974657 : Int64))])) (fun t k => X5.ldc2J hx hown (mvT hZ (hw _ (List.mem_of_getElem? (i := 43) rfl))) (g := (mkF m 39 #[.val (.long it), .second, .val (.int iw), .val (.long (it &&& (2199023255551 : Int64))), .second, .val (.long ((iw &&& (4194303 : Int32)).toInt64)), .second, .val (.long (own_id it iw)), .second, .val (.ref bz_5), .unset, .unset] [])) rfl (hb hby at_39) k) ?_
    refine own_via (G := T5.setTop (mkF m 43 #[.val (.long it), .second, .val (.int iw), .val (.long (it &&& (2199023255551 : Int64))), .second, .val (.long ((iw &&& (4194303 : Int32)).toInt64)), .second, .val (.long (own_id it iw)), .second, .val (.ref bz_5), .unset, .unset] [(.long (it &&& (2199023255551 : Int64))), (.long (1288834974657 : Int64))])) (fun t k => XT.lloadN X5.here hx rfl (hb hby at_42) rfl k) ?_
    refine own_via (G := T5.setTop (mkF m 44 #[.val (.long it), .second, .val (.int iw), .val (.long (it &&& (2199023255551 : Int64))), .second, .val (.long ((iw &&& (4194303 : Int32)).toInt64)), .second, .val (.long (own_id it iw)), .second, .val (.ref bz_5), .unset, .unset] [(.long ((1288834974657 : Int64) + (it &&& (2199023255551 : Int64))))])) (fun t k => XT.ladd X5.here hx rfl (hb hby at_43) rfl k) ?_
    refine own_via (G := T5.setTop (mkF m 46 #[.val (.long it), .second, .val (.int iw), .val (.long (it &&& (2199023255551 : Int64))), .second, .val (.long ((iw &&& (4194303 : Int32)).toInt64)), .second, .val (.long (own_id it iw)), .second, .val (.ref bz_5), .val (.long ((1288834974657 : Int64) + (it &&& (2199023255551 : Int64)))), .second] [])) (fun t k => XT.lstore X5.here hx rfl (hb hby at_44) rfl (l' := #[.val (.long it), .second, .val (.int iw), .val (.long (it &&& (2199023255551 : Int64))), .second, .val (.long ((iw &&& (4194303 : Int32)).toInt64)), .second, .val (.long (own_id it iw)), .second, .val (.ref bz_5), .val (.long ((1288834974657 : Int64) + (it &&& (2199023255551 : Int64)))), .second]) rfl k) ?_
    refine own_via (G := T5.setTop (mkF m 48 #[.val (.long it), .second, .val (.int iw), .val (.long (it &&& (2199023255551 : Int64))), .second, .val (.long ((iw &&& (4194303 : Int32)).toInt64)), .second, .val (.long (own_id it iw)), .second, .val (.ref bz_5), .val (.long ((1288834974657 : Int64) + (it &&& (2199023255551 : Int64)))), .second] [(.ref bz_5)])) (fun t k => XS.aload X5.here hx rfl (hb hby at_46) rfl rfl k) ?_
    obtain ⟨cq6, kq6, q6a, q6b, q6c⟩ := isOf hZ rfl P0_5
    obtain ⟨_, _, ⟨T6, L6, k6, n6⟩, -, X6, ⟨Lc6, hQ6, l6, y6, z6⟩, st6⟩ := X5.virtualBack hx (y := (⟨"java/time/Instant", "toEpochMilli", "()J"⟩ : MethodName)) (z := (⟨"java/time/Instant", "toEpochMilli", "()J"⟩ : MethodName)) hown (mvT hZ (hw _ (List.mem_of_getElem? (i := 44) rfl))) (mvT hZ (hw _ (List.mem_of_getElem? (i := 45) rfl))) (notFace_of_selects (args := #[]) (mvT hZ (hw _ (List.mem_of_getElem? (i := 47) rfl)))) (mvT hZ (hw _ (List.mem_of_getElem? (i := 47) rfl))) (mvT hZ (hw _ (List.mem_of_getElem? (i := 46) rfl))) (by decide) (backOf (W := 0) (rm10 l Z a0 hw [] bz_5 ((((own_id it iw) >>> ((22 : Int32).toInt64 &&& 63)) + (1288834974657 : Int64)) / (1000 : Int32).toInt64) ((((((own_id it iw) >>> ((22 : Int32).toInt64 &&& 63)) + (1288834974657 : Int64)) - (((own_id it iw) >>> ((22 : Int32).toInt64 &&& 63)) + (1288834974657 : Int64)) / ((1000 : Int32).toInt64) * ((1000 : Int32).toInt64)).toInt32) * (1000000 : Int32)) T5.heap n0 Z5 P1_5 P2_5 (own_tw (own_r1 _ _))) hZ (hw _ (List.mem_of_getElem? (i := 48) rfl)) (hw _ (List.mem_of_getElem? (i := 9) rfl)) (by decide) (by decide)) q6a q6c (g := (mkF m 48 #[.val (.long it), .second, .val (.int iw), .val (.long (it &&& (2199023255551 : Int64))), .second, .val (.long ((iw &&& (4194303 : Int32)).toInt64)), .second, .val (.long (own_id it iw)), .second, .val (.ref bz_5), .val (.long ((1288834974657 : Int64) + (it &&& (2199023255551 : Int64)))), .second] [(.ref bz_5)])) rfl (by rw [hml]; rfl) (Steps.refl _) (argsL := []) (rest := []) (lenOf pd_7 rfl) rfl (by show 2 * 0 + _ ≤ _; exact Nat.le_of_eq rfl) (hb hby at_48) (fun _ _ => ⟨rfl, rfl, (by decide : (0 + 1) + 0 ≤ _), (by decide : (0 + 2) + 0 ≤ _)⟩)
    dsimp only [Pt.U, Pt.locs, Pt.cells, Pt.slots] at X6 l6 y6 z6 st6 hQ6
    subst l6 y6 z6
    obtain ⟨rfl, Nq6, eh6⟩ := hQ6
    have N6 := Fr.app N5 Nq6
    refine own_via (G := T6.setTop (mkF m 51 #[.val (.long it), .second, .val (.int iw), .val (.long (it &&& (2199023255551 : Int64))), .second, .val (.long ((iw &&& (4194303 : Int32)).toInt64)), .second, .val (.long (own_id it iw)), .second, .val (.ref bz_5), .val (.long ((1288834974657 : Int64) + (it &&& (2199023255551 : Int64)))), .second] [(.long ((((((own_id it iw) >>> ((22 : Int32).toInt64 &&& 63)) + (1288834974657 : Int64)) / (1000 : Int32).toInt64) * ((1000 : Int32).toInt64)) + ((((((((own_id it iw) >>> ((22 : Int32).toInt64 &&& 63)) + (1288834974657 : Int64)) - (((own_id it iw) >>> ((22 : Int32).toInt64 &&& 63)) + (1288834974657 : Int64)) / ((1000 : Int32).toInt64) * ((1000 : Int32).toInt64)).toInt32) * (1000000 : Int32)) / (1000000 : Int32)).toInt64)))])) (fun t k => st6.trans k) ?_
    refine own_via (G := T6.setTop (mkF m 53 #[.val (.long it), .second, .val (.int iw), .val (.long (it &&& (2199023255551 : Int64))), .second, .val (.long ((iw &&& (4194303 : Int32)).toInt64)), .second, .val (.long (own_id it iw)), .second, .val (.ref bz_5), .val (.long ((1288834974657 : Int64) + (it &&& (2199023255551 : Int64)))), .second] [(.long ((1288834974657 : Int64) + (it &&& (2199023255551 : Int64)))), (.long ((((((own_id it iw) >>> ((22 : Int32).toInt64 &&& 63)) + (1288834974657 : Int64)) / (1000 : Int32).toInt64) * ((1000 : Int32).toInt64)) + ((((((((own_id it iw) >>> ((22 : Int32).toInt64 &&& 63)) + (1288834974657 : Int64)) - (((own_id it iw) >>> ((22 : Int32).toInt64 &&& 63)) + (1288834974657 : Int64)) / ((1000 : Int32).toInt64) * ((1000 : Int32).toInt64)).toInt32) * (1000000 : Int32)) / (1000000 : Int32)).toInt64)))])) (fun t k => XT.lload X6.here hx rfl (hb hby at_51) rfl k) ?_
    refine own_via (G := T6.setTop (mkF m 54 #[.val (.long it), .second, .val (.int iw), .val (.long (it &&& (2199023255551 : Int64))), .second, .val (.long ((iw &&& (4194303 : Int32)).toInt64)), .second, .val (.long (own_id it iw)), .second, .val (.ref bz_5), .val (.long ((1288834974657 : Int64) + (it &&& (2199023255551 : Int64)))), .second] [(.int (XT.cmpL ((((((own_id it iw) >>> ((22 : Int32).toInt64 &&& 63)) + (1288834974657 : Int64)) / (1000 : Int32).toInt64) * ((1000 : Int32).toInt64)) + ((((((((own_id it iw) >>> ((22 : Int32).toInt64 &&& 63)) + (1288834974657 : Int64)) - (((own_id it iw) >>> ((22 : Int32).toInt64 &&& 63)) + (1288834974657 : Int64)) / ((1000 : Int32).toInt64) * ((1000 : Int32).toInt64)).toInt32) * (1000000 : Int32)) / (1000000 : Int32)).toInt64)) ((1288834974657 : Int64) + (it &&& (2199023255551 : Int64)))))])) (fun t k => XT.lcmp X6.here hx rfl (hb hby at_53) rfl k) ?_
    have hc7_54 : ((((((own_id it iw) >>> ((22 : Int32).toInt64 &&& 63)) + (1288834974657 : Int64)) / (1000 : Int32).toInt64) * ((1000 : Int32).toInt64)) + ((((((((own_id it iw) >>> ((22 : Int32).toInt64 &&& 63)) + (1288834974657 : Int64)) - (((own_id it iw) >>> ((22 : Int32).toInt64 &&& 63)) + (1288834974657 : Int64)) / ((1000 : Int32).toInt64) * ((1000 : Int32).toInt64)).toInt32) * (1000000 : Int32)) / (1000000 : Int32)).toInt64)) = ((1288834974657 : Int64) + (it &&& (2199023255551 : Int64))) := own_end1 _ _
    refine own_via (G := T6.setTop (mkF m 57 #[.val (.long it), .second, .val (.int iw), .val (.long (it &&& (2199023255551 : Int64))), .second, .val (.long ((iw &&& (4194303 : Int32)).toInt64)), .second, .val (.long (own_id it iw)), .second, .val (.ref bz_5), .val (.long ((1288834974657 : Int64) + (it &&& (2199023255551 : Int64)))), .second] [])) (fun t k => XS.ifNo X6.here hx rfl (hb hby at_54) rfl (XT.ll_ne_f hc7_54) k) ?_
    refine own_via (G := T6.setTop (mkF m 58 #[.val (.long it), .second, .val (.int iw), .val (.long (it &&& (2199023255551 : Int64))), .second, .val (.long ((iw &&& (4194303 : Int32)).toInt64)), .second, .val (.long (own_id it iw)), .second, .val (.ref bz_5), .val (.long ((1288834974657 : Int64) + (it &&& (2199023255551 : Int64)))), .second] [(.int (1 : Int32))])) (fun t k => XS.iconst X6.here hx rfl (hb hby at_57) k) ?_
    refine own_via (G := T6.setTop (mkF m 62 #[.val (.long it), .second, .val (.int iw), .val (.long (it &&& (2199023255551 : Int64))), .second, .val (.long ((iw &&& (4194303 : Int32)).toInt64)), .second, .val (.long (own_id it iw)), .second, .val (.ref bz_5), .val (.long ((1288834974657 : Int64) + (it &&& (2199023255551 : Int64)))), .second] [(.int (1 : Int32))])) (fun t k => XS.goto X6.here hx rfl (pc0 := 58) (pc' := 62) rfl (hb hby at_58) (by decide) (by decide) k) ?_
    exact own_fin X6 eh6 (v := some (.int (1 : Int32))) (fun h => by rw [hret] at h; cases h) hlk (fun fs hr => retN X6 hx (t := .boolean) hret (by simp) (hb hby at_62) hr) (show ((fun (v : Option Value) (h : Heap) (L : List Loc) => Q0 Z it iw h0 n0 v h L)) (some (.int (1 : Int32))) T5.heap _ from ⟨rfl, N6⟩) (by decide) (by decide)
theorem pn_2 : plainName "com/example/sift140/sift140/model/TweetIdsCreatedAtPinLaw" = true := by first | (simp [plainName, overriddenIn]; done) | decide +kernel
theorem ef_0 (m : MethodId) (it : Int64) (iw : Int32) : entryFrame m #[(.long it), (.int iw)] maxLocals = mkF m 0 #[.val (.long it), .second, .val (.int iw), .unset, .unset, .unset, .unset, .unset, .unset, .unset, .unset, .unset] [] := by first | (simp [entryFrame, mkF, argsToLocals, Value.category, maxLocals]; done) | rfl
set_option maxRecDepth 65536 in
set_option maxHeartbeats 40000000 in
theorem rm0 (l : Launch) (Z : State) (a0 : Array Value) (hw : ∀ d ∈ tables_1, d.before a0 Z = true) (ws : List Jvm.Cond) (it : Int64) (iw : Int32) (h0 : Heap) (n0 : Nat) (Z0 : n0 ≤ h0.size) :
    MetFree l x (head1 (Jvm.Cond.code x code maxLocals ret :: ws) room_1) (fun a U => a = #[(.long it), (.int iw)] ∧ Z.Warmed39 U.vm ∧ U.heap = h0) (fun _ _ _ _ _ => True) (fun _ U o U' => ∃ v L, o = .returned v ∧ Q0 Z it iw h0 n0 v U'.heap L ∧ FrameEnd U o U' L room_1.cells room_1.slots) := by
  refine MetFree.of_bodySF (plainFor_of_name pn_2) hisR ?_
  intro p e s m args below meth c s₁ Bd hml0 hP hK
  obtain ⟨rfl, hZ, hh⟩ := hP
  have e0 : s₁.heap = h0 := by rw [← hh, Bd.state]; rfl
  rw [ef_0 m it iw]
  exact b0 it iw ⟨Bd.exec, hZ, hw, Bd.bytes, hml0, findClass_of_methodNamed Bd.named, Bd.returns, Bd.notSynchronized, (name_of_methodNamed Bd.named Bd.method).1⟩ (Stand.of_body Bd) e0 Z0 (Fr.nil n0)
set_option maxRecDepth 65536 in
set_option maxHeartbeats 40000000 in
theorem comes_1 {Post : Tables → Env → Array Value → State → Outcome → State → Prop} (hpost : ∀ tb e args s v u, (limb_1_1.after args s (.returned v) u = true ∧ limb_1_2.after args s (.returned v) u = true ∧ True) → FrameEnd s (.returned v) u (Jvm.fieldLocs frame_1_writes args s ++ Jvm.arrayLocs frame_1_arrays args s ++ Jvm.staticLocs frame_1_statics s) 16 128 → Post tb e args s (.returned v) u) :
    ArmFor flags0 classFile x code maxLocals ret World_1 tables_1 room_1 Calls_1 rest_1 Pre_1 Post := by
  intro l hfl _ _ p e ha hc hk s m args below hf hA hF happ hP
  obtain ⟨hcalls, hrest, hpre⟩ := hP
  obtain ⟨-, -, -, hnamed, -, -, -, hat⟩ := (Spec.applies_iff hf).mp happ
  obtain ⟨hg, hn⟩ := and_e (Cond.before_iff.mp (show (Jvm.Cond.and given_1 narrow_1).before args s = true from hpre))
  obtain ⟨hcount, r0⟩ := and_e hg
  obtain ⟨ha0, r1⟩ := and_e r0
  obtain ⟨w0, w1, rfl⟩ : ∃ w0 w1 : Value, args = #[w0, w1] := by
    have hs : args.size = 2 := by simpa [Cond.value, given_1] using hcount
    obtain ⟨L⟩ := args
    match L, hs with
    | [w0, w1], _ => exact ⟨w0, w1, rfl⟩
  have hw := fun d (hd : d ∈ tables_1) => atoms_spec (ws := Jvm.Cond.code x code maxLocals ret :: tables_1) hat d (List.mem_cons_of_mem _ hd)
  obtain ⟨i0, ei0⟩ := isL_v ha0
  obtain rfl : w0 = (.long i0) := Option.some.inj ei0
  obtain ⟨i1, ei1⟩ := is_v r1
  obtain rfl : w1 = (.int i1) := Option.some.inj ei1
  obtain ⟨n, o, h1, h2, h3, _, L, rfl, ⟨rfl, N⟩, hq⟩ := rm0 l s _ hw tables_1 i0 i1 s.heap s.heap.size (Nat.le_refl _) p e ha hc hk s m _ below hf ((Spec.applies_iff_loose hf).mp happ).1 ⟨rfl, State.Warmed39.refl s, rfl⟩ trivial
  refine ⟨n, _, h1, h2, h3, hpost _ _ _ _ _ _ ⟨Cond.after_iff.mpr rfl, Cond.after_iff.mpr (eq_i res_at (Term.int_eval (1)) rfl), trivial⟩ ⟨hq.1, hq.2.1, (hq.2.2.sift fun y hy => Or.inr (N y hy)).mono (by decide) (by decide)⟩⟩
theorem main_1_1 : Claimed_1_1 := comes_1 fun _ _ _ _ _ _ h hF => ⟨h.1, hF⟩
theorem main_1_2 : Claimed_1_2 := comes_1 fun _ _ _ _ _ _ h hF => ⟨h.2.1, hF⟩
end Jvm.Pilot.@@N@@
namespace Jvm.Pilot.@@N@@
open Jvm Jvm.ClassFile Sem Op Lib Jvm.Free Jvm.Stand Jvm.Pilot.@@N@@.Jvm.D
/-! MADE BY PROGRAM (witnessworld.py) out of the Statement's table words and the real class files: 15 classes; the members and pool entries that the words name. The judged class is class 1, her method 1. -/
namespace start1
open Jvm.ClassFile
def u (s : String) : CpInfo := .utf8 (stringToUtf16 s)
/-- a pool by its gaps: so many unusable entries, then the entry; so many at the end -/
def gap : Nat → List CpInfo → List CpInfo
  | 0, r => r
  | n + 1, r => .unusable :: gap n r
def poolList (es : List (Nat × CpInfo)) (last : Nat) : List CpInfo := es.foldr (fun e r => gap e.1 (e.2 :: r)) (gap last [])
def pool (es : List (Nat × CpInfo)) (last : Nat) : Array CpInfo := ⟨poolList es last⟩
def fileOf (pool : Array CpInfo) (this : Nat) (attrs : Array Attribute := #[]) (ms : Array MethodInfo := #[]) (fl : Nat := 33) (sup : Nat := 0) (ifs : Array Nat := #[]) (fds : Array FieldInfo := #[]) : ClassFile where
  minorVersion := 0
  majorVersion := 65
  constantPool := pool
  accessFlags := fl
  thisClass := this
  superClass := sup
  interfaces := ifs
  fields := fds
  methods := ms
  attributes := attrs
def plain (name : String) (sup : Option ClassId) : Class where
  name := name
  kind := .ordinary
  loader := none
  accessFlags := 33
  super := sup
  interfaces := #[]
  cf := none
  fields := #[]
  methods := #[]
  instanceTypes := #[]
  staticTypes := #[]
  resolved := #[]
  callSites := []
  init := .initialized
  statics := none
  mirror := none

def pool0 : Array CpInfo := pool [(5, u "<init>"), (0, u "()V"), (1, .class_ 10), (1, u "java/lang/Object")] 113

def k0c0 : Code := { maxStack := 0, maxLocals := 1, code := object_method_1_code, exceptionTable := #[], attributes := #[] }
def k0m0 : Method := { name := "<init>", desc := "()V", sig := { parameters := [], returnType := none }, accessFlags := 1, code := some k0c0 }
/-- java/lang/Object -/
def k0 : Class := { plain "java/lang/Object" none with
  accessFlags := 33
  interfaces := #[]
  cf := some (fileOf pool0 8 #[] #[{ accessFlags := 1, nameIndex := 5, descriptorIndex := 6, attributes := #[] }] 33 0 #[] #[])
  fields := #[]
  methods := #[k0m0]
  instanceTypes := #[]
  staticTypes := #[]
  resolved := Array.replicate 124 none
  statics := none }

def pool1 : Array CpInfo := pool [(2, .class_ 4), (1, u "java/lang/Object"), (0, u "<init>"), (0, u "()V"), (0, .long 2199023255551), (1, .integer 4194303), (0, .methodref 11 12), (0, .class_ 13), (0, .nameAndType 14 15), (0, u "com/example/sift140/sift140/model/TweetIds"), (0, u "createdAt"), (0, u "(J)Ljava/time/Instant;"), (0, .long 1288834974657), (1, .methodref 19 20), (0, .class_ 21), (0, .nameAndType 22 23), (0, u "java/time/Instant"), (0, u "toEpochMilli"), (0, u "()J"), (0, .class_ 25), (0, u "com/example/sift140/sift140/model/TweetIdsCreatedAtPinLaw"), (2, u "law"), (0, u "(JI)Z")] 3

def k1m0 : Method := { name := "<init>", desc := "()V", sig := { parameters := [], returnType := none }, accessFlags := 2, code := none }
def k1c1 : Code := { maxStack := 4, maxLocals := 12, code := code, exceptionTable := #[], attributes := #[] }
def k1m1 : Method := { name := "law", desc := "(JI)Z", sig := { parameters := [.long, .int], returnType := some .boolean }, accessFlags := 9, code := some k1c1 }
/-- com/example/sift140/sift140/model/TweetIdsCreatedAtPinLaw -/
def k1 : Class := { plain "com/example/sift140/sift140/model/TweetIdsCreatedAtPinLaw" (some 0) with
  accessFlags := 49
  interfaces := #[]
  cf := some (fileOf pool1 24 #[] #[{ accessFlags := 2, nameIndex := 5, descriptorIndex := 6, attributes := #[] }, { accessFlags := 9, nameIndex := 28, descriptorIndex := 29, attributes := #[] }] 49 2 #[] #[])
  fields := #[]
  methods := #[k1m0, k1m1]
  instanceTypes := #[]
  staticTypes := #[]
  resolved := Array.replicate 33 none
  statics := none }

def pool2 : Array CpInfo := pool [(2, .class_ 4), (1, u "java/lang/Object"), (0, u "<init>"), (0, u "()V"), (20, .class_ 28), (0, u "com/example/sift140/sift140/model/TweetIds"), (0, .long 1288834974657), (1, .methodref 32 33), (0, .class_ 34), (0, .nameAndType 35 36), (0, u "java/time/Instant"), (0, u "ofEpochMilli"), (0, u "(J)Ljava/time/Instant;"), (24, u "EPOCH_MILLIS"), (0, u "J"), (1, u "TIME_SHIFT"), (0, u "I"), (5, u "createdAt")] 18

def k2m0 : Method := { name := "<init>", desc := "()V", sig := { parameters := [], returnType := none }, accessFlags := 2, code := none }
def k2c1 : Code := { maxStack := 4, maxLocals := 2, code := prog_53_method_3_code, exceptionTable := #[], attributes := #[] }
def k2m1 : Method := { name := "createdAt", desc := "(J)Ljava/time/Instant;", sig := { parameters := [.long], returnType := some (.object "java/time/Instant") }, accessFlags := 9, code := some k2c1 }
/-- com/example/sift140/sift140/model/TweetIds -/
def k2 : Class := { plain "com/example/sift140/sift140/model/TweetIds" (some 0) with
  accessFlags := 49
  interfaces := #[]
  cf := some (fileOf pool2 27 #[] #[{ accessFlags := 2, nameIndex := 5, descriptorIndex := 6, attributes := #[] }, { accessFlags := 9, nameIndex := 71, descriptorIndex := 36, attributes := #[] }] 49 2 #[] #[{ accessFlags := 26, nameIndex := 61, descriptorIndex := 62, attributes := #[] }, { accessFlags := 26, nameIndex := 64, descriptorIndex := 65, attributes := #[] }])
  fields := #[{ name := "EPOCH_MILLIS", type := .long, accessFlags := 26, slot := 0, constantValue := 0 }, { name := "TIME_SHIFT", type := .int, accessFlags := 26, slot := 1, constantValue := 0 }]
  methods := #[k2m0, k2m1]
  instanceTypes := #[]
  staticTypes := #[.long, .int]
  resolved := Array.replicate 90 none
  statics := none }

def pool3 : Array CpInfo := pool [(4, .class_ 6), (1, u "java/time/temporal/TemporalAccessor"), (95, .class_ 103), (0, u "java/lang/Object")] 21

/-- java/time/temporal/TemporalAccessor -/
def k3 : Class := { plain "java/time/temporal/TemporalAccessor" (some 0) with
  accessFlags := 1537
  interfaces := #[]
  cf := some (fileOf pool3 4 #[] #[] 1537 102 #[] #[])
  fields := #[]
  methods := #[]
  instanceTypes := #[]
  staticTypes := #[]
  resolved := Array.replicate 125 none
  statics := none }

def pool4 : Array CpInfo := pool [(22, .class_ 24), (1, u "java/time/temporal/Temporal"), (2, .class_ 28), (0, u "java/lang/Object"), (0, .class_ 30), (0, u "java/time/temporal/TemporalAccessor")] 25

/-- java/time/temporal/Temporal -/
def k4 : Class := { plain "java/time/temporal/Temporal" (some 0) with
  accessFlags := 1537
  interfaces := #[3]
  cf := some (fileOf pool4 22 #[] #[] 1537 27 #[29] #[])
  fields := #[]
  methods := #[]
  instanceTypes := #[]
  staticTypes := #[]
  resolved := Array.replicate 56 none
  statics := none }

def pool5 : Array CpInfo := pool [(1, .class_ 2), (0, u "java/time/temporal/TemporalAdjuster"), (0, .class_ 4), (0, u "java/lang/Object")] 6

/-- java/time/temporal/TemporalAdjuster -/
def k5 : Class := { plain "java/time/temporal/TemporalAdjuster" (some 0) with
  accessFlags := 1537
  interfaces := #[]
  cf := some (fileOf pool5 1 #[] #[] 1537 3 #[] #[])
  fields := #[]
  methods := #[]
  instanceTypes := #[]
  staticTypes := #[]
  resolved := Array.replicate 11 none
  statics := none }

def pool6 : Array CpInfo := pool [(1, .class_ 2), (0, u "java/lang/Comparable"), (0, .class_ 4), (0, u "java/lang/Object")] 7

/-- java/lang/Comparable -/
def k6 : Class := { plain "java/lang/Comparable" (some 0) with
  accessFlags := 1537
  interfaces := #[]
  cf := some (fileOf pool6 1 #[] #[] 1537 3 #[] #[])
  fields := #[]
  methods := #[]
  instanceTypes := #[]
  staticTypes := #[]
  resolved := Array.replicate 12 none
  statics := none }

def pool7 : Array CpInfo := pool [(1, .class_ 2), (0, u "java/io/Serializable"), (0, .class_ 4), (0, u "java/lang/Object")] 2

/-- java/io/Serializable -/
def k7 : Class := { plain "java/io/Serializable" (some 0) with
  accessFlags := 1537
  interfaces := #[]
  cf := some (fileOf pool7 1 #[] #[] 1537 3 #[] #[])
  fields := #[]
  methods := #[]
  instanceTypes := #[]
  staticTypes := #[]
  resolved := Array.replicate 7 none
  statics := none }

def pool8 : Array CpInfo := pool [(20, .methodref 21 22), (0, .class_ 23), (0, .nameAndType 24 25), (0, u "java/time/Instant"), (0, u "create"), (0, u "(JI)Ljava/time/Instant;"), (3, .class_ 31), (1, u "java/lang/Math"), (0, u "floorDiv"), (0, u "(JJ)J"), (0, .methodref 29 35), (0, .nameAndType 36 33), (0, u "addExact"), (2, u "floorMod"), (0, .methodref 29 41), (0, .nameAndType 32 42), (0, u "(JI)J"), (0, .methodref 29 44), (0, .nameAndType 39 45), (0, u "(JI)I"), (0, .integer 1000000), (30, .nameAndType 78 79), (0, u "<init>"), (0, u "()V"), (43, u "EPOCH"), (0, u "Ljava/time/Instant;"), (0, .long 18415187059542332416), (1, .long 31556889864403199), (6, .methodref 21 135), (0, .nameAndType 78 136), (0, u "(JI)V"), (0, .methodref 138 77), (0, .class_ 139), (0, u "java/lang/Object"), (0, .fieldref 21 141), (0, .nameAndType 142 143), (0, u "seconds"), (0, u "J"), (0, .fieldref 21 145), (0, .nameAndType 146 147), (0, u "nanos"), (0, u "I"), (28, .class_ 178), (1, u "java/time/temporal/Temporal"), (3, .class_ 184), (1, u "java/time/Instant$1"), (23, .class_ 210), (1, u "java/time/temporal/TemporalAdjuster"), (21, u "()J"), (14, u "(J)Ljava/time/Instant;"), (22, .methodref 29 271), (0, .nameAndType 272 42), (0, u "multiplyExact"), (150, u "MIN"), (4, u "MAX"), (0, .class_ 430), (0, u "java/lang/Comparable"), (0, .class_ 432), (0, u "java/io/Serializable"), (0, u "MIN_SECOND"), (1, u "MAX_SECOND"), (0, u "serialVersionUID"), (12, u "ofEpochMilli"), (70, u "toEpochMilli")] 58

def k8c0 : Code := { maxStack := 4, maxLocals := 5, code := jdk_2320_method_5_code, exceptionTable := #[], attributes := #[] }
def k8m0 : Method := { name := "ofEpochMilli", desc := "(J)Ljava/time/Instant;", sig := { parameters := [.long], returnType := some (.object "java/time/Instant") }, accessFlags := 9, code := some k8c0 }
def k8c1 : Code := { maxStack := 5, maxLocals := 3, code := jdk_2320_method_8_code, exceptionTable := #[], attributes := #[] }
def k8m1 : Method := { name := "create", desc := "(JI)Ljava/time/Instant;", sig := { parameters := [.long, .int], returnType := some (.object "java/time/Instant") }, accessFlags := 10, code := some k8c1 }
def k8c2 : Code := { maxStack := 3, maxLocals := 4, code := jdk_2320_method_9_code, exceptionTable := #[], attributes := #[] }
def k8m2 : Method := { name := "<init>", desc := "(JI)V", sig := { parameters := [.long, .int], returnType := none }, accessFlags := 2, code := some k8c2 }
def k8c3 : Code := { maxStack := 4, maxLocals := 5, code := jdk_2320_method_40_code, exceptionTable := #[], attributes := #[] }
def k8m3 : Method := { name := "toEpochMilli", desc := "()J", sig := { parameters := [], returnType := some .long }, accessFlags := 1, code := some k8c3 }
/-- java/time/Instant -/
def k8 : Class := { plain "java/time/Instant" (some 0) with
  accessFlags := 49
  interfaces := #[4, 5, 6, 7]
  cf := some (fileOf pool8 21 #[.nestMembers #[182]] #[{ accessFlags := 9, nameIndex := 449, descriptorIndex := 247, attributes := #[] }, { accessFlags := 10, nameIndex := 24, descriptorIndex := 25, attributes := #[] }, { accessFlags := 2, nameIndex := 78, descriptorIndex := 136, attributes := #[] }, { accessFlags := 1, nameIndex := 520, descriptorIndex := 232, attributes := #[] }] 49 138 #[176, 208, 429, 431] #[{ accessFlags := 25, nameIndex := 123, descriptorIndex := 124, attributes := #[] }, { accessFlags := 26, nameIndex := 433, descriptorIndex := 143, attributes := #[] }, { accessFlags := 26, nameIndex := 435, descriptorIndex := 143, attributes := #[] }, { accessFlags := 25, nameIndex := 423, descriptorIndex := 124, attributes := #[] }, { accessFlags := 25, nameIndex := 428, descriptorIndex := 124, attributes := #[] }, { accessFlags := 26, nameIndex := 436, descriptorIndex := 143, attributes := #[] }, { accessFlags := 18, nameIndex := 142, descriptorIndex := 143, attributes := #[] }, { accessFlags := 18, nameIndex := 146, descriptorIndex := 147, attributes := #[] }])
  fields := #[{ name := "EPOCH", type := (.object "java/time/Instant"), accessFlags := 25, slot := 0, constantValue := 0 }, { name := "MIN_SECOND", type := .long, accessFlags := 26, slot := 1, constantValue := 0 }, { name := "MAX_SECOND", type := .long, accessFlags := 26, slot := 2, constantValue := 0 }, { name := "MIN", type := (.object "java/time/Instant"), accessFlags := 25, slot := 3, constantValue := 0 }, { name := "MAX", type := (.object "java/time/Instant"), accessFlags := 25, slot := 4, constantValue := 0 }, { name := "serialVersionUID", type := .long, accessFlags := 26, slot := 5, constantValue := 0 }, { name := "seconds", type := .long, accessFlags := 18, slot := 0, constantValue := 0 }, { name := "nanos", type := .int, accessFlags := 18, slot := 1, constantValue := 0 }]
  methods := #[k8m0, k8m1, k8m2, k8m3]
  instanceTypes := #[.long, .int]
  staticTypes := #[(.object "java/time/Instant"), .long, .long, (.object "java/time/Instant"), (.object "java/time/Instant"), .long]
  resolved := Array.replicate 579 none
  statics := none }

def pool9 : Array CpInfo := pool [(1, .class_ 2), (0, u "java/lang/Math"), (1, .class_ 6), (1, u "java/lang/Object"), (0, u "<init>"), (0, u "()V"), (89, .class_ 100), (1, u "java/lang/Math$RandomNumberGeneratorHolder"), (17, .methodref 1 119), (0, .nameAndType 120 121), (0, u "multiplyExact"), (0, u "(JJ)J"), (0, .methodref 1 123), (0, .nameAndType 124 125), (0, u "abs"), (0, u "(J)J"), (2, .long 9223372036854775808), (14, .methodref 1 144), (0, .nameAndType 145 121), (0, u "floorDiv"), (0, .methodref 1 147), (0, .nameAndType 148 121), (0, u "floorMod"), (23, u "negativeZeroFloatBits"), (0, u "J"), (2, u "negativeZeroDoubleBits"), (68, u "$assertionsDisabled"), (0, u "Z"), (91, u "twoToTheDoubleScaleDown"), (0, u "D"), (4, u "twoToTheDoubleScaleUp"), (9, u "E"), (3, u "PI"), (2, u "TAU"), (2, u "DEGREES_TO_RADIANS"), (0, u "RADIANS_TO_DEGREES"), (27, u "addExact"), (1, u "(JI)J"), (24, u "(JI)I")] 39

def k9m0 : Method := { name := "<init>", desc := "()V", sig := { parameters := [], returnType := none }, accessFlags := 2, code := none }
def k9c1 : Code := { maxStack := 6, maxLocals := 6, code := jdk_29_method_25_code, exceptionTable := #[], attributes := #[] }
def k9m1 : Method := { name := "addExact", desc := "(JJ)J", sig := { parameters := [.long, .long], returnType := some .long }, accessFlags := 9, code := some k9c1 }
def k9c2 : Code := { maxStack := 4, maxLocals := 3, code := jdk_29_method_29_code, exceptionTable := #[], attributes := #[] }
def k9m2 : Method := { name := "multiplyExact", desc := "(JI)J", sig := { parameters := [.long, .int], returnType := some .long }, accessFlags := 9, code := some k9c2 }
def k9c3 : Code := { maxStack := 4, maxLocals := 10, code := jdk_29_method_30_code, exceptionTable := #[], attributes := #[] }
def k9m3 : Method := { name := "multiplyExact", desc := "(JJ)J", sig := { parameters := [.long, .long], returnType := some .long }, accessFlags := 9, code := some k9c3 }
def k9c4 : Code := { maxStack := 4, maxLocals := 3, code := jdk_29_method_48_code, exceptionTable := #[], attributes := #[] }
def k9m4 : Method := { name := "floorDiv", desc := "(JI)J", sig := { parameters := [.long, .int], returnType := some .long }, accessFlags := 9, code := some k9c4 }
def k9c5 : Code := { maxStack := 4, maxLocals := 6, code := jdk_29_method_49_code, exceptionTable := #[], attributes := #[] }
def k9m5 : Method := { name := "floorDiv", desc := "(JJ)J", sig := { parameters := [.long, .long], returnType := some .long }, accessFlags := 9, code := some k9c5 }
def k9c6 : Code := { maxStack := 4, maxLocals := 3, code := jdk_29_method_51_code, exceptionTable := #[], attributes := #[] }
def k9m6 : Method := { name := "floorMod", desc := "(JI)I", sig := { parameters := [.long, .int], returnType := some .int }, accessFlags := 9, code := some k9c6 }
def k9c7 : Code := { maxStack := 4, maxLocals := 6, code := jdk_29_method_52_code, exceptionTable := #[], attributes := #[] }
def k9m7 : Method := { name := "floorMod", desc := "(JJ)J", sig := { parameters := [.long, .long], returnType := some .long }, accessFlags := 9, code := some k9c7 }
def k9c8 : Code := { maxStack := 4, maxLocals := 2, code := jdk_29_method_61_code, exceptionTable := #[], attributes := #[] }
def k9m8 : Method := { name := "abs", desc := "(J)J", sig := { parameters := [.long], returnType := some .long }, accessFlags := 9, code := some k9c8 }
/-- java/lang/Math -/
def k9 : Class := { plain "java/lang/Math" (some 0) with
  accessFlags := 49
  interfaces := #[]
  cf := some (fileOf pool9 1 #[.nestMembers #[98]] #[{ accessFlags := 2, nameIndex := 7, descriptorIndex := 8, attributes := #[] }, { accessFlags := 9, nameIndex := 393, descriptorIndex := 121, attributes := #[] }, { accessFlags := 9, nameIndex := 120, descriptorIndex := 395, attributes := #[] }, { accessFlags := 9, nameIndex := 120, descriptorIndex := 121, attributes := #[] }, { accessFlags := 9, nameIndex := 145, descriptorIndex := 395, attributes := #[] }, { accessFlags := 9, nameIndex := 145, descriptorIndex := 121, attributes := #[] }, { accessFlags := 9, nameIndex := 148, descriptorIndex := 420, attributes := #[] }, { accessFlags := 9, nameIndex := 148, descriptorIndex := 121, attributes := #[] }, { accessFlags := 9, nameIndex := 124, descriptorIndex := 125, attributes := #[] }] 49 4 #[] #[{ accessFlags := 25, nameIndex := 354, descriptorIndex := 339, attributes := #[] }, { accessFlags := 25, nameIndex := 358, descriptorIndex := 339, attributes := #[] }, { accessFlags := 25, nameIndex := 361, descriptorIndex := 339, attributes := #[] }, { accessFlags := 26, nameIndex := 364, descriptorIndex := 339, attributes := #[] }, { accessFlags := 26, nameIndex := 365, descriptorIndex := 339, attributes := #[] }, { accessFlags := 26, nameIndex := 172, descriptorIndex := 173, attributes := #[] }, { accessFlags := 26, nameIndex := 176, descriptorIndex := 173, attributes := #[] }, { accessFlags := 8, nameIndex := 344, descriptorIndex := 339, attributes := #[] }, { accessFlags := 8, nameIndex := 338, descriptorIndex := 339, attributes := #[] }, { accessFlags := 4120, nameIndex := 245, descriptorIndex := 246, attributes := #[] }])
  fields := #[{ name := "E", type := .double, accessFlags := 25, slot := 0, constantValue := 0 }, { name := "PI", type := .double, accessFlags := 25, slot := 1, constantValue := 0 }, { name := "TAU", type := .double, accessFlags := 25, slot := 2, constantValue := 0 }, { name := "DEGREES_TO_RADIANS", type := .double, accessFlags := 26, slot := 3, constantValue := 0 }, { name := "RADIANS_TO_DEGREES", type := .double, accessFlags := 26, slot := 4, constantValue := 0 }, { name := "negativeZeroFloatBits", type := .long, accessFlags := 26, slot := 5, constantValue := 0 }, { name := "negativeZeroDoubleBits", type := .long, accessFlags := 26, slot := 6, constantValue := 0 }, { name := "twoToTheDoubleScaleUp", type := .double, accessFlags := 8, slot := 7, constantValue := 0 }, { name := "twoToTheDoubleScaleDown", type := .double, accessFlags := 8, slot := 8, constantValue := 0 }, { name := "$assertionsDisabled", type := .boolean, accessFlags := 4120, slot := 9, constantValue := 0 }]
  methods := #[k9m0, k9m1, k9m2, k9m3, k9m4, k9m5, k9m6, k9m7, k9m8]
  instanceTypes := #[]
  staticTypes := #[.double, .double, .double, .double, .double, .long, .long, .double, .double, .boolean]
  resolved := Array.replicate 460 none
  statics := none }

def pool10 : Array CpInfo := pool [(1, u "java/lang/Cloneable"), (0, .class_ 1), (0, u "java/lang/Object"), (0, .class_ 3)] 3

/-- java/lang/Cloneable -/
def k10 : Class := { plain "java/lang/Cloneable" (some 0) with
  accessFlags := 1537
  interfaces := #[]
  cf := some (fileOf pool10 2 #[] #[] 1537 4 #[] #[])
  fields := #[]
  methods := #[]
  instanceTypes := #[]
  staticTypes := #[]
  resolved := Array.replicate 8 none
  statics := none }

/-- the primitive byte -/
def k11 : Class := { plain "byte" none with kind := .primitive 'B', accessFlags := 0x411 }
/-- [B -/
def k12 : Class := { plain "[B" (some 0) with kind := .array 11 .byte, interfaces := #[10, 7], accessFlags := 1041 }

/-- the primitive int -/
def k13 : Class := { plain "int" none with kind := .primitive 'I', accessFlags := 0x411 }
/-- [I -/
def k14 : Class := { plain "[I" (some 0) with kind := .array 13 .int, interfaces := #[10, 7], accessFlags := 1041 }

def heap : Heap := #[]
def classes : Array Class := #[k0, k1, k2, k3, k4, k5, k6, k7, k8, k9, k10, k11, k12, k13, k14]
def interned : List (Array UInt16 × Addr) := []
def slotsUsed : Nat := 0
def theMethod : MethodId := ⟨1, 1⟩
def args0 : Array Value := #[.long 5, .int 6]
def aboutOver (below : List Frame) : State where
  vm := { classes := classes, interned := interned.toArray }
  heap := heap
  slotsUsed := slotsUsed
  threads := #[{ frames := .invoking theMethod args0 :: below }]
def below0 : List Frame := [.native { method := ⟨0, 0⟩, args := #[] }]
def about1 : State := aboutOver below0
def p0 : Program := .bare "" "" ""
def e0 : Env := launch0.env 0 0 0
theorem w_frames : about1.frames = Frame.invoking theMethod args0 :: below0 := rfl
set_option maxRecDepth 65536 in
theorem w_args : argsFit about1.vm theMethod args0 = true := by decide +kernel
set_option maxRecDepth 65536 in
theorem w_heap : heapFits about1 = true := by decide +kernel
set_option maxRecDepth 65536 in
theorem w_runnable : about1.curStatus? = some .runnable := by decide +kernel
set_option maxRecDepth 65536 in
theorem w_alone : about1.alone = true := by decide +kernel
set_option maxRecDepth 65536 in
theorem w_named : about1.methodNamed? x = some theMethod := by decide +kernel
set_option maxRecDepth 65536 in
theorem w_hears : about1.hears theMethod below0 = true := by decide +kernel
set_option maxRecDepth 65536 in
theorem w_ripe : about1.ripe theMethod args0 below0 = true := by decide +kernel
theorem w_running : about1.status = .running := rfl
set_option maxRecDepth 65536 in
theorem w_room : about1.hasRoom e0.platform room_1 = true :=
  launch0.hasRoom_least _ room_1 (by decide +kernel) (by decide +kernel) (by decide +kernel) (by decide +kernel) (by decide +kernel) (by decide +kernel)
theorem allAtoms_all (ts : List Jvm.Cond) (a : Array Jvm.Value) (st : Jvm.State) : (allAtoms ts).before a st = ts.all (fun c => c.before a st) := by
  induction ts with
  | nil => rfl
  | cons c t ih =>
    show (Jvm.Cond.and c (allAtoms t)).before a st = _
    rw [Jvm.Cond.before_and, ih, List.all_cons]
def words1 : List Jvm.Cond := Jvm.Cond.code x code maxLocals ret :: tables_1
/-- a 'code' word, met by the world's own term for the bytes: nothing is compared byte by byte -/
theorem code_word {y : MethodName} {bytes : ByteArray} {mx : Nat} {rt : Option FieldType} {a : Array Value} {s : State} {m : MethodId} {meth : Method} {c : Code} (h1 : s.methodNamed? y = some m) (h2 : s.vm.method? m = some meth) (h3 : meth.code = some c) (h4 : c.code = bytes)
    (h5 : (c.maxLocals == mx && c.exceptionTable.isEmpty && decide (c.maxStack ≤ mostOperands) && decide (meth.sig.returnType = rt) && !meth.locks && decide (parseMethodDescriptor y.desc = some meth.sig)) = true) : (Jvm.Cond.code y bytes mx rt).before a s = true := by
  simp only [Bool.and_eq_true, beq_iff_eq, Bool.not_eq_true', decide_eq_true_eq] at h5
  obtain ⟨⟨⟨⟨⟨g1, g2⟩, g3⟩, g4⟩, g5⟩, g6⟩ := h5
  simp [Cond.before, Cond.holds, Cond.value, h1, h2, h3, h4, g1, g2, g3, g4, g5, g6]
def isCode : Jvm.Cond → Bool
  | .code _ _ _ _ => true
  | _ => false
theorem all_split {L : List Jvm.Cond} {P : Jvm.Cond → Bool} (h1 : L.all (fun c => isCode c || P c) = true) (h2 : ∀ c ∈ L.filter isCode, P c = true) : L.all P = true := by
  refine List.all_eq_true.mpr fun c hc => ?_
  have h := List.all_eq_true.mp h1 c hc
  rcases Bool.eq_false_or_eq_true (isCode c) with hi | hi
  · exact h2 c (List.mem_filter.mpr ⟨hc, hi⟩)
  · simpa [hi] using h
set_option maxRecDepth 65536 in
theorem w_c0 : (Jvm.Cond.code x code maxLocals ret).before args0 about1 = true := code_word (m := ⟨1, 1⟩) (meth := k1m1) (c := k1c1) (by decide +kernel) rfl rfl rfl (by decide +kernel)
set_option maxRecDepth 65536 in
theorem w_c1 : (Jvm.Cond.code ({ cls := "com/example/sift140/sift140/model/TweetIds", name := "createdAt", desc := "(J)Ljava/time/Instant;" } : Jvm.MethodName) prog_53_method_3_code (2 : Nat) (Option.some (Jvm.ClassFile.FieldType.object "java/time/Instant"))).before args0 about1 = true := code_word (m := ⟨2, 1⟩) (meth := k2m1) (c := k2c1) (by decide +kernel) rfl rfl rfl (by decide +kernel)
set_option maxRecDepth 65536 in
theorem w_c2 : (Jvm.Cond.code ({ cls := "java/time/Instant", name := "ofEpochMilli", desc := "(J)Ljava/time/Instant;" } : Jvm.MethodName) jdk_2320_method_5_code (5 : Nat) (Option.some (Jvm.ClassFile.FieldType.object "java/time/Instant"))).before args0 about1 = true := code_word (m := ⟨8, 0⟩) (meth := k8m0) (c := k8c0) (by decide +kernel) rfl rfl rfl (by decide +kernel)
set_option maxRecDepth 65536 in
theorem w_c3 : (Jvm.Cond.code ({ cls := "java/lang/Math", name := "floorDiv", desc := "(JI)J" } : Jvm.MethodName) jdk_29_method_48_code (3 : Nat) (Option.some Jvm.ClassFile.FieldType.long)).before args0 about1 = true := code_word (m := ⟨9, 4⟩) (meth := k9m4) (c := k9c4) (by decide +kernel) rfl rfl rfl (by decide +kernel)
set_option maxRecDepth 65536 in
theorem w_c4 : (Jvm.Cond.code ({ cls := "java/lang/Math", name := "floorDiv", desc := "(JJ)J" } : Jvm.MethodName) jdk_29_method_49_code (6 : Nat) (Option.some Jvm.ClassFile.FieldType.long)).before args0 about1 = true := code_word (m := ⟨9, 5⟩) (meth := k9m5) (c := k9c5) (by decide +kernel) rfl rfl rfl (by decide +kernel)
set_option maxRecDepth 65536 in
theorem w_c5 : (Jvm.Cond.code ({ cls := "java/lang/Math", name := "floorMod", desc := "(JI)I" } : Jvm.MethodName) jdk_29_method_51_code (3 : Nat) (Option.some Jvm.ClassFile.FieldType.int)).before args0 about1 = true := code_word (m := ⟨9, 6⟩) (meth := k9m6) (c := k9c6) (by decide +kernel) rfl rfl rfl (by decide +kernel)
set_option maxRecDepth 65536 in
theorem w_c6 : (Jvm.Cond.code ({ cls := "java/lang/Math", name := "floorMod", desc := "(JJ)J" } : Jvm.MethodName) jdk_29_method_52_code (6 : Nat) (Option.some Jvm.ClassFile.FieldType.long)).before args0 about1 = true := code_word (m := ⟨9, 7⟩) (meth := k9m7) (c := k9c7) (by decide +kernel) rfl rfl rfl (by decide +kernel)
set_option maxRecDepth 65536 in
theorem w_c7 : (Jvm.Cond.code ({ cls := "java/time/Instant", name := "create", desc := "(JI)Ljava/time/Instant;" } : Jvm.MethodName) jdk_2320_method_8_code (3 : Nat) (Option.some (Jvm.ClassFile.FieldType.object "java/time/Instant"))).before args0 about1 = true := code_word (m := ⟨8, 1⟩) (meth := k8m1) (c := k8c1) (by decide +kernel) rfl rfl rfl (by decide +kernel)
set_option maxRecDepth 65536 in
theorem w_c8 : (Jvm.Cond.code ({ cls := "java/time/Instant", name := "<init>", desc := "(JI)V" } : Jvm.MethodName) jdk_2320_method_9_code (4 : Nat) (Option.none : Option Jvm.ClassFile.FieldType)).before args0 about1 = true := code_word (m := ⟨8, 2⟩) (meth := k8m2) (c := k8c2) (by decide +kernel) rfl rfl rfl (by decide +kernel)
set_option maxRecDepth 65536 in
theorem w_c9 : (Jvm.Cond.code ({ cls := "java/lang/Object", name := "<init>", desc := "()V" } : Jvm.MethodName) object_method_1_code (1 : Nat) (Option.none : Option Jvm.ClassFile.FieldType)).before args0 about1 = true := code_word (m := ⟨0, 0⟩) (meth := k0m0) (c := k0c0) (by decide +kernel) rfl rfl rfl (by decide +kernel)
set_option maxRecDepth 65536 in
theorem w_c10 : (Jvm.Cond.code ({ cls := "java/time/Instant", name := "toEpochMilli", desc := "()J" } : Jvm.MethodName) jdk_2320_method_40_code (5 : Nat) (Option.some Jvm.ClassFile.FieldType.long)).before args0 about1 = true := code_word (m := ⟨8, 3⟩) (meth := k8m3) (c := k8c3) (by decide +kernel) rfl rfl rfl (by decide +kernel)
set_option maxRecDepth 65536 in
theorem w_c11 : (Jvm.Cond.code ({ cls := "java/lang/Math", name := "multiplyExact", desc := "(JI)J" } : Jvm.MethodName) jdk_29_method_29_code (3 : Nat) (Option.some Jvm.ClassFile.FieldType.long)).before args0 about1 = true := code_word (m := ⟨9, 2⟩) (meth := k9m2) (c := k9c2) (by decide +kernel) rfl rfl rfl (by decide +kernel)
set_option maxRecDepth 65536 in
theorem w_c12 : (Jvm.Cond.code ({ cls := "java/lang/Math", name := "multiplyExact", desc := "(JJ)J" } : Jvm.MethodName) jdk_29_method_30_code (10 : Nat) (Option.some Jvm.ClassFile.FieldType.long)).before args0 about1 = true := code_word (m := ⟨9, 3⟩) (meth := k9m3) (c := k9c3) (by decide +kernel) rfl rfl rfl (by decide +kernel)
set_option maxRecDepth 65536 in
theorem w_c13 : (Jvm.Cond.code ({ cls := "java/lang/Math", name := "abs", desc := "(J)J" } : Jvm.MethodName) jdk_29_method_61_code (2 : Nat) (Option.some Jvm.ClassFile.FieldType.long)).before args0 about1 = true := code_word (m := ⟨9, 8⟩) (meth := k9m8) (c := k9c8) (by decide +kernel) rfl rfl rfl (by decide +kernel)
set_option maxRecDepth 65536 in
theorem w_c14 : (Jvm.Cond.code ({ cls := "java/lang/Math", name := "addExact", desc := "(JJ)J" } : Jvm.MethodName) jdk_29_method_25_code (6 : Nat) (Option.some Jvm.ClassFile.FieldType.long)).before args0 about1 = true := code_word (m := ⟨9, 1⟩) (meth := k9m1) (c := k9c1) (by decide +kernel) rfl rfl rfl (by decide +kernel)
def codes1 : List Jvm.Cond := [Jvm.Cond.code x code maxLocals ret, Jvm.Cond.code ({ cls := "com/example/sift140/sift140/model/TweetIds", name := "createdAt", desc := "(J)Ljava/time/Instant;" } : Jvm.MethodName) prog_53_method_3_code (2 : Nat) (Option.some (Jvm.ClassFile.FieldType.object "java/time/Instant")), Jvm.Cond.code ({ cls := "java/time/Instant", name := "ofEpochMilli", desc := "(J)Ljava/time/Instant;" } : Jvm.MethodName) jdk_2320_method_5_code (5 : Nat) (Option.some (Jvm.ClassFile.FieldType.object "java/time/Instant")), Jvm.Cond.code ({ cls := "java/lang/Math", name := "floorDiv", desc := "(JI)J" } : Jvm.MethodName) jdk_29_method_48_code (3 : Nat) (Option.some Jvm.ClassFile.FieldType.long), Jvm.Cond.code ({ cls := "java/lang/Math", name := "floorDiv", desc := "(JJ)J" } : Jvm.MethodName) jdk_29_method_49_code (6 : Nat) (Option.some Jvm.ClassFile.FieldType.long), Jvm.Cond.code ({ cls := "java/lang/Math", name := "floorMod", desc := "(JI)I" } : Jvm.MethodName) jdk_29_method_51_code (3 : Nat) (Option.some Jvm.ClassFile.FieldType.int), Jvm.Cond.code ({ cls := "java/lang/Math", name := "floorMod", desc := "(JJ)J" } : Jvm.MethodName) jdk_29_method_52_code (6 : Nat) (Option.some Jvm.ClassFile.FieldType.long), Jvm.Cond.code ({ cls := "java/time/Instant", name := "create", desc := "(JI)Ljava/time/Instant;" } : Jvm.MethodName) jdk_2320_method_8_code (3 : Nat) (Option.some (Jvm.ClassFile.FieldType.object "java/time/Instant")), Jvm.Cond.code ({ cls := "java/time/Instant", name := "<init>", desc := "(JI)V" } : Jvm.MethodName) jdk_2320_method_9_code (4 : Nat) (Option.none : Option Jvm.ClassFile.FieldType), Jvm.Cond.code ({ cls := "java/lang/Object", name := "<init>", desc := "()V" } : Jvm.MethodName) object_method_1_code (1 : Nat) (Option.none : Option Jvm.ClassFile.FieldType), Jvm.Cond.code ({ cls := "java/time/Instant", name := "toEpochMilli", desc := "()J" } : Jvm.MethodName) jdk_2320_method_40_code (5 : Nat) (Option.some Jvm.ClassFile.FieldType.long), Jvm.Cond.code ({ cls := "java/lang/Math", name := "multiplyExact", desc := "(JI)J" } : Jvm.MethodName) jdk_29_method_29_code (3 : Nat) (Option.some Jvm.ClassFile.FieldType.long), Jvm.Cond.code ({ cls := "java/lang/Math", name := "multiplyExact", desc := "(JJ)J" } : Jvm.MethodName) jdk_29_method_30_code (10 : Nat) (Option.some Jvm.ClassFile.FieldType.long), Jvm.Cond.code ({ cls := "java/lang/Math", name := "abs", desc := "(J)J" } : Jvm.MethodName) jdk_29_method_61_code (2 : Nat) (Option.some Jvm.ClassFile.FieldType.long), Jvm.Cond.code ({ cls := "java/lang/Math", name := "addExact", desc := "(JJ)J" } : Jvm.MethodName) jdk_29_method_25_code (6 : Nat) (Option.some Jvm.ClassFile.FieldType.long)]
set_option maxRecDepth 65536 in
theorem codes_eq : words1.filter isCode = codes1 := rfl
theorem w_codes : ∀ c ∈ words1.filter isCode, c.before args0 about1 = true := by
  rw [codes_eq]
  intro c hc
  simp only [codes1, List.mem_cons, List.not_mem_nil, or_false] at hc
  rcases hc with rfl | rfl | rfl | rfl | rfl | rfl | rfl | rfl | rfl | rfl | rfl | rfl | rfl | rfl | rfl
  · exact w_c0
  · exact w_c1
  · exact w_c2
  · exact w_c3
  · exact w_c4
  · exact w_c5
  · exact w_c6
  · exact w_c7
  · exact w_c8
  · exact w_c9
  · exact w_c10
  · exact w_c11
  · exact w_c12
  · exact w_c13
  · exact w_c14
set_option maxRecDepth 65536 in
theorem w_t1 : (words1.take 24).all (fun c => isCode c || c.before args0 about1) = true := by decide +kernel
set_option maxRecDepth 65536 in
theorem w_t2 : ((words1.drop 24).take 24).all (fun c => isCode c || c.before args0 about1) = true := by decide +kernel
set_option maxRecDepth 65536 in
theorem w_t3 : ((words1.drop 24).drop 24).all (fun c => isCode c || c.before args0 about1) = true := by decide +kernel
theorem w_tables : (allAtoms (Jvm.Cond.code x code maxLocals ret :: tables_1)).before args0 about1 = true := by
  rw [allAtoms_all]
  show words1.all (fun c => c.before args0 about1) = true
  refine all_split ?_ w_codes
  rw [← List.take_append_drop 24 words1, List.all_append, w_t1, ← List.take_append_drop 24 (words1.drop 24), List.all_append, w_t2, w_t3]
  rfl
set_option maxRecDepth 65536 in
theorem w_case : (Jvm.Cond.and given_1 narrow_1).before args0 about1 = true := by decide +kernel
theorem w_applies : (headSpec (Jvm.Cond.code x code maxLocals ret :: tables_1) room_1).applies x e0.platform about1 = true :=
  (Spec.applies_iff w_frames).mpr ⟨w_running, w_runnable, w_alone, w_named, w_hears, w_ripe, w_room, w_tables⟩
theorem atStart : AtStart classFile x code maxLocals ret World_1 tables_1 room_1 Calls_1 rest_1 Pre_1 launch0 p0 e0 about1 theMethod args0 below0 :=
  ⟨lists_1, trivial, launch0.admits_env _ _ _, launch0.least_env, fairChoices_fair.cas, fairChoices_fair.clock, w_frames, w_args, w_heap, w_applies, trivial, trivial, w_case⟩
end start1
theorem witness_1 : WitnessClaimed_1 := ⟨start1.p0, start1.e0, start1.about1, start1.theMethod, start1.args0, start1.below0, start1.atStart⟩
end Jvm.Pilot.@@N@@
