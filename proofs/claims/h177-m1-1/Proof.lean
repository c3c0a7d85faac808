import JvmDerived
import JvmDerived.Pilot.@@N@@Statement
import JvmDerived.Pilot.@@N@@Code
set_option linter.unusedVariables false
set_option linter.unusedSimpArgs false
@@BLOCK:NumsL.lean.txt@@
namespace Jvm.RoadKit
open Sem ClassFile Op Lib Jvm.Stand Jvm.Free Jvm.LawKit
section New
variable {p : Program} {l : Launch} {e : Env} {R : Room} {s : State} {m : MethodId} {args : Array Value} {below : List Frame} {meth : Method} {c : Code} {T : State} {locs : List Loc} {cells slots : Nat}
theorem retI (X : Stand p l e R s m args below meth c T locs cells slots) (hx : p.tables.exec = Jvm.exec) {pc : Nat} {Ls : Array Slot} {z : Int32} {rest : List Value} (hret : meth.sig.returnType = some .int) (hd : decode c.code pc = .ok (.ireturn, 1)) {fs : List Frame}
    (hl : ∀ (f : JFrame) (acts : List Action), f.method = m → f.locked = none → f.entered = [] → (doReturn e (T.setTop f) acts (some (.int z))).1 = T.setFrames fs) : Steps p.tables e below (T.setTop (mkF m pc Ls (.int z :: rest))) (T.setFrames fs) := by
  have hm' : T.vm.method? m = some meth := X.method'
  have hn : narrow .int (.int z) = .int z := rfl
  show Steps p.tables e below (T.setTop { method := m, pc := pc, locals := Ls, stack := _ :: rest, locked := none }) _
  jvm_step X.here [X.here.top, hx, hd, hm', hret, hn]
  first | (intro acts; rw [hl _ acts rfl rfl rfl]) | rw [hl _ _ rfl rfl rfl]
  exact Steps.refl _
end New
end Jvm.RoadKit
namespace Jvm.Pilot.@@N@@
open Jvm Jvm.ClassFile Sem Op Lib Jvm.Free Jvm.Stand Jvm.LawKit Jvm.RoadKit Bundle Jvm.Pilot.@@N@@.Jvm.D
/-- from F on the run comes to the method's end, and K holds there -/
def own_Go (tb : Tables) (e : Env) (below : List Frame) (F : State) (K : Outcome → State → Prop) : Prop := ∃ t o, Steps tb e below F t ∧ t.status = .running ∧ Ended t below o ∧ K o t
theorem own_via {tb : Tables} {e : Env} {below : List Frame} {F G : State} {K : Outcome → State → Prop} (h : ∀ t, Steps tb e below G t → Steps tb e below F t) (k : own_Go tb e below G K) : own_Go tb e below F K := by
  obtain ⟨t, o, h1, h2⟩ := k
  exact ⟨t, o, h t h1, h2⟩
/-- what is asked at the end: it has returned, Q holds of the value, the heap and what was written -/
def own_K (s : State) (Q : Option Value → Heap → List Loc → Prop) (kc ks : Nat) (o : Outcome) (t : State) : Prop := ∃ v L, o = .returned v ∧ Q v t.heap L ∧ FrameEnd s o t L kc ks
/-- what a walk knows of its method all along -/
def own_C (p : Program) (s : State) (m : MethodId) (meth : Method) (c : Code) (Z : State) (a0 : Array Value) (bytes : ByteArray) (ml : Nat) (cls : String) (rt : Option FieldType) (nme : String) : Prop :=
  p.tables.exec = Jvm.exec ∧ Z.Warmed39 s.vm ∧ (∀ d ∈ tables_1, d.before a0 Z = true) ∧ c.code = bytes ∧ c.maxLocals = ml ∧ s.vm.findClass cls = some m.cls ∧ meth.sig.returnType = rt ∧ meth.locks = false ∧ meth.name = nme
theorem own_fin {p : Program} {l : Launch} {e : Env} {R : Room} {s : State} {m : MethodId} {args : Array Value} {below : List Frame} {meth : Method} {c : Code} {T : State} {locs : List Loc} {cells slots : Nat} (X : Stand p l e R s m args below meth c T locs cells slots) {F : State} {h : Heap} (eh : T.heap = h) {v : Option Value} {Q : Option Value → Heap → List Loc → Prop} {kc ks : Nat} (hv : meth.sig.returnType = none → v = none) (hlk : meth.locks = false)
    (hstep : ∀ fs, (∀ (f : JFrame) (acts : List Action), f.method = m → f.locked = none → f.entered = [] → (doReturn e (T.setTop f) acts v).1 = T.setFrames fs) → Steps p.tables e below F (T.setFrames fs)) (q : Q v h locs) (hc : cells ≤ kc) (hs : slots ≤ ks) : own_Go p.tables e below F (own_K s Q kc ks) := by
  obtain ⟨fs, hr, hrun, hended, hW, hsame⟩ := X.leave (v := v) hv hlk
  subst eh
  exact ⟨_, _, hstep fs hr, hrun, hended, _, _, rfl, q, ⟨_, rfl⟩, hW, hsame.mono hc hs⟩
theorem own_len {p : Program} {l : Launch} {e : Env} {R : Room} {s : State} {m : MethodId} {args : Array Value} {below : List Frame} {meth : Method} {c : Code} {T : State} {locs : List Loc} {cells slots : Nat} {Z : State} {h : Heap} (X : Stand p l e R s m args below meth c T locs cells slots) (hx : p.tables.exec = Jvm.exec) (hZ : Z.Warmed39 s.vm) (eT : T.heap = h) {a : Addr} {cl : Cell} {ty : FieldType} {n : Int32} (A : Arr Z h a cl ty) (S : cl.slots.size = n.toNatClampNeg) (N : ¬ n < 0)
    {g : JFrame} (hg : g.method = m) {rest : List Value} (hs : g.stack = .ref a :: rest) (hd : decode c.code g.pc = .ok (.arraylength, 1)) {t : State} (k : Steps p.tables e below (T.setTop { g with pc := g.pc + 1, stack := .int n :: rest }) t) : Steps p.tables e below (T.setTop g) t := by
  refine X.arraylength hx (by rw [eT]; exact A.1) (State.isArrayOf_alike hZ.alike A.2.1) hg hs hd _ ?_
  rw [len_of S N]
  exact k
def own_sa (x y : Int32) : Int64 := (x / (2 : Int32)).toInt64 + y.toInt64
theorem own_mk (x : Int32) : 0 ≤ (x &&& (2147483647 : Int32)).toInt ∧ (x &&& (2147483647 : Int32)).toInt < 2 ^ 31 := by
  have e : (x &&& (2147483647 : Int32)).toInt = x.toInt % 2 ^ 31 := Jvm.Kit.i32_mask x _ (k := 31) (by decide) (by decide)
  omega
theorem own_nn (x : Int32) : ¬ (x &&& (2147483647 : Int32)) < 0 := by
  have := own_mk x
  rw [Int32.lt_iff_toInt_lt]; have k : (0 : Int32).toInt = 0 := rfl; omega
theorem own_h (x y : Int32) (h : 0 ≤ x.toInt) : (own_sa x y - y.toInt64).toInt = x.toInt / 2 := by
  have e0 : own_sa x y - y.toInt64 = (x / (2 : Int32)).toInt64 := by
    unfold own_sa
    rw [Int64.add_sub_cancel]
  have k : (2 : Int32).toInt = 2 := rfl
  have e1 : (x / (2 : Int32)).toInt = x.toInt.tdiv (2 : Int32).toInt := Jvm.Kit.i32_div (by rw [k]; omega)
  rw [e0, Jvm.Kit.i64_of_i32, e1, k, Int.tdiv_eq_ediv_of_nonneg h]
theorem own_c1 (x y : Int32) (h : 0 ≤ x.toInt) : ¬ (own_sa x y - y.toInt64) < (0 : Int64) := by
  have := own_h x y h
  rw [Int64.lt_iff_toInt_lt]; have k : (0 : Int64).toInt = 0 := rfl; omega
theorem own_d (x y : Int32) (h : 0 ≤ x.toInt ∧ x.toInt < 2 ^ 31) : ((2 : Int64) * (own_sa x y - y.toInt64)).toInt = 2 * (x.toInt / 2) := by
  have := own_h x y h.1
  have k : (2 : Int64).toInt = 2 := rfl
  rw [Jvm.Kit.i64_mul (by rw [k]; omega) (by rw [k]; omega), k, this]
theorem own_c2 (x y : Int32) (h : 0 ≤ x.toInt ∧ x.toInt < 2 ^ 31) : ¬ x.toInt64 < ((2 : Int64) * (own_sa x y - y.toInt64)) := by
  have := own_d x y h; have := Jvm.Kit.i64_of_i32 x
  rw [Int64.lt_iff_toInt_lt]; omega
theorem own_c3 (x y : Int32) (h : 0 ≤ x.toInt ∧ x.toInt < 2 ^ 31) : ¬ (((2 : Int64) * (own_sa x y - y.toInt64)) + (1 : Int64)) < x.toInt64 := by
  have := own_d x y h; have := Jvm.Kit.i64_of_i32 x; have k : (1 : Int64).toInt = 1 := rfl
  rw [Int64.lt_iff_toInt_lt, Jvm.Kit.i64_add (by omega) (by omega)]; omega
def Q2 (Z : State) (o1 : Addr) (h0 : Heap) (n0 : Nat) (v : Option Value) (h : Heap) (L : List Loc) : Prop := v = none ∧ Fr n0 L ∧ h = h0
theorem d2_0 : decode jdk_30_method_1_code 0 = .ok (.aload_n 0, 1) := by decide +kernel
theorem d2_1 : decode jdk_30_method_1_code 1 = .ok (.invokespecial 1, 3) := by decide +kernel
theorem d2_4 : decode jdk_30_method_1_code 4 = .ok (.return_, 1) := by decide +kernel
set_option maxRecDepth 65536 in
set_option maxHeartbeats 40000000 in
theorem b2 {p : Program} {l : Launch} {e : Env} {s : State} {m : MethodId} {args : Array Value} {below : List Frame} {meth : Method} {c : Code} {T0 : State} {locs : List Loc} {Z : State} {a0 : Array Value} {h0 : Heap} {n0 : Nat} (o1 : Addr)
    (C : own_C p s m meth c Z a0 jdk_30_method_1_code 1 "java/lang/Record" none "<init>") (X0 : Stand p l e ({ frames := 1, cells := 0, slots := 0, locals := 12 } : Room) s m args below meth c T0 locs 0 0) (e0 : T0.heap = h0) (Z0 : n0 ≤ h0.size) (N0 : Fr n0 locs) :
    own_Go p.tables e below (T0.setTop (mkF m 0 #[.val (.ref o1)] [])) (own_K s (fun v h L => Q2 Z o1 h0 n0 v h L) ({ frames := 1, cells := 0, slots := 0, locals := 12 } : Room).cells ({ frames := 1, cells := 0, slots := 0, locals := 12 } : Room).slots) := by
  obtain ⟨hx, hZ, hw, hby, hml, hown, hret, hlk, hnm⟩ := C
  refine own_via (G := T0.setTop (mkF m 1 #[.val (.ref o1)] [(.ref o1)])) (fun t k => XS.aloadN X0.here hx rfl (hb hby d2_0) rfl rfl k) ?_
  obtain ⟨T1, X1, e1, st1⟩ := initO X0 hx hZ hown (hw _ (List.mem_of_getElem? (i := 12) rfl)) (hw _ (List.mem_of_getElem? (i := 13) rfl)) (hw _ (List.mem_of_getElem? (i := 14) rfl)) e0 (g := (mkF m 1 #[.val (.ref o1)] [(.ref o1)])) rfl (by rw [hml]; rfl) rfl (hb hby d2_1) (by decide) (W := 0) (by show 2 * 0 + _ ≤ _; exact Nat.le_of_eq rfl) (by decide)
  refine own_via (G := T1.setTop (mkF m 4 #[.val (.ref o1)] [])) (fun t k => st1 t k) ?_
  exact own_fin X1 e1 (v := none) (fun _ => rfl) hlk (fun fs hr => X1.returnOut hx hret (hb hby d2_4) hr) (show ((fun v h L => Q2 Z o1 h0 n0 v h L)) none h0 _ from ⟨rfl, N0, rfl⟩) (by decide) (by decide)
theorem pn_0 : plainName "java/lang/Record" = true := by first | (simp [plainName, overriddenIn]; done) | decide +kernel
theorem ef_2 (m : MethodId) (o1 : Addr) : entryFrame m #[(.ref o1)] 1 = mkF m 0 #[.val (.ref o1)] [] := by first | (simp [entryFrame, mkF, argsToLocals, Value.category, maxLocals]; done) | rfl
set_option maxRecDepth 65536 in
set_option maxHeartbeats 40000000 in
theorem rm2 (l : Launch) (Z : State) (a0 : Array Value) (hw : ∀ d ∈ tables_1, d.before a0 Z = true) (ws : List Jvm.Cond) (o1 : Addr) (h0 : Heap) (n0 : Nat) (Z0 : n0 ≤ h0.size) :
    MetFree l (⟨"java/lang/Record", "<init>", "()V"⟩ : MethodName) (head1 (Jvm.Cond.code (⟨"java/lang/Record", "<init>", "()V"⟩ : MethodName) jdk_30_method_1_code 1 none :: ws) ({ frames := 1, cells := 0, slots := 0, locals := 12 } : Room)) (fun a U => a = #[(.ref o1)] ∧ Z.Warmed39 U.vm ∧ U.heap = h0) (fun _ _ _ _ _ => True) (fun _ U o U' => ∃ v L, o = .returned v ∧ Q2 Z o1 h0 n0 v U'.heap L ∧ FrameEnd U o U' L ({ frames := 1, cells := 0, slots := 0, locals := 12 } : Room).cells ({ frames := 1, cells := 0, slots := 0, locals := 12 } : Room).slots) := by
  refine MetFree.of_bodySF (plainFor_of_name pn_0) hisR ?_
  intro p e s m args below meth c s₁ Bd hml0 hP hK
  obtain ⟨rfl, hZ, hh⟩ := hP
  have e0 : s₁.heap = h0 := by rw [← hh, Bd.state]; rfl
  rw [ef_2 m o1]
  exact b2 o1 ⟨Bd.exec, hZ, hw, Bd.bytes, hml0, findClass_of_methodNamed Bd.named, Bd.returns, Bd.notSynchronized, (name_of_methodNamed Bd.named Bd.method).1⟩ (Stand.of_body Bd) e0 Z0 (Fr.nil n0)
def Q1 (Z : State) (o1 : Addr) (q0 : Int32) (q1 : Int32) (q2 : Int32) (u0 : Int32) (u1 : Int32) (u2 : Int32) (h0 : Heap) (n0 : Nat) (v : Option Value) (h : Heap) (L : List Loc) : Prop := v = none ∧ Fr n0 L ∧ Keep h0 h [o1] ∧ Exa Z h o1 "com/example/seatledger/seatledger/consumption/Allocation" ∧ Fld Z h o1 "com/example/seatledger/seatledger/consumption/Allocation" "active" "I" (.int q0) ∧ Fld Z h o1 "com/example/seatledger/seatledger/consumption/Allocation" "preserve" "I" (.int q1) ∧ Fld Z h o1 "com/example/seatledger/seatledger/consumption/Allocation" "shared" "I" (.int q2)
theorem d1_0 : decode prog_13_method_1_code 0 = .ok (.aload_n 0, 1) := by decide +kernel
theorem d1_1 : decode prog_13_method_1_code 1 = .ok (.invokespecial 1, 3) := by decide +kernel
theorem pd_0 : parseMethodDescriptor "()V" = some ⟨[], none⟩ := by decide +kernel
theorem d1_4 : decode prog_13_method_1_code 4 = .ok (.iload_n 1, 1) := by decide +kernel
theorem d1_5 : decode prog_13_method_1_code 5 = .ok (.ifCond .lt 11, 3) := by decide +kernel
theorem d1_8 : decode prog_13_method_1_code 8 = .ok (.iload_n 2, 1) := by decide +kernel
theorem d1_9 : decode prog_13_method_1_code 9 = .ok (.ifCond .lt 7, 3) := by decide +kernel
theorem d1_12 : decode prog_13_method_1_code 12 = .ok (.iload_n 3, 1) := by decide +kernel
theorem d1_13 : decode prog_13_method_1_code 13 = .ok (.ifCond .ge 41, 3) := by decide +kernel
theorem d1_54 : decode prog_13_method_1_code 54 = .ok (.aload_n 0, 1) := by decide +kernel
theorem d1_55 : decode prog_13_method_1_code 55 = .ok (.iload_n 1, 1) := by decide +kernel
theorem d1_56 : decode prog_13_method_1_code 56 = .ok (.putfield 28, 3) := by decide +kernel
theorem d1_59 : decode prog_13_method_1_code 59 = .ok (.aload_n 0, 1) := by decide +kernel
theorem d1_60 : decode prog_13_method_1_code 60 = .ok (.iload_n 2, 1) := by decide +kernel
theorem d1_61 : decode prog_13_method_1_code 61 = .ok (.putfield 34, 3) := by decide +kernel
theorem d1_64 : decode prog_13_method_1_code 64 = .ok (.aload_n 0, 1) := by decide +kernel
theorem d1_65 : decode prog_13_method_1_code 65 = .ok (.iload_n 3, 1) := by decide +kernel
theorem d1_66 : decode prog_13_method_1_code 66 = .ok (.putfield 37, 3) := by decide +kernel
theorem d1_69 : decode prog_13_method_1_code 69 = .ok (.return_, 1) := by decide +kernel
set_option maxRecDepth 65536 in
set_option maxHeartbeats 40000000 in
theorem b1 {p : Program} {l : Launch} {e : Env} {s : State} {m : MethodId} {args : Array Value} {below : List Frame} {meth : Method} {c : Code} {T0 : State} {locs : List Loc} {Z : State} {a0 : Array Value} {h0 : Heap} {n0 : Nat} (o1 : Addr) (q0 : Int32) (q1 : Int32) (q2 : Int32) (u0 : Int32) (u1 : Int32) (u2 : Int32)
    (C : own_C p s m meth c Z a0 prog_13_method_1_code 4 "com/example/seatledger/seatledger/consumption/Allocation" none "<init>") (X0 : Stand p l e ({ frames := 2, cells := 0, slots := 0, locals := 24 } : Room) s m args below meth c T0 locs 0 0) (e0 : T0.heap = h0) (Z0 : n0 ≤ h0.size) (N0 : Fr n0 locs) (E1 : Exa Z h0 o1 "com/example/seatledger/seatledger/consumption/Allocation") (F0 : Fld Z h0 o1 "com/example/seatledger/seatledger/consumption/Allocation" "active" "I" (.int u0)) (F1 : Fld Z h0 o1 "com/example/seatledger/seatledger/consumption/Allocation" "preserve" "I" (.int u1)) (F2 : Fld Z h0 o1 "com/example/seatledger/seatledger/consumption/Allocation" "shared" "I" (.int u2)) (g_o1 : n0 ≤ o1) (n0q : ¬ q0 < (0 : Int32)) (n1q : ¬ q1 < (0 : Int32)) (n2q : ¬ q2 < (0 : Int32)) :
    own_Go p.tables e below (T0.setTop (mkF m 0 #[.val (.ref o1), .val (.int q0), .val (.int q1), .val (.int q2)] [])) (own_K s (fun v h L => Q1 Z o1 q0 q1 q2 u0 u1 u2 h0 n0 v h L) ({ frames := 2, cells := 0, slots := 0, locals := 24 } : Room).cells ({ frames := 2, cells := 0, slots := 0, locals := 24 } : Room).slots) := by
  obtain ⟨hx, hZ, hw, hby, hml, hown, hret, hlk, hnm⟩ := C
  refine own_via (G := T0.setTop (mkF m 1 #[.val (.ref o1), .val (.int q0), .val (.int q1), .val (.int q2)] [(.ref o1)])) (fun t k => XS.aloadN X0.here hx rfl (hb hby d1_0) rfl rfl k) ?_
  obtain ⟨_, _, ⟨T1, L1, k1, n1⟩, -, X1, ⟨Lc1, hQ1, l1, y1, z1⟩, st1⟩ := X0.specialBack hx (y := (⟨"java/lang/Record", "<init>", "()V"⟩ : MethodName)) rfl hown (mvT hZ (hw _ (List.mem_of_getElem? (i := 7) rfl))) (mvT hZ (hw _ (List.mem_of_getElem? (i := 8) rfl))) (mvT hZ (hw _ (List.mem_of_getElem? (i := 11) rfl))) (by decide) (backOf (W := 0) (rm2 l Z a0 hw [] o1 h0 n0 Z0) hZ (hw _ (List.mem_of_getElem? (i := 11) rfl)) (hw _ (List.mem_of_getElem? (i := 10) rfl)) (by decide) (by decide)) (g := (mkF m 1 #[.val (.ref o1), .val (.int q0), .val (.int q1), .val (.int q2)] [(.ref o1)])) rfl (by rw [hml]; rfl) (Steps.refl _) (a := o1) (argsL := []) (rest := []) (lenOf pd_0 rfl) rfl (by show 2 * 0 + _ ≤ _; exact Nat.le_of_eq rfl) (hb hby d1_1) (fun _ _ => ⟨rfl, e0, (by decide : 0 + 0 ≤ _), (by decide : 0 + 0 ≤ _)⟩)
  dsimp only [Pt.U, Pt.locs, Pt.cells, Pt.slots] at X1 l1 y1 z1 st1 hQ1
  subst l1 y1 z1
  obtain ⟨rfl, Nq1, eh1⟩ := hQ1
  have N1 := Fr.app N0 Nq1
  refine own_via (G := T1.setTop (mkF m 4 #[.val (.ref o1), .val (.int q0), .val (.int q1), .val (.int q2)] [])) (fun t k => st1.trans k) ?_
  refine own_via (G := T1.setTop (mkF m 5 #[.val (.ref o1), .val (.int q0), .val (.int q1), .val (.int q2)] [(.int q0)])) (fun t k => XS.iloadN X1.here hx rfl (hb hby d1_4) rfl k) ?_
  have hc2_5 : ¬ (q0 < (0 : Int32)) := n0q
  refine own_via (G := T1.setTop (mkF m 8 #[.val (.ref o1), .val (.int q0), .val (.int q1), .val (.int q2)] [])) (fun t k => XS.ifNo X1.here hx rfl (hb hby d1_5) rfl (XT.i0_lt_f hc2_5) k) ?_
  refine own_via (G := T1.setTop (mkF m 9 #[.val (.ref o1), .val (.int q0), .val (.int q1), .val (.int q2)] [(.int q1)])) (fun t k => XS.iloadN X1.here hx rfl (hb hby d1_8) rfl k) ?_
  have hc3_9 : ¬ (q1 < (0 : Int32)) := n1q
  refine own_via (G := T1.setTop (mkF m 12 #[.val (.ref o1), .val (.int q0), .val (.int q1), .val (.int q2)] [])) (fun t k => XS.ifNo X1.here hx rfl (hb hby d1_9) rfl (XT.i0_lt_f hc3_9) k) ?_
  refine own_via (G := T1.setTop (mkF m 13 #[.val (.ref o1), .val (.int q0), .val (.int q1), .val (.int q2)] [(.int q2)])) (fun t k => XS.iloadN X1.here hx rfl (hb hby d1_12) rfl k) ?_
  have hc4_13 : ¬ (q2 < (0 : Int32)) := n2q
  refine own_via (G := T1.setTop (mkF m 54 #[.val (.ref o1), .val (.int q0), .val (.int q1), .val (.int q2)] [])) (fun t k => XS.ifYes X1.here hx rfl (pc0 := 13) (pc' := 54) rfl (hb hby d1_13) rfl (XT.i0_ge_t hc4_13) (by decide) (by decide) k) ?_
  refine own_via (G := T1.setTop (mkF m 55 #[.val (.ref o1), .val (.int q0), .val (.int q1), .val (.int q2)] [(.ref o1)])) (fun t k => XS.aloadN X1.here hx rfl (hb hby d1_54) rfl rfl k) ?_
  refine own_via (G := T1.setTop (mkF m 56 #[.val (.ref o1), .val (.int q0), .val (.int q1), .val (.int q2)] [(.int q0), (.ref o1)])) (fun t k => XS.iloadN X1.here hx rfl (hb hby d1_55) rfl k) ?_
  obtain ⟨T5, h5, X5, e5, W5, st5⟩ := putF X1 hx hZ hown (host := "") (Or.inl (hw _ (List.mem_of_getElem? (i := 15) rfl))) Via.refl eh1 F0 E1 (Or.inr ⟨(hw _ (List.mem_of_getElem? (i := 16) rfl)), rfl, hnm⟩) (hw _ (List.mem_of_getElem? (i := 2) rfl)) (ty := .int) (by decide) rfl rfl (g := (mkF m 56 #[.val (.ref o1), .val (.int q0), .val (.int q1), .val (.int q2)] [(.int q0), (.ref o1)])) rfl rfl (hb hby d1_56)
  have F0'5 := F0.same W5
  have E1'5 := E1.wr W5
  have F1'5 := F1.other W5 (Or.inr (slot_ne (Or.inr (hw _ (List.mem_of_getElem? (i := 18) rfl))) (Or.inr (hw _ (List.mem_of_getElem? (i := 16) rfl))) (by decide) (t := .int) (t' := .int) (by decide) (by decide)))
  have F2'5 := F2.other W5 (Or.inr (slot_ne (Or.inr (hw _ (List.mem_of_getElem? (i := 20) rfl))) (Or.inr (hw _ (List.mem_of_getElem? (i := 16) rfl))) (by decide) (t := .int) (t' := .int) (by decide) (by decide)))
  have N5 := Fr.snoc X5 N1 g_o1
  have Z5 : n0 ≤ h5.size := Nat.le_trans Z0 (Keep.of_wr W5).1
  have K5 := ((Keep.refl h0 [o1])).wr W5 (Or.inl (List.mem_of_getElem? (i := 0) rfl))
  refine own_via (G := T5.setTop (mkF m 59 #[.val (.ref o1), .val (.int q0), .val (.int q1), .val (.int q2)] [])) (fun t k => st5 t k) ?_
  refine own_via (G := T5.setTop (mkF m 60 #[.val (.ref o1), .val (.int q0), .val (.int q1), .val (.int q2)] [(.ref o1)])) (fun t k => XS.aloadN X5.here hx rfl (hb hby d1_59) rfl rfl k) ?_
  refine own_via (G := T5.setTop (mkF m 61 #[.val (.ref o1), .val (.int q0), .val (.int q1), .val (.int q2)] [(.int q1), (.ref o1)])) (fun t k => XS.iloadN X5.here hx rfl (hb hby d1_60) rfl k) ?_
  obtain ⟨T6, h6, X6, e6, W6, st6⟩ := putF X5 hx hZ hown (host := "") (Or.inl (hw _ (List.mem_of_getElem? (i := 17) rfl))) Via.refl e5 F1'5 E1'5 (Or.inr ⟨(hw _ (List.mem_of_getElem? (i := 18) rfl)), rfl, hnm⟩) (hw _ (List.mem_of_getElem? (i := 2) rfl)) (ty := .int) (by decide) rfl rfl (g := (mkF m 61 #[.val (.ref o1), .val (.int q0), .val (.int q1), .val (.int q2)] [(.int q1), (.ref o1)])) rfl rfl (hb hby d1_61)
  have F1'6 := F1'5.same W6
  have E1'6 := E1'5.wr W6
  have F0'6 := F0'5.other W6 (Or.inr (slot_ne (Or.inr (hw _ (List.mem_of_getElem? (i := 16) rfl))) (Or.inr (hw _ (List.mem_of_getElem? (i := 18) rfl))) (by decide) (t := .int) (t' := .int) (by decide) (by decide)))
  have F2'6 := F2'5.other W6 (Or.inr (slot_ne (Or.inr (hw _ (List.mem_of_getElem? (i := 20) rfl))) (Or.inr (hw _ (List.mem_of_getElem? (i := 18) rfl))) (by decide) (t := .int) (t' := .int) (by decide) (by decide)))
  have N6 := Fr.snoc X6 N5 g_o1
  have Z6 : n0 ≤ h6.size := Nat.le_trans Z5 (Keep.of_wr W6).1
  have K6 := (K5).wr W6 (Or.inl (List.mem_of_getElem? (i := 0) rfl))
  refine own_via (G := T6.setTop (mkF m 64 #[.val (.ref o1), .val (.int q0), .val (.int q1), .val (.int q2)] [])) (fun t k => st6 t k) ?_
  refine own_via (G := T6.setTop (mkF m 65 #[.val (.ref o1), .val (.int q0), .val (.int q1), .val (.int q2)] [(.ref o1)])) (fun t k => XS.aloadN X6.here hx rfl (hb hby d1_64) rfl rfl k) ?_
  refine own_via (G := T6.setTop (mkF m 66 #[.val (.ref o1), .val (.int q0), .val (.int q1), .val (.int q2)] [(.int q2), (.ref o1)])) (fun t k => XS.iloadN X6.here hx rfl (hb hby d1_65) rfl k) ?_
  obtain ⟨T7, h7, X7, e7, W7, st7⟩ := putF X6 hx hZ hown (host := "") (Or.inl (hw _ (List.mem_of_getElem? (i := 19) rfl))) Via.refl e6 F2'6 E1'6 (Or.inr ⟨(hw _ (List.mem_of_getElem? (i := 20) rfl)), rfl, hnm⟩) (hw _ (List.mem_of_getElem? (i := 2) rfl)) (ty := .int) (by decide) rfl rfl (g := (mkF m 66 #[.val (.ref o1), .val (.int q0), .val (.int q1), .val (.int q2)] [(.int q2), (.ref o1)])) rfl rfl (hb hby d1_66)
  have F2'7 := F2'6.same W7
  have E1'7 := E1'6.wr W7
  have F0'7 := F0'6.other W7 (Or.inr (slot_ne (Or.inr (hw _ (List.mem_of_getElem? (i := 16) rfl))) (Or.inr (hw _ (List.mem_of_getElem? (i := 20) rfl))) (by decide) (t := .int) (t' := .int) (by decide) (by decide)))
  have F1'7 := F1'6.other W7 (Or.inr (slot_ne (Or.inr (hw _ (List.mem_of_getElem? (i := 18) rfl))) (Or.inr (hw _ (List.mem_of_getElem? (i := 20) rfl))) (by decide) (t := .int) (t' := .int) (by decide) (by decide)))
  have N7 := Fr.snoc X7 N6 g_o1
  have Z7 : n0 ≤ h7.size := Nat.le_trans Z6 (Keep.of_wr W7).1
  have K7 := (K6).wr W7 (Or.inl (List.mem_of_getElem? (i := 0) rfl))
  refine own_via (G := T7.setTop (mkF m 69 #[.val (.ref o1), .val (.int q0), .val (.int q1), .val (.int q2)] [])) (fun t k => st7 t k) ?_
  exact own_fin X7 e7 (v := none) (fun _ => rfl) hlk (fun fs hr => X7.returnOut hx hret (hb hby d1_69) hr) (show ((fun v h L => Q1 Z o1 q0 q1 q2 u0 u1 u2 h0 n0 v h L)) none h7 _ from ⟨rfl, N7, K7, (E1'7), (F0'7), (F1'7), (F2'7)⟩) (by decide) (by decide)
theorem pn_1 : plainName "com/example/seatledger/seatledger/consumption/Allocation" = true := by first | (simp [plainName, overriddenIn]; done) | decide +kernel
theorem ef_1 (m : MethodId) (o1 : Addr) (q0 : Int32) (q1 : Int32) (q2 : Int32) : entryFrame m #[(.ref o1), (.int q0), (.int q1), (.int q2)] 4 = mkF m 0 #[.val (.ref o1), .val (.int q0), .val (.int q1), .val (.int q2)] [] := by first | (simp [entryFrame, mkF, argsToLocals, Value.category, maxLocals]; done) | rfl
set_option maxRecDepth 65536 in
set_option maxHeartbeats 40000000 in
theorem rm1 (l : Launch) (Z : State) (a0 : Array Value) (hw : ∀ d ∈ tables_1, d.before a0 Z = true) (ws : List Jvm.Cond) (o1 : Addr) (q0 : Int32) (q1 : Int32) (q2 : Int32) (u0 : Int32) (u1 : Int32) (u2 : Int32) (h0 : Heap) (n0 : Nat) (Z0 : n0 ≤ h0.size) (E1 : Exa Z h0 o1 "com/example/seatledger/seatledger/consumption/Allocation") (F0 : Fld Z h0 o1 "com/example/seatledger/seatledger/consumption/Allocation" "active" "I" (.int u0)) (F1 : Fld Z h0 o1 "com/example/seatledger/seatledger/consumption/Allocation" "preserve" "I" (.int u1)) (F2 : Fld Z h0 o1 "com/example/seatledger/seatledger/consumption/Allocation" "shared" "I" (.int u2)) (g_o1 : n0 ≤ o1) (n0q : ¬ q0 < (0 : Int32)) (n1q : ¬ q1 < (0 : Int32)) (n2q : ¬ q2 < (0 : Int32)) :
    MetFree l (⟨"com/example/seatledger/seatledger/consumption/Allocation", "<init>", "(III)V"⟩ : MethodName) (head1 (Jvm.Cond.code (⟨"com/example/seatledger/seatledger/consumption/Allocation", "<init>", "(III)V"⟩ : MethodName) prog_13_method_1_code 4 none :: ws) ({ frames := 2, cells := 0, slots := 0, locals := 24 } : Room)) (fun a U => a = #[(.ref o1), (.int q0), (.int q1), (.int q2)] ∧ Z.Warmed39 U.vm ∧ U.heap = h0) (fun _ _ _ _ _ => True) (fun _ U o U' => ∃ v L, o = .returned v ∧ Q1 Z o1 q0 q1 q2 u0 u1 u2 h0 n0 v U'.heap L ∧ FrameEnd U o U' L ({ frames := 2, cells := 0, slots := 0, locals := 24 } : Room).cells ({ frames := 2, cells := 0, slots := 0, locals := 24 } : Room).slots) := by
  refine MetFree.of_bodySF (plainFor_of_name pn_1) hisR ?_
  intro p e s m args below meth c s₁ Bd hml0 hP hK
  obtain ⟨rfl, hZ, hh⟩ := hP
  have e0 : s₁.heap = h0 := by rw [← hh, Bd.state]; rfl
  rw [ef_1 m o1 q0 q1 q2]
  exact b1 o1 q0 q1 q2 u0 u1 u2 ⟨Bd.exec, hZ, hw, Bd.bytes, hml0, findClass_of_methodNamed Bd.named, Bd.returns, Bd.notSynchronized, (name_of_methodNamed Bd.named Bd.method).1⟩ (Stand.of_body Bd) e0 Z0 (Fr.nil n0) E1 F0 F1 F2 g_o1 n0q n1q n2q
def Q4 (Z : State) (o1 : Addr) (u1 : Int32) (u2 : Int32) (h0 : Heap) (n0 : Nat) (v : Option Value) (h : Heap) (L : List Loc) : Prop := v = some (.long (own_sa u1 u2)) ∧ Fr n0 L ∧ h = h0
theorem d4_0 : decode prog_13_method_4_code 0 = .ok (.aload_n 0, 1) := by decide +kernel
theorem d4_1 : decode prog_13_method_4_code 1 = .ok (.getfield 28, 3) := by decide +kernel
theorem d4_4 : decode prog_13_method_4_code 4 = .ok (.iconst 2, 1) := by decide +kernel
theorem d4_5 : decode prog_13_method_4_code 5 = .ok (.idiv, 1) := by decide +kernel
theorem d4_6 : decode prog_13_method_4_code 6 = .ok (.i2l, 1) := by decide +kernel
theorem d4_7 : decode prog_13_method_4_code 7 = .ok (.aload_n 0, 1) := by decide +kernel
theorem d4_8 : decode prog_13_method_4_code 8 = .ok (.getfield 37, 3) := by decide +kernel
theorem d4_11 : decode prog_13_method_4_code 11 = .ok (.i2l, 1) := by decide +kernel
theorem d4_12 : decode prog_13_method_4_code 12 = .ok (.ladd, 1) := by decide +kernel
theorem d4_13 : decode prog_13_method_4_code 13 = .ok (.lreturn, 1) := by decide +kernel
set_option maxRecDepth 65536 in
set_option maxHeartbeats 40000000 in
theorem b4 {p : Program} {l : Launch} {e : Env} {s : State} {m : MethodId} {args : Array Value} {below : List Frame} {meth : Method} {c : Code} {T0 : State} {locs : List Loc} {Z : State} {a0 : Array Value} {h0 : Heap} {n0 : Nat} (o1 : Addr) (u1 : Int32) (u2 : Int32)
    (C : own_C p s m meth c Z a0 prog_13_method_4_code 1 "com/example/seatledger/seatledger/consumption/Allocation" (some .long) "sharedAllocation") (X0 : Stand p l e ({ frames := 0, cells := 0, slots := 0, locals := 0 } : Room) s m args below meth c T0 locs 0 0) (e0 : T0.heap = h0) (Z0 : n0 ≤ h0.size) (N0 : Fr n0 locs) (F1 : Fld Z h0 o1 "com/example/seatledger/seatledger/consumption/Allocation" "active" "I" (.int u1)) (F2 : Fld Z h0 o1 "com/example/seatledger/seatledger/consumption/Allocation" "shared" "I" (.int u2)) :
    own_Go p.tables e below (T0.setTop (mkF m 0 #[.val (.ref o1)] [])) (own_K s (fun v h L => Q4 Z o1 u1 u2 h0 n0 v h L) ({ frames := 0, cells := 0, slots := 0, locals := 0 } : Room).cells ({ frames := 0, cells := 0, slots := 0, locals := 0 } : Room).slots) := by
  obtain ⟨hx, hZ, hw, hby, hml, hown, hret, hlk, hnm⟩ := C
  refine own_via (G := T0.setTop (mkF m 1 #[.val (.ref o1)] [(.ref o1)])) (fun t k => XS.aloadN X0.here hx rfl (hb hby d4_0) rfl rfl k) ?_
  obtain ⟨T1, X1, e1, st1⟩ := getF X0 hx hZ hown (host := "") (Or.inl (hw _ (List.mem_of_getElem? (i := 15) rfl))) Via.refl e0 F1 (g := (mkF m 1 #[.val (.ref o1)] [(.ref o1)])) rfl rfl (hb hby d4_1)
  refine own_via (G := T1.setTop (mkF m 4 #[.val (.ref o1)] [(.int u1)])) (fun t k => st1 t k) ?_
  refine own_via (G := T1.setTop (mkF m 5 #[.val (.ref o1)] [(.int (2 : Int32)), (.int u1)])) (fun t k => XS.iconst X1.here hx rfl (hb hby d4_4) k) ?_
  refine own_via (G := T1.setTop (mkF m 6 #[.val (.ref o1)] [(.int (u1 / (2 : Int32)))])) (fun t k => XS.idiv X1.here hx rfl (hb hby d4_5) rfl (by decide) k) ?_
  refine own_via (G := T1.setTop (mkF m 7 #[.val (.ref o1)] [(.long ((u1 / (2 : Int32)).toInt64))])) (fun t k => XT.i2l X1.here hx rfl (hb hby d4_6) rfl k) ?_
  refine own_via (G := T1.setTop (mkF m 8 #[.val (.ref o1)] [(.ref o1), (.long ((u1 / (2 : Int32)).toInt64))])) (fun t k => XS.aloadN X1.here hx rfl (hb hby d4_7) rfl rfl k) ?_
  obtain ⟨T2, X2, e2, st2⟩ := getF X1 hx hZ hown (host := "") (Or.inl (hw _ (List.mem_of_getElem? (i := 19) rfl))) Via.refl e1 F2 (g := (mkF m 8 #[.val (.ref o1)] [(.ref o1), (.long ((u1 / (2 : Int32)).toInt64))])) rfl rfl (hb hby d4_8)
  refine own_via (G := T2.setTop (mkF m 11 #[.val (.ref o1)] [(.int u2), (.long ((u1 / (2 : Int32)).toInt64))])) (fun t k => st2 t k) ?_
  refine own_via (G := T2.setTop (mkF m 12 #[.val (.ref o1)] [(.long (u2.toInt64)), (.long ((u1 / (2 : Int32)).toInt64))])) (fun t k => XT.i2l X2.here hx rfl (hb hby d4_11) rfl k) ?_
  refine own_via (G := T2.setTop (mkF m 13 #[.val (.ref o1)] [(.long (((u1 / (2 : Int32)).toInt64) + (u2.toInt64)))])) (fun t k => XT.ladd X2.here hx rfl (hb hby d4_12) rfl k) ?_
  exact own_fin X2 e2 (v := some (.long (((u1 / (2 : Int32)).toInt64) + (u2.toInt64)))) (fun h => by rw [hret] at h; cases h) hlk (fun fs hr => X2.lreturnOut hx hret (hb hby d4_13) hr) (show ((fun v h L => Q4 Z o1 u1 u2 h0 n0 v h L)) (some (.long (((u1 / (2 : Int32)).toInt64) + (u2.toInt64)))) h0 _ from ⟨rfl, N0, rfl⟩) (by decide) (by decide)
theorem ef_4 (m : MethodId) (o1 : Addr) : entryFrame m #[(.ref o1)] 1 = mkF m 0 #[.val (.ref o1)] [] := by first | (simp [entryFrame, mkF, argsToLocals, Value.category, maxLocals]; done) | rfl
set_option maxRecDepth 65536 in
set_option maxHeartbeats 40000000 in
theorem rm4 (l : Launch) (Z : State) (a0 : Array Value) (hw : ∀ d ∈ tables_1, d.before a0 Z = true) (ws : List Jvm.Cond) (o1 : Addr) (u1 : Int32) (u2 : Int32) (h0 : Heap) (n0 : Nat) (Z0 : n0 ≤ h0.size) (F1 : Fld Z h0 o1 "com/example/seatledger/seatledger/consumption/Allocation" "active" "I" (.int u1)) (F2 : Fld Z h0 o1 "com/example/seatledger/seatledger/consumption/Allocation" "shared" "I" (.int u2)) :
    MetFree l (⟨"com/example/seatledger/seatledger/consumption/Allocation", "sharedAllocation", "()J"⟩ : MethodName) (head1 (Jvm.Cond.code (⟨"com/example/seatledger/seatledger/consumption/Allocation", "sharedAllocation", "()J"⟩ : MethodName) prog_13_method_4_code 1 (some .long) :: ws) ({ frames := 0, cells := 0, slots := 0, locals := 0 } : Room)) (fun a U => a = #[(.ref o1)] ∧ Z.Warmed39 U.vm ∧ U.heap = h0) (fun _ _ _ _ _ => True) (fun _ U o U' => ∃ v L, o = .returned v ∧ Q4 Z o1 u1 u2 h0 n0 v U'.heap L ∧ FrameEnd U o U' L ({ frames := 0, cells := 0, slots := 0, locals := 0 } : Room).cells ({ frames := 0, cells := 0, slots := 0, locals := 0 } : Room).slots) := by
  refine MetFree.of_bodySF (plainFor_of_name pn_1) hisR ?_
  intro p e s m args below meth c s₁ Bd hml0 hP hK
  obtain ⟨rfl, hZ, hh⟩ := hP
  have e0 : s₁.heap = h0 := by rw [← hh, Bd.state]; rfl
  rw [ef_4 m o1]
  exact b4 o1 u1 u2 ⟨Bd.exec, hZ, hw, Bd.bytes, hml0, findClass_of_methodNamed Bd.named, Bd.returns, Bd.notSynchronized, (name_of_methodNamed Bd.named Bd.method).1⟩ (Stand.of_body Bd) e0 Z0 (Fr.nil n0) F1 F2
def Q0 (Z : State) (ia : Int32) (ip : Int32) (iz : Int32) (h0 : Heap) (n0 : Nat) (v : Option Value) (h : Heap) (L : List Loc) : Prop := v = some (.int (1 : Int32)) ∧ Fr n0 L
theorem pd_1 : parseMethodDescriptor "(III)V" = some ⟨[.int, .int, .int], none⟩ := by decide +kernel
theorem pd_2 : parseMethodDescriptor "()J" = some ⟨[], some .long⟩ := by decide +kernel
set_option maxRecDepth 65536 in
set_option maxHeartbeats 40000000 in
theorem b0 {p : Program} {l : Launch} {e : Env} {s : State} {m : MethodId} {args : Array Value} {below : List Frame} {meth : Method} {c : Code} {T0 : State} {locs : List Loc} {Z : State} {a0 : Array Value} {h0 : Heap} {n0 : Nat} (ia : Int32) (ip : Int32) (iz : Int32)
    (C : own_C p s m meth c Z a0 code maxLocals "com/example/seatledger/seatledger/consumption/AllocationSharedAllocationPinLaw" ret "law") (X0 : Stand p l e room_1 s m args below meth c T0 locs 0 0) (e0 : T0.heap = h0) (Z0 : n0 ≤ h0.size) (N0 : Fr n0 locs) :
    own_Go p.tables e below (T0.setTop (mkF m 0 #[.val (.int ia), .val (.int ip), .val (.int iz), .unset, .unset, .unset, .unset, .unset, .unset, .unset, .unset, .unset, .unset, .unset, .unset] [])) (own_K s (fun v h L => Q0 Z ia ip iz h0 n0 v h L) room_1.cells room_1.slots) := by
  obtain ⟨hx, hZ, hw, hby, hml, hown, hret, hlk, hnm⟩ := C
  refine own_via (G := T0.setTop (mkF m 1 #[.val (.int ia), .val (.int ip), .val (.int iz), .unset, .unset, .unset, .unset, .unset, .unset, .unset, .unset, .unset, .unset, .unset, .unset] [(.int ia)])) (fun t k => XS.iloadN X0.here hx rfl (hb hby at_0) rfl k) ?_
  refine own_via (G := T0.setTop (mkF m 3 #[.val (.int ia), .val (.int ip), .val (.int iz), .unset, .unset, .unset, .unset, .unset, .unset, .unset, .unset, .unset, .unset, .unset, .unset] [(.int (2147483647 : Int32)), (.int ia)])) (fun t k => X0.ldcI hx hown (mvT hZ (hw _ (List.mem_of_getElem? (i := 0) rfl))) (g := (mkF m 1 #[.val (.int ia), .val (.int ip), .val (.int iz), .unset, .unset, .unset, .unset, .unset, .unset, .unset, .unset, .unset, .unset, .unset, .unset] [(.int ia)])) rfl (hb hby at_1) k) ?_
  refine own_via (G := T0.setTop (mkF m 4 #[.val (.int ia), .val (.int ip), .val (.int iz), .unset, .unset, .unset, .unset, .unset, .unset, .unset, .unset, .unset, .unset, .unset, .unset] [(.int (ia &&& (2147483647 : Int32)))])) (fun t k => XS.iand X0.here hx rfl (hb hby at_3) rfl k) ?_
  refine own_via (G := T0.setTop (mkF m 5 #[.val (.int ia), .val (.int ip), .val (.int iz), .val (.int (ia &&& (2147483647 : Int32))), .unset, .unset, .unset, .unset, .unset, .unset, .unset, .unset, .unset, .unset, .unset] [])) (fun t k => XS.istoreN X0.here hx rfl (hb hby at_4) rfl (l' := #[.val (.int ia), .val (.int ip), .val (.int iz), .val (.int (ia &&& (2147483647 : Int32))), .unset, .unset, .unset, .unset, .unset, .unset, .unset, .unset, .unset, .unset, .unset]) rfl k) ?_
  refine own_via (G := T0.setTop (mkF m 6 #[.val (.int ia), .val (.int ip), .val (.int iz), .val (.int (ia &&& (2147483647 : Int32))), .unset, .unset, .unset, .unset, .unset, .unset, .unset, .unset, .unset, .unset, .unset] [(.int ip)])) (fun t k => XS.iloadN X0.here hx rfl (hb hby at_5) rfl k) ?_
  refine own_via (G := T0.setTop (mkF m 8 #[.val (.int ia), .val (.int ip), .val (.int iz), .val (.int (ia &&& (2147483647 : Int32))), .unset, .unset, .unset, .unset, .unset, .unset, .unset, .unset, .unset, .unset, .unset] [(.int (2147483647 : Int32)), (.int ip)])) (fun t k => X0.ldcI hx hown (mvT hZ (hw _ (List.mem_of_getElem? (i := 0) rfl))) (g := (mkF m 6 #[.val (.int ia), .val (.int ip), .val (.int iz), .val (.int (ia &&& (2147483647 : Int32))), .unset, .unset, .unset, .unset, .unset, .unset, .unset, .unset, .unset, .unset, .unset] [(.int ip)])) rfl (hb hby at_6) k) ?_
  refine own_via (G := T0.setTop (mkF m 9 #[.val (.int ia), .val (.int ip), .val (.int iz), .val (.int (ia &&& (2147483647 : Int32))), .unset, .unset, .unset, .unset, .unset, .unset, .unset, .unset, .unset, .unset, .unset] [(.int (ip &&& (2147483647 : Int32)))])) (fun t k => XS.iand X0.here hx rfl (hb hby at_8) rfl k) ?_
  refine own_via (G := T0.setTop (mkF m 11 #[.val (.int ia), .val (.int ip), .val (.int iz), .val (.int (ia &&& (2147483647 : Int32))), .val (.int (ip &&& (2147483647 : Int32))), .unset, .unset, .unset, .unset, .unset, .unset, .unset, .unset, .unset, .unset] [])) (fun t k => XS.istore X0.here hx rfl (hb hby at_9) rfl (l' := #[.val (.int ia), .val (.int ip), .val (.int iz), .val (.int (ia &&& (2147483647 : Int32))), .val (.int (ip &&& (2147483647 : Int32))), .unset, .unset, .unset, .unset, .unset, .unset, .unset, .unset, .unset, .unset]) rfl k) ?_
  refine own_via (G := T0.setTop (mkF m 12 #[.val (.int ia), .val (.int ip), .val (.int iz), .val (.int (ia &&& (2147483647 : Int32))), .val (.int (ip &&& (2147483647 : Int32))), .unset, .unset, .unset, .unset, .unset, .unset, .unset, .unset, .unset, .unset] [(.int iz)])) (fun t k => XS.iloadN X0.here hx rfl (hb hby at_11) rfl k) ?_
  refine own_via (G := T0.setTop (mkF m 14 #[.val (.int ia), .val (.int ip), .val (.int iz), .val (.int (ia &&& (2147483647 : Int32))), .val (.int (ip &&& (2147483647 : Int32))), .unset, .unset, .unset, .unset, .unset, .unset, .unset, .unset, .unset, .unset] [(.int (2147483647 : Int32)), (.int iz)])) (fun t k => X0.ldcI hx hown (mvT hZ (hw _ (List.mem_of_getElem? (i := 0) rfl))) (g := (mkF m 12 #[.val (.int ia), .val (.int ip), .val (.int iz), .val (.int (ia &&& (2147483647 : Int32))), .val (.int (ip &&& (2147483647 : Int32))), .unset, .unset, .unset, .unset, .unset, .unset, .unset, .unset, .unset, .unset] [(.int iz)])) rfl (hb hby at_12) k) ?_
  refine own_via (G := T0.setTop (mkF m 15 #[.val (.int ia), .val (.int ip), .val (.int iz), .val (.int (ia &&& (2147483647 : Int32))), .val (.int (ip &&& (2147483647 : Int32))), .unset, .unset, .unset, .unset, .unset, .unset, .unset, .unset, .unset, .unset] [(.int (iz &&& (2147483647 : Int32)))])) (fun t k => XS.iand X0.here hx rfl (hb hby at_14) rfl k) ?_
  refine own_via (G := T0.setTop (mkF m 17 #[.val (.int ia), .val (.int ip), .val (.int iz), .val (.int (ia &&& (2147483647 : Int32))), .val (.int (ip &&& (2147483647 : Int32))), .val (.int (iz &&& (2147483647 : Int32))), .unset, .unset, .unset, .unset, .unset, .unset, .unset, .unset, .unset] [])) (fun t k => XS.istore X0.here hx rfl (hb hby at_15) rfl (l' := #[.val (.int ia), .val (.int ip), .val (.int iz), .val (.int (ia &&& (2147483647 : Int32))), .val (.int (ip &&& (2147483647 : Int32))), .val (.int (iz &&& (2147483647 : Int32))), .unset, .unset, .unset, .unset, .unset, .unset, .unset, .unset, .unset]) rfl k) ?_
  obtain ⟨T1, h1, X1, e1, E1, A1, D1, -, st1⟩ := newO X0 hx hZ hown (hw _ (List.mem_of_getElem? (i := 1) rfl)) (hw _ (List.mem_of_getElem? (i := 2) rfl)) (hw _ (List.mem_of_getElem? (i := 3) rfl)) e0 (g := (mkF m 17 #[.val (.int ia), .val (.int ip), .val (.int iz), .val (.int (ia &&& (2147483647 : Int32))), .val (.int (ip &&& (2147483647 : Int32))), .val (.int (iz &&& (2147483647 : Int32))), .unset, .unset, .unset, .unset, .unset, .unset, .unset, .unset, .unset] [])) rfl (hb hby at_17) (by decide) (by decide)
  obtain ⟨b1, g1⟩ : ∃ z, z = h0.size := ⟨_, rfl⟩
  rw [← g1] at A1 D1 st1
  have g_b1 : n0 ≤ b1 := Nat.le_trans Z0 (Nat.le_of_eq g1.symm)
  have Z1 : n0 ≤ h1.size := Nat.le_trans Z0 E1.1
  have F_active_b1 : Fld Z h1 b1 "com/example/seatledger/seatledger/consumption/Allocation" "active" "I" (.int (0 : Int32)) := D1 (Or.inr (hw _ (List.mem_of_getElem? (i := 16) rfl))) (ty := .int) (by decide)
  have F_preserve_b1 : Fld Z h1 b1 "com/example/seatledger/seatledger/consumption/Allocation" "preserve" "I" (.int (0 : Int32)) := D1 (Or.inr (hw _ (List.mem_of_getElem? (i := 18) rfl))) (ty := .int) (by decide)
  have F_shared_b1 : Fld Z h1 b1 "com/example/seatledger/seatledger/consumption/Allocation" "shared" "I" (.int (0 : Int32)) := D1 (Or.inr (hw _ (List.mem_of_getElem? (i := 20) rfl))) (ty := .int) (by decide)
  refine own_via (G := T1.setTop (mkF m 20 #[.val (.int ia), .val (.int ip), .val (.int iz), .val (.int (ia &&& (2147483647 : Int32))), .val (.int (ip &&& (2147483647 : Int32))), .val (.int (iz &&& (2147483647 : Int32))), .unset, .unset, .unset, .unset, .unset, .unset, .unset, .unset, .unset] [(.ref b1)])) (fun t k => st1 t k) ?_
  refine own_via (G := T1.setTop (mkF m 21 #[.val (.int ia), .val (.int ip), .val (.int iz), .val (.int (ia &&& (2147483647 : Int32))), .val (.int (ip &&& (2147483647 : Int32))), .val (.int (iz &&& (2147483647 : Int32))), .unset, .unset, .unset, .unset, .unset, .unset, .unset, .unset, .unset] [(.ref b1), (.ref b1)])) (fun t k => XS.dup X1.here hx rfl (hb hby at_20) rfl rfl k) ?_
  refine own_via (G := T1.setTop (mkF m 22 #[.val (.int ia), .val (.int ip), .val (.int iz), .val (.int (ia &&& (2147483647 : Int32))), .val (.int (ip &&& (2147483647 : Int32))), .val (.int (iz &&& (2147483647 : Int32))), .unset, .unset, .unset, .unset, .unset, .unset, .unset, .unset, .unset] [(.int (ia &&& (2147483647 : Int32))), (.ref b1), (.ref b1)])) (fun t k => XS.iloadN X1.here hx rfl (hb hby at_21) rfl k) ?_
  refine own_via (G := T1.setTop (mkF m 24 #[.val (.int ia), .val (.int ip), .val (.int iz), .val (.int (ia &&& (2147483647 : Int32))), .val (.int (ip &&& (2147483647 : Int32))), .val (.int (iz &&& (2147483647 : Int32))), .unset, .unset, .unset, .unset, .unset, .unset, .unset, .unset, .unset] [(.int (ip &&& (2147483647 : Int32))), (.int (ia &&& (2147483647 : Int32))), (.ref b1), (.ref b1)])) (fun t k => XS.iload X1.here hx rfl (hb hby at_22) rfl k) ?_
  refine own_via (G := T1.setTop (mkF m 26 #[.val (.int ia), .val (.int ip), .val (.int iz), .val (.int (ia &&& (2147483647 : Int32))), .val (.int (ip &&& (2147483647 : Int32))), .val (.int (iz &&& (2147483647 : Int32))), .unset, .unset, .unset, .unset, .unset, .unset, .unset, .unset, .unset] [(.int (iz &&& (2147483647 : Int32))), (.int (ip &&& (2147483647 : Int32))), (.int (ia &&& (2147483647 : Int32))), (.ref b1), (.ref b1)])) (fun t k => XS.iload X1.here hx rfl (hb hby at_24) rfl k) ?_
  obtain ⟨_, _, ⟨T2, L2, k2, n2⟩, -, X2, ⟨Lc2, hQ2, l2, y2, z2⟩, st2⟩ := X1.specialBack hx (y := (⟨"com/example/seatledger/seatledger/consumption/Allocation", "<init>", "(III)V"⟩ : MethodName)) rfl hown (mvT hZ (hw _ (List.mem_of_getElem? (i := 4) rfl))) (mvT hZ (hw _ (List.mem_of_getElem? (i := 5) rfl))) (mvT hZ (hw _ (List.mem_of_getElem? (i := 6) rfl))) (by decide) (backOf (W := 1) (rm1 l Z a0 hw [] b1 (ia &&& (2147483647 : Int32)) (ip &&& (2147483647 : Int32)) (iz &&& (2147483647 : Int32)) (0 : Int32) (0 : Int32) (0 : Int32) h1 n0 Z1 A1 F_active_b1 F_preserve_b1 F_shared_b1 g_b1 (own_nn _) (own_nn _) (own_nn _)) hZ (hw _ (List.mem_of_getElem? (i := 6) rfl)) (hw _ (List.mem_of_getElem? (i := 3) rfl)) (by decide) (by decide)) (g := (mkF m 26 #[.val (.int ia), .val (.int ip), .val (.int iz), .val (.int (ia &&& (2147483647 : Int32))), .val (.int (ip &&& (2147483647 : Int32))), .val (.int (iz &&& (2147483647 : Int32))), .unset, .unset, .unset, .unset, .unset, .unset, .unset, .unset, .unset] [(.int (iz &&& (2147483647 : Int32))), (.int (ip &&& (2147483647 : Int32))), (.int (ia &&& (2147483647 : Int32))), (.ref b1), (.ref b1)])) rfl (by rw [hml]; rfl) (Steps.refl _) (a := b1) (argsL := [(.int (ia &&& (2147483647 : Int32))), (.int (ip &&& (2147483647 : Int32))), (.int (iz &&& (2147483647 : Int32)))]) (rest := [(.ref b1)]) (lenOf pd_1 rfl) rfl (by show 2 * 0 + _ ≤ _; exact Nat.le_of_eq rfl) (hb hby at_26) (fun _ _ => ⟨rfl, e1, (by decide : (0 + 1) + 0 ≤ _), (by decide : (0 + 3) + 0 ≤ _)⟩)
  dsimp only [Pt.U, Pt.locs, Pt.cells, Pt.slots] at X2 l2 y2 z2 st2 hQ2
  subst l2 y2 z2
  obtain ⟨rfl, Nq2, K2q, P0_2, P1_2, P2_2, P3_2⟩ := hQ2
  have N2 := Fr.app N0 Nq2
  have A1'2 := A1.keep K2q
  have Z2 : n0 ≤ T2.heap.size := Nat.le_trans Z1 K2q.1
  refine own_via (G := T2.setTop (mkF m 29 #[.val (.int ia), .val (.int ip), .val (.int iz), .val (.int (ia &&& (2147483647 : Int32))), .val (.int (ip &&& (2147483647 : Int32))), .val (.int (iz &&& (2147483647 : Int32))), .unset, .unset, .unset, .unset, .unset, .unset, .unset, .unset, .unset] [(.ref b1)])) (fun t k => st2.trans k) ?_
  refine own_via (G := T2.setTop (mkF m 31 #[.val (.int ia), .val (.int ip), .val (.int iz), .val (.int (ia &&& (2147483647 : Int32))), .val (.int (ip &&& (2147483647 : Int32))), .val (.int (iz &&& (2147483647 : Int32))), .val (.ref b1), .unset, .unset, .unset, .unset, .unset, .unset, .unset, .unset] [])) (fun t k => XS.astore X2.here hx rfl (hb hby at_29) rfl rfl (l' := #[.val (.int ia), .val (.int ip), .val (.int iz), .val (.int (ia &&& (2147483647 : Int32))), .val (.int (ip &&& (2147483647 : Int32))), .val (.int (iz &&& (2147483647 : Int32))), .val (.ref b1), .unset, .unset, .unset, .unset, .unset, .unset, .unset, .unset]) rfl k) ?_
  obtain ⟨T3, h3, X3, e3, E3, A3, D3, -, st3⟩ := newO X2 hx hZ hown (hw _ (List.mem_of_getElem? (i := 1) rfl)) (hw _ (List.mem_of_getElem? (i := 2) rfl)) (hw _ (List.mem_of_getElem? (i := 3) rfl)) rfl (g := (mkF m 31 #[.val (.int ia), .val (.int ip), .val (.int iz), .val (.int (ia &&& (2147483647 : Int32))), .val (.int (ip &&& (2147483647 : Int32))), .val (.int (iz &&& (2147483647 : Int32))), .val (.ref b1), .unset, .unset, .unset, .unset, .unset, .unset, .unset, .unset] [])) rfl (hb hby at_31) (by decide) (by decide)
  obtain ⟨b3, g3⟩ : ∃ z, z = T2.heap.size := ⟨_, rfl⟩
  rw [← g3] at A3 D3 st3
  have ne_b1_b3 : b1 ≠ b3 := Nat.ne_of_lt (Nat.lt_of_lt_of_le P0_2.lt (Nat.le_of_eq g3.symm))
  have g_b3 : n0 ≤ b3 := Nat.le_trans Z2 (Nat.le_of_eq g3.symm)
  have P0_2'3 := P0_2.ext E3
  have P1_2'3 := P1_2.ext E3
  have P2_2'3 := P2_2.ext E3
  have P3_2'3 := P3_2.ext E3
  have Z3 : n0 ≤ h3.size := Nat.le_trans Z2 E3.1
  have F_active_b3 : Fld Z h3 b3 "com/example/seatledger/seatledger/consumption/Allocation" "active" "I" (.int (0 : Int32)) := D3 (Or.inr (hw _ (List.mem_of_getElem? (i := 16) rfl))) (ty := .int) (by decide)
  have F_preserve_b3 : Fld Z h3 b3 "com/example/seatledger/seatledger/consumption/Allocation" "preserve" "I" (.int (0 : Int32)) := D3 (Or.inr (hw _ (List.mem_of_getElem? (i := 18) rfl))) (ty := .int) (by decide)
  have F_shared_b3 : Fld Z h3 b3 "com/example/seatledger/seatledger/consumption/Allocation" "shared" "I" (.int (0 : Int32)) := D3 (Or.inr (hw _ (List.mem_of_getElem? (i := 20) rfl))) (ty := .int) (by decide)
  refine own_via (G := T3.setTop (mkF m 34 #[.val (.int ia), .val (.int ip), .val (.int iz), .val (.int (ia &&& (2147483647 : Int32))), .val (.int (ip &&& (2147483647 : Int32))), .val (.int (iz &&& (2147483647 : Int32))), .val (.ref b1), .unset, .unset, .unset, .unset, .unset, .unset, .unset, .unset] [(.ref b3)])) (fun t k => st3 t k) ?_
  refine own_via (G := T3.setTop (mkF m 35 #[.val (.int ia), .val (.int ip), .val (.int iz), .val (.int (ia &&& (2147483647 : Int32))), .val (.int (ip &&& (2147483647 : Int32))), .val (.int (iz &&& (2147483647 : Int32))), .val (.ref b1), .unset, .unset, .unset, .unset, .unset, .unset, .unset, .unset] [(.ref b3), (.ref b3)])) (fun t k => XS.dup X3.here hx rfl (hb hby at_34) rfl rfl k) ?_
  refine own_via (G := T3.setTop (mkF m 36 #[.val (.int ia), .val (.int ip), .val (.int iz), .val (.int (ia &&& (2147483647 : Int32))), .val (.int (ip &&& (2147483647 : Int32))), .val (.int (iz &&& (2147483647 : Int32))), .val (.ref b1), .unset, .unset, .unset, .unset, .unset, .unset, .unset, .unset] [(.int (ia &&& (2147483647 : Int32))), (.ref b3), (.ref b3)])) (fun t k => XS.iloadN X3.here hx rfl (hb hby at_35) rfl k) ?_
  refine own_via (G := T3.setTop (mkF m 37 #[.val (.int ia), .val (.int ip), .val (.int iz), .val (.int (ia &&& (2147483647 : Int32))), .val (.int (ip &&& (2147483647 : Int32))), .val (.int (iz &&& (2147483647 : Int32))), .val (.ref b1), .unset, .unset, .unset, .unset, .unset, .unset, .unset, .unset] [(.int (0 : Int32)), (.int (ia &&& (2147483647 : Int32))), (.ref b3), (.ref b3)])) (fun t k => XS.iconst X3.here hx rfl (hb hby at_36) k) ?_
  refine own_via (G := T3.setTop (mkF m 39 #[.val (.int ia), .val (.int ip), .val (.int iz), .val (.int (ia &&& (2147483647 : Int32))), .val (.int (ip &&& (2147483647 : Int32))), .val (.int (iz &&& (2147483647 : Int32))), .val (.ref b1), .unset, .unset, .unset, .unset, .unset, .unset, .unset, .unset] [(.int (iz &&& (2147483647 : Int32))), (.int (0 : Int32)), (.int (ia &&& (2147483647 : Int32))), (.ref b3), (.ref b3)])) (fun t k => XS.iload X3.here hx rfl (hb hby at_37) rfl k) ?_
  obtain ⟨_, _, ⟨T4, L4, k4, n4⟩, -, X4, ⟨Lc4, hQ4, l4, y4, z4⟩, st4⟩ := X3.specialBack hx (y := (⟨"com/example/seatledger/seatledger/consumption/Allocation", "<init>", "(III)V"⟩ : MethodName)) rfl hown (mvT hZ (hw _ (List.mem_of_getElem? (i := 4) rfl))) (mvT hZ (hw _ (List.mem_of_getElem? (i := 5) rfl))) (mvT hZ (hw _ (List.mem_of_getElem? (i := 6) rfl))) (by decide) (backOf (W := 1) (rm1 l Z a0 hw [] b3 (ia &&& (2147483647 : Int32)) (0 : Int32) (iz &&& (2147483647 : Int32)) (0 : Int32) (0 : Int32) (0 : Int32) h3 n0 Z3 A3 F_active_b3 F_preserve_b3 F_shared_b3 g_b3 (own_nn _) (by decide) (own_nn _)) hZ (hw _ (List.mem_of_getElem? (i := 6) rfl)) (hw _ (List.mem_of_getElem? (i := 3) rfl)) (by decide) (by decide)) (g := (mkF m 39 #[.val (.int ia), .val (.int ip), .val (.int iz), .val (.int (ia &&& (2147483647 : Int32))), .val (.int (ip &&& (2147483647 : Int32))), .val (.int (iz &&& (2147483647 : Int32))), .val (.ref b1), .unset, .unset, .unset, .unset, .unset, .unset, .unset, .unset] [(.int (iz &&& (2147483647 : Int32))), (.int (0 : Int32)), (.int (ia &&& (2147483647 : Int32))), (.ref b3), (.ref b3)])) rfl (by rw [hml]; rfl) (Steps.refl _) (a := b3) (argsL := [(.int (ia &&& (2147483647 : Int32))), (.int (0 : Int32)), (.int (iz &&& (2147483647 : Int32)))]) (rest := [(.ref b3)]) (lenOf pd_1 rfl) rfl (by show 2 * 0 + _ ≤ _; exact Nat.le_of_eq rfl) (hb hby at_39) (fun _ _ => ⟨rfl, e3, (by decide : (((0 + 1) + 0) + 1) + 0 ≤ _), (by decide : (((0 + 3) + 0) + 3) + 0 ≤ _)⟩)
  dsimp only [Pt.U, Pt.locs, Pt.cells, Pt.slots] at X4 l4 y4 z4 st4 hQ4
  subst l4 y4 z4
  obtain ⟨rfl, Nq4, K4q, P0_4, P1_4, P2_4, P3_4⟩ := hQ4
  have N4 := Fr.app N2 Nq4
  have P0_2'4 := P0_2'3.keep K4q
  have P1_2'4 := P1_2'3.keep K4q (ninS ne_b1_b3 nin0)
  have P2_2'4 := P2_2'3.keep K4q (ninS ne_b1_b3 nin0)
  have P3_2'4 := P3_2'3.keep K4q (ninS ne_b1_b3 nin0)
  have A3'4 := A3.keep K4q
  have Z4 : n0 ≤ T4.heap.size := Nat.le_trans Z3 K4q.1
  refine own_via (G := T4.setTop (mkF m 42 #[.val (.int ia), .val (.int ip), .val (.int iz), .val (.int (ia &&& (2147483647 : Int32))), .val (.int (ip &&& (2147483647 : Int32))), .val (.int (iz &&& (2147483647 : Int32))), .val (.ref b1), .unset, .unset, .unset, .unset, .unset, .unset, .unset, .unset] [(.ref b3)])) (fun t k => st4.trans k) ?_
  refine own_via (G := T4.setTop (mkF m 44 #[.val (.int ia), .val (.int ip), .val (.int iz), .val (.int (ia &&& (2147483647 : Int32))), .val (.int (ip &&& (2147483647 : Int32))), .val (.int (iz &&& (2147483647 : Int32))), .val (.ref b1), .val (.ref b3), .unset, .unset, .unset, .unset, .unset, .unset, .unset] [])) (fun t k => XS.astore X4.here hx rfl (hb hby at_42) rfl rfl (l' := #[.val (.int ia), .val (.int ip), .val (.int iz), .val (.int (ia &&& (2147483647 : Int32))), .val (.int (ip &&& (2147483647 : Int32))), .val (.int (iz &&& (2147483647 : Int32))), .val (.ref b1), .val (.ref b3), .unset, .unset, .unset, .unset, .unset, .unset, .unset]) rfl k) ?_
  refine own_via (G := T4.setTop (mkF m 46 #[.val (.int ia), .val (.int ip), .val (.int iz), .val (.int (ia &&& (2147483647 : Int32))), .val (.int (ip &&& (2147483647 : Int32))), .val (.int (iz &&& (2147483647 : Int32))), .val (.ref b1), .val (.ref b3), .unset, .unset, .unset, .unset, .unset, .unset, .unset] [(.ref b1)])) (fun t k => XS.aload X4.here hx rfl (hb hby at_44) rfl rfl k) ?_
  obtain ⟨cq5, kq5, q5a, q5b, q5c⟩ := isOf hZ rfl P0_2'4
  obtain ⟨_, _, ⟨T5, L5, k5, n5⟩, -, X5, ⟨Lc5, hQ5, l5, y5, z5⟩, st5⟩ := X4.virtualBack hx (y := (⟨"com/example/seatledger/seatledger/consumption/Allocation", "sharedAllocation", "()J"⟩ : MethodName)) (z := (⟨"com/example/seatledger/seatledger/consumption/Allocation", "sharedAllocation", "()J"⟩ : MethodName)) hown (mvT hZ (hw _ (List.mem_of_getElem? (i := 21) rfl))) (mvT hZ (hw _ (List.mem_of_getElem? (i := 22) rfl))) (notFace_of_selects (args := #[]) (mvT hZ (hw _ (List.mem_of_getElem? (i := 24) rfl)))) (mvT hZ (hw _ (List.mem_of_getElem? (i := 24) rfl))) (mvT hZ (hw _ (List.mem_of_getElem? (i := 23) rfl))) (by decide) (backOf (W := 0) (rm4 l Z a0 hw [] b1 (ia &&& (2147483647 : Int32)) (iz &&& (2147483647 : Int32)) T4.heap n0 Z4 P1_2'4 P3_2'4) hZ (hw _ (List.mem_of_getElem? (i := 25) rfl)) (hw _ (List.mem_of_getElem? (i := 3) rfl)) (by decide) (by decide)) q5a q5c (g := (mkF m 46 #[.val (.int ia), .val (.int ip), .val (.int iz), .val (.int (ia &&& (2147483647 : Int32))), .val (.int (ip &&& (2147483647 : Int32))), .val (.int (iz &&& (2147483647 : Int32))), .val (.ref b1), .val (.ref b3), .unset, .unset, .unset, .unset, .unset, .unset, .unset] [(.ref b1)])) rfl (by rw [hml]; rfl) (Steps.refl _) (argsL := []) (rest := []) (lenOf pd_2 rfl) rfl (by show 2 * 0 + _ ≤ _; exact Nat.le_of_eq rfl) (hb hby at_46) (fun _ _ => ⟨rfl, rfl, (by decide : ((((0 + 1) + 0) + 1) + 0) + 0 ≤ _), (by decide : ((((0 + 3) + 0) + 3) + 0) + 0 ≤ _)⟩)
  dsimp only [Pt.U, Pt.locs, Pt.cells, Pt.slots] at X5 l5 y5 z5 st5 hQ5
  subst l5 y5 z5
  obtain ⟨rfl, Nq5, eh5⟩ := hQ5
  have N5 := Fr.app N4 Nq5
  refine own_via (G := T5.setTop (mkF m 49 #[.val (.int ia), .val (.int ip), .val (.int iz), .val (.int (ia &&& (2147483647 : Int32))), .val (.int (ip &&& (2147483647 : Int32))), .val (.int (iz &&& (2147483647 : Int32))), .val (.ref b1), .val (.ref b3), .unset, .unset, .unset, .unset, .unset, .unset, .unset] [(.long (own_sa (ia &&& (2147483647 : Int32)) (iz &&& (2147483647 : Int32))))])) (fun t k => st5.trans k) ?_
  refine own_via (G := T5.setTop (mkF m 51 #[.val (.int ia), .val (.int ip), .val (.int iz), .val (.int (ia &&& (2147483647 : Int32))), .val (.int (ip &&& (2147483647 : Int32))), .val (.int (iz &&& (2147483647 : Int32))), .val (.ref b1), .val (.ref b3), .val (.long (own_sa (ia &&& (2147483647 : Int32)) (iz &&& (2147483647 : Int32)))), .second, .unset, .unset, .unset, .unset, .unset] [])) (fun t k => XT.lstore X5.here hx rfl (hb hby at_49) rfl (l' := #[.val (.int ia), .val (.int ip), .val (.int iz), .val (.int (ia &&& (2147483647 : Int32))), .val (.int (ip &&& (2147483647 : Int32))), .val (.int (iz &&& (2147483647 : Int32))), .val (.ref b1), .val (.ref b3), .val (.long (own_sa (ia &&& (2147483647 : Int32)) (iz &&& (2147483647 : Int32)))), .second, .unset, .unset, .unset, .unset, .unset]) rfl k) ?_
  refine own_via (G := T5.setTop (mkF m 53 #[.val (.int ia), .val (.int ip), .val (.int iz), .val (.int (ia &&& (2147483647 : Int32))), .val (.int (ip &&& (2147483647 : Int32))), .val (.int (iz &&& (2147483647 : Int32))), .val (.ref b1), .val (.ref b3), .val (.long (own_sa (ia &&& (2147483647 : Int32)) (iz &&& (2147483647 : Int32)))), .second, .unset, .unset, .unset, .unset, .unset] [(.ref b3)])) (fun t k => XS.aload X5.here hx rfl (hb hby at_51) rfl rfl k) ?_
  obtain ⟨cq6, kq6, q6a, q6b, q6c⟩ := isOf hZ eh5 P0_4
  obtain ⟨_, _, ⟨T6, L6, k6, n6⟩, -, X6, ⟨Lc6, hQ6, l6, y6, z6⟩, st6⟩ := X5.virtualBack hx (y := (⟨"com/example/seatledger/seatledger/consumption/Allocation", "sharedAllocation", "()J"⟩ : MethodName)) (z := (⟨"com/example/seatledger/seatledger/consumption/Allocation", "sharedAllocation", "()J"⟩ : MethodName)) hown (mvT hZ (hw _ (List.mem_of_getElem? (i := 21) rfl))) (mvT hZ (hw _ (List.mem_of_getElem? (i := 22) rfl))) (notFace_of_selects (args := #[]) (mvT hZ (hw _ (List.mem_of_getElem? (i := 24) rfl)))) (mvT hZ (hw _ (List.mem_of_getElem? (i := 24) rfl))) (mvT hZ (hw _ (List.mem_of_getElem? (i := 23) rfl))) (by decide) (backOf (W := 0) (rm4 l Z a0 hw [] b3 (ia &&& (2147483647 : Int32)) (iz &&& (2147483647 : Int32)) T4.heap n0 Z4 P1_4 P3_4) hZ (hw _ (List.mem_of_getElem? (i := 25) rfl)) (hw _ (List.mem_of_getElem? (i := 3) rfl)) (by decide) (by decide)) q6a q6c (g := (mkF m 53 #[.val (.int ia), .val (.int ip), .val (.int iz), .val (.int (ia &&& (2147483647 : Int32))), .val (.int (ip &&& (2147483647 : Int32))), .val (.int (iz &&& (2147483647 : Int32))), .val (.ref b1), .val (.ref b3), .val (.long (own_sa (ia &&& (2147483647 : Int32)) (iz &&& (2147483647 : Int32)))), .second, .unset, .unset, .unset, .unset, .unset] [(.ref b3)])) rfl (by rw [hml]; rfl) (Steps.refl _) (argsL := []) (rest := []) (lenOf pd_2 rfl) rfl (by show 2 * 0 + _ ≤ _; exact Nat.le_of_eq rfl) (hb hby at_53) (fun _ _ => ⟨rfl, eh5, (by decide : (((((0 + 1) + 0) + 1) + 0) + 0) + 0 ≤ _), (by decide : (((((0 + 3) + 0) + 3) + 0) + 0) + 0 ≤ _)⟩)
  dsimp only [Pt.U, Pt.locs, Pt.cells, Pt.slots] at X6 l6 y6 z6 st6 hQ6
  subst l6 y6 z6
  obtain ⟨rfl, Nq6, eh6⟩ := hQ6
  have N6 := Fr.app N5 Nq6
  refine own_via (G := T6.setTop (mkF m 56 #[.val (.int ia), .val (.int ip), .val (.int iz), .val (.int (ia &&& (2147483647 : Int32))), .val (.int (ip &&& (2147483647 : Int32))), .val (.int (iz &&& (2147483647 : Int32))), .val (.ref b1), .val (.ref b3), .val (.long (own_sa (ia &&& (2147483647 : Int32)) (iz &&& (2147483647 : Int32)))), .second, .unset, .unset, .unset, .unset, .unset] [(.long (own_sa (ia &&& (2147483647 : Int32)) (iz &&& (2147483647 : Int32))))])) (fun t k => st6.trans k) ?_
  refine own_via (G := T6.setTop (mkF m 58 #[.val (.int ia), .val (.int ip), .val (.int iz), .val (.int (ia &&& (2147483647 : Int32))), .val (.int (ip &&& (2147483647 : Int32))), .val (.int (iz &&& (2147483647 : Int32))), .val (.ref b1), .val (.ref b3), .val (.long (own_sa (ia &&& (2147483647 : Int32)) (iz &&& (2147483647 : Int32)))), .second, .val (.long (own_sa (ia &&& (2147483647 : Int32)) (iz &&& (2147483647 : Int32)))), .second, .unset, .unset, .unset] [])) (fun t k => XT.lstore X6.here hx rfl (hb hby at_56) rfl (l' := #[.val (.int ia), .val (.int ip), .val (.int iz), .val (.int (ia &&& (2147483647 : Int32))), .val (.int (ip &&& (2147483647 : Int32))), .val (.int (iz &&& (2147483647 : Int32))), .val (.ref b1), .val (.ref b3), .val (.long (own_sa (ia &&& (2147483647 : Int32)) (iz &&& (2147483647 : Int32)))), .second, .val (.long (own_sa (ia &&& (2147483647 : Int32)) (iz &&& (2147483647 : Int32)))), .second, .unset, .unset, .unset]) rfl k) ?_
  refine own_via (G := T6.setTop (mkF m 60 #[.val (.int ia), .val (.int ip), .val (.int iz), .val (.int (ia &&& (2147483647 : Int32))), .val (.int (ip &&& (2147483647 : Int32))), .val (.int (iz &&& (2147483647 : Int32))), .val (.ref b1), .val (.ref b3), .val (.long (own_sa (ia &&& (2147483647 : Int32)) (iz &&& (2147483647 : Int32)))), .second, .val (.long (own_sa (ia &&& (2147483647 : Int32)) (iz &&& (2147483647 : Int32)))), .second, .unset, .unset, .unset] [(.long (own_sa (ia &&& (2147483647 : Int32)) (iz &&& (2147483647 : Int32))))])) (fun t k => XT.lload X6.here hx rfl (hb hby at_58) rfl k) ?_
  refine own_via (G := T6.setTop (mkF m 62 #[.val (.int ia), .val (.int ip), .val (.int iz), .val (.int (ia &&& (2147483647 : Int32))), .val (.int (ip &&& (2147483647 : Int32))), .val (.int (iz &&& (2147483647 : Int32))), .val (.ref b1), .val (.ref b3), .val (.long (own_sa (ia &&& (2147483647 : Int32)) (iz &&& (2147483647 : Int32)))), .second, .val (.long (own_sa (ia &&& (2147483647 : Int32)) (iz &&& (2147483647 : Int32)))), .second, .unset, .unset, .unset] [(.int (iz &&& (2147483647 : Int32))), (.long (own_sa (ia &&& (2147483647 : Int32)) (iz &&& (2147483647 : Int32))))])) (fun t k => XS.iload X6.here hx rfl (hb hby at_60) rfl k) ?_
  refine own_via (G := T6.setTop (mkF m 63 #[.val (.int ia), .val (.int ip), .val (.int iz), .val (.int (ia &&& (2147483647 : Int32))), .val (.int (ip &&& (2147483647 : Int32))), .val (.int (iz &&& (2147483647 : Int32))), .val (.ref b1), .val (.ref b3), .val (.long (own_sa (ia &&& (2147483647 : Int32)) (iz &&& (2147483647 : Int32)))), .second, .val (.long (own_sa (ia &&& (2147483647 : Int32)) (iz &&& (2147483647 : Int32)))), .second, .unset, .unset, .unset] [(.long ((iz &&& (2147483647 : Int32)).toInt64)), (.long (own_sa (ia &&& (2147483647 : Int32)) (iz &&& (2147483647 : Int32))))])) (fun t k => XT.i2l X6.here hx rfl (hb hby at_62) rfl k) ?_
  refine own_via (G := T6.setTop (mkF m 64 #[.val (.int ia), .val (.int ip), .val (.int iz), .val (.int (ia &&& (2147483647 : Int32))), .val (.int (ip &&& (2147483647 : Int32))), .val (.int (iz &&& (2147483647 : Int32))), .val (.ref b1), .val (.ref b3), .val (.long (own_sa (ia &&& (2147483647 : Int32)) (iz &&& (2147483647 : Int32)))), .second, .val (.long (own_sa (ia &&& (2147483647 : Int32)) (iz &&& (2147483647 : Int32)))), .second, .unset, .unset, .unset] [(.long ((own_sa (ia &&& (2147483647 : Int32)) (iz &&& (2147483647 : Int32))) - ((iz &&& (2147483647 : Int32)).toInt64)))])) (fun t k => XT.lsub X6.here hx rfl (hb hby at_63) rfl k) ?_
  refine own_via (G := T6.setTop (mkF m 66 #[.val (.int ia), .val (.int ip), .val (.int iz), .val (.int (ia &&& (2147483647 : Int32))), .val (.int (ip &&& (2147483647 : Int32))), .val (.int (iz &&& (2147483647 : Int32))), .val (.ref b1), .val (.ref b3), .val (.long (own_sa (ia &&& (2147483647 : Int32)) (iz &&& (2147483647 : Int32)))), .second, .val (.long (own_sa (ia &&& (2147483647 : Int32)) (iz &&& (2147483647 : Int32)))), .second, .val (.long ((own_sa (ia &&& (2147483647 : Int32)) (iz &&& (2147483647 : Int32))) - ((iz &&& (2147483647 : Int32)).toInt64))), .second, .unset] [])) (fun t k => XT.lstore X6.here hx rfl (hb hby at_64) rfl (l' := #[.val (.int ia), .val (.int ip), .val (.int iz), .val (.int (ia &&& (2147483647 : Int32))), .val (.int (ip &&& (2147483647 : Int32))), .val (.int (iz &&& (2147483647 : Int32))), .val (.ref b1), .val (.ref b3), .val (.long (own_sa (ia &&& (2147483647 : Int32)) (iz &&& (2147483647 : Int32)))), .second, .val (.long (own_sa (ia &&& (2147483647 : Int32)) (iz &&& (2147483647 : Int32)))), .second, .val (.long ((own_sa (ia &&& (2147483647 : Int32)) (iz &&& (2147483647 : Int32))) - ((iz &&& (2147483647 : Int32)).toInt64))), .second, .unset]) rfl k) ?_
  refine own_via (G := T6.setTop (mkF m 68 #[.val (.int ia), .val (.int ip), .val (.int iz), .val (.int (ia &&& (2147483647 : Int32))), .val (.int (ip &&& (2147483647 : Int32))), .val (.int (iz &&& (2147483647 : Int32))), .val (.ref b1), .val (.ref b3), .val (.long (own_sa (ia &&& (2147483647 : Int32)) (iz &&& (2147483647 : Int32)))), .second, .val (.long (own_sa (ia &&& (2147483647 : Int32)) (iz &&& (2147483647 : Int32)))), .second, .val (.long ((own_sa (ia &&& (2147483647 : Int32)) (iz &&& (2147483647 : Int32))) - ((iz &&& (2147483647 : Int32)).toInt64))), .second, .unset] [(.long ((own_sa (ia &&& (2147483647 : Int32)) (iz &&& (2147483647 : Int32))) - ((iz &&& (2147483647 : Int32)).toInt64)))])) (fun t k => XT.lload X6.here hx rfl (hb hby at_66) rfl k) ?_
  refine own_via (G := T6.setTop (mkF m 69 #[.val (.int ia), .val (.int ip), .val (.int iz), .val (.int (ia &&& (2147483647 : Int32))), .val (.int (ip &&& (2147483647 : Int32))), .val (.int (iz &&& (2147483647 : Int32))), .val (.ref b1), .val (.ref b3), .val (.long (own_sa (ia &&& (2147483647 : Int32)) (iz &&& (2147483647 : Int32)))), .second, .val (.long (own_sa (ia &&& (2147483647 : Int32)) (iz &&& (2147483647 : Int32)))), .second, .val (.long ((own_sa (ia &&& (2147483647 : Int32)) (iz &&& (2147483647 : Int32))) - ((iz &&& (2147483647 : Int32)).toInt64))), .second, .unset] [(.long (0 : Int64)), (.long ((own_sa (ia &&& (2147483647 : Int32)) (iz &&& (2147483647 : Int32))) - ((iz &&& (2147483647 : Int32)).toInt64)))])) (fun t k => XT.lconst X6.here hx rfl (hb hby at_68) k) ?_
  refine own_via (G := T6.setTop (mkF m 70 #[.val (.int ia), .val (.int ip), .val (.int iz), .val (.int (ia &&& (2147483647 : Int32))), .val (.int (ip &&& (2147483647 : Int32))), .val (.int (iz &&& (2147483647 : Int32))), .val (.ref b1), .val (.ref b3), .val (.long (own_sa (ia &&& (2147483647 : Int32)) (iz &&& (2147483647 : Int32)))), .second, .val (.long (own_sa (ia &&& (2147483647 : Int32)) (iz &&& (2147483647 : Int32)))), .second, .val (.long ((own_sa (ia &&& (2147483647 : Int32)) (iz &&& (2147483647 : Int32))) - ((iz &&& (2147483647 : Int32)).toInt64))), .second, .unset] [(.int (XT.cmpL ((own_sa (ia &&& (2147483647 : Int32)) (iz &&& (2147483647 : Int32))) - ((iz &&& (2147483647 : Int32)).toInt64)) (0 : Int64)))])) (fun t k => XT.lcmp X6.here hx rfl (hb hby at_69) rfl k) ?_
  have hc7_70 : ¬ (((own_sa (ia &&& (2147483647 : Int32)) (iz &&& (2147483647 : Int32))) - ((iz &&& (2147483647 : Int32)).toInt64)) < (0 : Int64)) := own_c1 _ _ (own_mk _).1
  refine own_via (G := T6.setTop (mkF m 73 #[.val (.int ia), .val (.int ip), .val (.int iz), .val (.int (ia &&& (2147483647 : Int32))), .val (.int (ip &&& (2147483647 : Int32))), .val (.int (iz &&& (2147483647 : Int32))), .val (.ref b1), .val (.ref b3), .val (.long (own_sa (ia &&& (2147483647 : Int32)) (iz &&& (2147483647 : Int32)))), .second, .val (.long (own_sa (ia &&& (2147483647 : Int32)) (iz &&& (2147483647 : Int32)))), .second, .val (.long ((own_sa (ia &&& (2147483647 : Int32)) (iz &&& (2147483647 : Int32))) - ((iz &&& (2147483647 : Int32)).toInt64))), .second, .unset] [])) (fun t k => XS.ifNo X6.here hx rfl (hb hby at_70) rfl (XT.ll_lt_f hc7_70) k) ?_
  refine own_via (G := T6.setTop (mkF m 76 #[.val (.int ia), .val (.int ip), .val (.int iz), .val (.int (ia &&& (2147483647 : Int32))), .val (.int (ip &&& (2147483647 : Int32))), .val (.int (iz &&& (2147483647 : Int32))), .val (.ref b1), .val (.ref b3), .val (.long (own_sa (ia &&& (2147483647 : Int32)) (iz &&& (2147483647 : Int32)))), .second, .val (.long (own_sa (ia &&& (2147483647 : Int32)) (iz &&& (2147483647 : Int32)))), .second, .val (.long ((own_sa (ia &&& (2147483647 : Int32)) (iz &&& (2147483647 : Int32))) - ((iz &&& (2147483647 : Int32)).toInt64))), .second, .unset] [(.long (2 : Int64))])) (fun t k => X6.ldc2J hx hown (mvT hZ (hw _ (List.mem_of_getElem? (i := 26) rfl))) (g := (mkF m 73 #[.val (.int ia), .val (.int ip), .val (.int iz), .val (.int (ia &&& (2147483647 : Int32))), .val (.int (ip &&& (2147483647 : Int32))), .val (.int (iz &&& (2147483647 : Int32))), .val (.ref b1), .val (.ref b3), .val (.long (own_sa (ia &&& (2147483647 : Int32)) (iz &&& (2147483647 : Int32)))), .second, .val (.long (own_sa (ia &&& (2147483647 : Int32)) (iz &&& (2147483647 : Int32)))), .second, .val (.long ((own_sa (ia &&& (2147483647 : Int32)) (iz &&& (2147483647 : Int32))) - ((iz &&& (2147483647 : Int32)).toInt64))), .second, .unset] [])) rfl (hb hby at_73) k) ?_
  refine own_via (G := T6.setTop (mkF m 78 #[.val (.int ia), .val (.int ip), .val (.int iz), .val (.int (ia &&& (2147483647 : Int32))), .val (.int (ip &&& (2147483647 : Int32))), .val (.int (iz &&& (2147483647 : Int32))), .val (.ref b1), .val (.ref b3), .val (.long (own_sa (ia &&& (2147483647 : Int32)) (iz &&& (2147483647 : Int32)))), .second, .val (.long (own_sa (ia &&& (2147483647 : Int32)) (iz &&& (2147483647 : Int32)))), .second, .val (.long ((own_sa (ia &&& (2147483647 : Int32)) (iz &&& (2147483647 : Int32))) - ((iz &&& (2147483647 : Int32)).toInt64))), .second, .unset] [(.long ((own_sa (ia &&& (2147483647 : Int32)) (iz &&& (2147483647 : Int32))) - ((iz &&& (2147483647 : Int32)).toInt64))), (.long (2 : Int64))])) (fun t k => XT.lload X6.here hx rfl (hb hby at_76) rfl k) ?_
  refine own_via (G := T6.setTop (mkF m 79 #[.val (.int ia), .val (.int ip), .val (.int iz), .val (.int (ia &&& (2147483647 : Int32))), .val (.int (ip &&& (2147483647 : Int32))), .val (.int (iz &&& (2147483647 : Int32))), .val (.ref b1), .val (.ref b3), .val (.long (own_sa (ia &&& (2147483647 : Int32)) (iz &&& (2147483647 : Int32)))), .second, .val (.long (own_sa (ia &&& (2147483647 : Int32)) (iz &&& (2147483647 : Int32)))), .second, .val (.long ((own_sa (ia &&& (2147483647 : Int32)) (iz &&& (2147483647 : Int32))) - ((iz &&& (2147483647 : Int32)).toInt64))), .second, .unset] [(.long ((2 : Int64) * ((own_sa (ia &&& (2147483647 : Int32)) (iz &&& (2147483647 : Int32))) - ((iz &&& (2147483647 : Int32)).toInt64))))])) (fun t k => XT.lmul X6.here hx rfl (hb hby at_78) rfl k) ?_
  refine own_via (G := T6.setTop (mkF m 80 #[.val (.int ia), .val (.int ip), .val (.int iz), .val (.int (ia &&& (2147483647 : Int32))), .val (.int (ip &&& (2147483647 : Int32))), .val (.int (iz &&& (2147483647 : Int32))), .val (.ref b1), .val (.ref b3), .val (.long (own_sa (ia &&& (2147483647 : Int32)) (iz &&& (2147483647 : Int32)))), .second, .val (.long (own_sa (ia &&& (2147483647 : Int32)) (iz &&& (2147483647 : Int32)))), .second, .val (.long ((own_sa (ia &&& (2147483647 : Int32)) (iz &&& (2147483647 : Int32))) - ((iz &&& (2147483647 : Int32)).toInt64))), .second, .unset] [(.int (ia &&& (2147483647 : Int32))), (.long ((2 : Int64) * ((own_sa (ia &&& (2147483647 : Int32)) (iz &&& (2147483647 : Int32))) - ((iz &&& (2147483647 : Int32)).toInt64))))])) (fun t k => XS.iloadN X6.here hx rfl (hb hby at_79) rfl k) ?_
  refine own_via (G := T6.setTop (mkF m 81 #[.val (.int ia), .val (.int ip), .val (.int iz), .val (.int (ia &&& (2147483647 : Int32))), .val (.int (ip &&& (2147483647 : Int32))), .val (.int (iz &&& (2147483647 : Int32))), .val (.ref b1), .val (.ref b3), .val (.long (own_sa (ia &&& (2147483647 : Int32)) (iz &&& (2147483647 : Int32)))), .second, .val (.long (own_sa (ia &&& (2147483647 : Int32)) (iz &&& (2147483647 : Int32)))), .second, .val (.long ((own_sa (ia &&& (2147483647 : Int32)) (iz &&& (2147483647 : Int32))) - ((iz &&& (2147483647 : Int32)).toInt64))), .second, .unset] [(.long ((ia &&& (2147483647 : Int32)).toInt64)), (.long ((2 : Int64) * ((own_sa (ia &&& (2147483647 : Int32)) (iz &&& (2147483647 : Int32))) - ((iz &&& (2147483647 : Int32)).toInt64))))])) (fun t k => XT.i2l X6.here hx rfl (hb hby at_80) rfl k) ?_
  refine own_via (G := T6.setTop (mkF m 82 #[.val (.int ia), .val (.int ip), .val (.int iz), .val (.int (ia &&& (2147483647 : Int32))), .val (.int (ip &&& (2147483647 : Int32))), .val (.int (iz &&& (2147483647 : Int32))), .val (.ref b1), .val (.ref b3), .val (.long (own_sa (ia &&& (2147483647 : Int32)) (iz &&& (2147483647 : Int32)))), .second, .val (.long (own_sa (ia &&& (2147483647 : Int32)) (iz &&& (2147483647 : Int32)))), .second, .val (.long ((own_sa (ia &&& (2147483647 : Int32)) (iz &&& (2147483647 : Int32))) - ((iz &&& (2147483647 : Int32)).toInt64))), .second, .unset] [(.int (XT.cmpL ((2 : Int64) * ((own_sa (ia &&& (2147483647 : Int32)) (iz &&& (2147483647 : Int32))) - ((iz &&& (2147483647 : Int32)).toInt64))) ((ia &&& (2147483647 : Int32)).toInt64)))])) (fun t k => XT.lcmp X6.here hx rfl (hb hby at_81) rfl k) ?_
  have hc8_82 : ¬ (((ia &&& (2147483647 : Int32)).toInt64) < ((2 : Int64) * ((own_sa (ia &&& (2147483647 : Int32)) (iz &&& (2147483647 : Int32))) - ((iz &&& (2147483647 : Int32)).toInt64)))) := own_c2 _ _ (own_mk _)
  refine own_via (G := T6.setTop (mkF m 85 #[.val (.int ia), .val (.int ip), .val (.int iz), .val (.int (ia &&& (2147483647 : Int32))), .val (.int (ip &&& (2147483647 : Int32))), .val (.int (iz &&& (2147483647 : Int32))), .val (.ref b1), .val (.ref b3), .val (.long (own_sa (ia &&& (2147483647 : Int32)) (iz &&& (2147483647 : Int32)))), .second, .val (.long (own_sa (ia &&& (2147483647 : Int32)) (iz &&& (2147483647 : Int32)))), .second, .val (.long ((own_sa (ia &&& (2147483647 : Int32)) (iz &&& (2147483647 : Int32))) - ((iz &&& (2147483647 : Int32)).toInt64))), .second, .unset] [])) (fun t k => XS.ifNo X6.here hx rfl (hb hby at_82) rfl (XT.ll_gt_f hc8_82) k) ?_
  refine own_via (G := T6.setTop (mkF m 86 #[.val (.int ia), .val (.int ip), .val (.int iz), .val (.int (ia &&& (2147483647 : Int32))), .val (.int (ip &&& (2147483647 : Int32))), .val (.int (iz &&& (2147483647 : Int32))), .val (.ref b1), .val (.ref b3), .val (.long (own_sa (ia &&& (2147483647 : Int32)) (iz &&& (2147483647 : Int32)))), .second, .val (.long (own_sa (ia &&& (2147483647 : Int32)) (iz &&& (2147483647 : Int32)))), .second, .val (.long ((own_sa (ia &&& (2147483647 : Int32)) (iz &&& (2147483647 : Int32))) - ((iz &&& (2147483647 : Int32)).toInt64))), .second, .unset] [(.int (ia &&& (2147483647 : Int32)))])) (fun t k => XS.iloadN X6.here hx rfl (hb hby at_85) rfl k) ?_
  refine own_via (G := T6.setTop (mkF m 87 #[.val (.int ia), .val (.int ip), .val (.int iz), .val (.int (ia &&& (2147483647 : Int32))), .val (.int (ip &&& (2147483647 : Int32))), .val (.int (iz &&& (2147483647 : Int32))), .val (.ref b1), .val (.ref b3), .val (.long (own_sa (ia &&& (2147483647 : Int32)) (iz &&& (2147483647 : Int32)))), .second, .val (.long (own_sa (ia &&& (2147483647 : Int32)) (iz &&& (2147483647 : Int32)))), .second, .val (.long ((own_sa (ia &&& (2147483647 : Int32)) (iz &&& (2147483647 : Int32))) - ((iz &&& (2147483647 : Int32)).toInt64))), .second, .unset] [(.long ((ia &&& (2147483647 : Int32)).toInt64))])) (fun t k => XT.i2l X6.here hx rfl (hb hby at_86) rfl k) ?_
  refine own_via (G := T6.setTop (mkF m 90 #[.val (.int ia), .val (.int ip), .val (.int iz), .val (.int (ia &&& (2147483647 : Int32))), .val (.int (ip &&& (2147483647 : Int32))), .val (.int (iz &&& (2147483647 : Int32))), .val (.ref b1), .val (.ref b3), .val (.long (own_sa (ia &&& (2147483647 : Int32)) (iz &&& (2147483647 : Int32)))), .second, .val (.long (own_sa (ia &&& (2147483647 : Int32)) (iz &&& (2147483647 : Int32)))), .second, .val (.long ((own_sa (ia &&& (2147483647 : Int32)) (iz &&& (2147483647 : Int32))) - ((iz &&& (2147483647 : Int32)).toInt64))), .second, .unset] [(.long (2 : Int64)), (.long ((ia &&& (2147483647 : Int32)).toInt64))])) (fun t k => X6.ldc2J hx hown (mvT hZ (hw _ (List.mem_of_getElem? (i := 26) rfl))) (g := (mkF m 87 #[.val (.int ia), .val (.int ip), .val (.int iz), .val (.int (ia &&& (2147483647 : Int32))), .val (.int (ip &&& (2147483647 : Int32))), .val (.int (iz &&& (2147483647 : Int32))), .val (.ref b1), .val (.ref b3), .val (.long (own_sa (ia &&& (2147483647 : Int32)) (iz &&& (2147483647 : Int32)))), .second, .val (.long (own_sa (ia &&& (2147483647 : Int32)) (iz &&& (2147483647 : Int32)))), .second, .val (.long ((own_sa (ia &&& (2147483647 : Int32)) (iz &&& (2147483647 : Int32))) - ((iz &&& (2147483647 : Int32)).toInt64))), .second, .unset] [(.long ((ia &&& (2147483647 : Int32)).toInt64))])) rfl (hb hby at_87) k) ?_
  refine own_via (G := T6.setTop (mkF m 92 #[.val (.int ia), .val (.int ip), .val (.int iz), .val (.int (ia &&& (2147483647 : Int32))), .val (.int (ip &&& (2147483647 : Int32))), .val (.int (iz &&& (2147483647 : Int32))), .val (.ref b1), .val (.ref b3), .val (.long (own_sa (ia &&& (2147483647 : Int32)) (iz &&& (2147483647 : Int32)))), .second, .val (.long (own_sa (ia &&& (2147483647 : Int32)) (iz &&& (2147483647 : Int32)))), .second, .val (.long ((own_sa (ia &&& (2147483647 : Int32)) (iz &&& (2147483647 : Int32))) - ((iz &&& (2147483647 : Int32)).toInt64))), .second, .unset] [(.long ((own_sa (ia &&& (2147483647 : Int32)) (iz &&& (2147483647 : Int32))) - ((iz &&& (2147483647 : Int32)).toInt64))), (.long (2 : Int64)), (.long ((ia &&& (2147483647 : Int32)).toInt64))])) (fun t k => XT.lload X6.here hx rfl (hb hby at_90) rfl k) ?_
  refine own_via (G := T6.setTop (mkF m 93 #[.val (.int ia), .val (.int ip), .val (.int iz), .val (.int (ia &&& (2147483647 : Int32))), .val (.int (ip &&& (2147483647 : Int32))), .val (.int (iz &&& (2147483647 : Int32))), .val (.ref b1), .val (.ref b3), .val (.long (own_sa (ia &&& (2147483647 : Int32)) (iz &&& (2147483647 : Int32)))), .second, .val (.long (own_sa (ia &&& (2147483647 : Int32)) (iz &&& (2147483647 : Int32)))), .second, .val (.long ((own_sa (ia &&& (2147483647 : Int32)) (iz &&& (2147483647 : Int32))) - ((iz &&& (2147483647 : Int32)).toInt64))), .second, .unset] [(.long ((2 : Int64) * ((own_sa (ia &&& (2147483647 : Int32)) (iz &&& (2147483647 : Int32))) - ((iz &&& (2147483647 : Int32)).toInt64)))), (.long ((ia &&& (2147483647 : Int32)).toInt64))])) (fun t k => XT.lmul X6.here hx rfl (hb hby at_92) rfl k) ?_
  refine own_via (G := T6.setTop (mkF m 94 #[.val (.int ia), .val (.int ip), .val (.int iz), .val (.int (ia &&& (2147483647 : Int32))), .val (.int (ip &&& (2147483647 : Int32))), .val (.int (iz &&& (2147483647 : Int32))), .val (.ref b1), .val (.ref b3), .val (.long (own_sa (ia &&& (2147483647 : Int32)) (iz &&& (2147483647 : Int32)))), .second, .val (.long (own_sa (ia &&& (2147483647 : Int32)) (iz &&& (2147483647 : Int32)))), .second, .val (.long ((own_sa (ia &&& (2147483647 : Int32)) (iz &&& (2147483647 : Int32))) - ((iz &&& (2147483647 : Int32)).toInt64))), .second, .unset] [(.long (1 : Int64)), (.long ((2 : Int64) * ((own_sa (ia &&& (2147483647 : Int32)) (iz &&& (2147483647 : Int32))) - ((iz &&& (2147483647 : Int32)).toInt64)))), (.long ((ia &&& (2147483647 : Int32)).toInt64))])) (fun t k => XT.lconst X6.here hx rfl (hb hby at_93) k) ?_
  refine own_via (G := T6.setTop (mkF m 95 #[.val (.int ia), .val (.int ip), .val (.int iz), .val (.int (ia &&& (2147483647 : Int32))), .val (.int (ip &&& (2147483647 : Int32))), .val (.int (iz &&& (2147483647 : Int32))), .val (.ref b1), .val (.ref b3), .val (.long (own_sa (ia &&& (2147483647 : Int32)) (iz &&& (2147483647 : Int32)))), .second, .val (.long (own_sa (ia &&& (2147483647 : Int32)) (iz &&& (2147483647 : Int32)))), .second, .val (.long ((own_sa (ia &&& (2147483647 : Int32)) (iz &&& (2147483647 : Int32))) - ((iz &&& (2147483647 : Int32)).toInt64))), .second, .unset] [(.long (((2 : Int64) * ((own_sa (ia &&& (2147483647 : Int32)) (iz &&& (2147483647 : Int32))) - ((iz &&& (2147483647 : Int32)).toInt64))) + (1 : Int64))), (.long ((ia &&& (2147483647 : Int32)).toInt64))])) (fun t k => XT.ladd X6.here hx rfl (hb hby at_94) rfl k) ?_
  refine own_via (G := T6.setTop (mkF m 96 #[.val (.int ia), .val (.int ip), .val (.int iz), .val (.int (ia &&& (2147483647 : Int32))), .val (.int (ip &&& (2147483647 : Int32))), .val (.int (iz &&& (2147483647 : Int32))), .val (.ref b1), .val (.ref b3), .val (.long (own_sa (ia &&& (2147483647 : Int32)) (iz &&& (2147483647 : Int32)))), .second, .val (.long (own_sa (ia &&& (2147483647 : Int32)) (iz &&& (2147483647 : Int32)))), .second, .val (.long ((own_sa (ia &&& (2147483647 : Int32)) (iz &&& (2147483647 : Int32))) - ((iz &&& (2147483647 : Int32)).toInt64))), .second, .unset] [(.int (XT.cmpL ((ia &&& (2147483647 : Int32)).toInt64) (((2 : Int64) * ((own_sa (ia &&& (2147483647 : Int32)) (iz &&& (2147483647 : Int32))) - ((iz &&& (2147483647 : Int32)).toInt64))) + (1 : Int64))))])) (fun t k => XT.lcmp X6.here hx rfl (hb hby at_95) rfl k) ?_
  have hc9_96 : ¬ ((((2 : Int64) * ((own_sa (ia &&& (2147483647 : Int32)) (iz &&& (2147483647 : Int32))) - ((iz &&& (2147483647 : Int32)).toInt64))) + (1 : Int64)) < ((ia &&& (2147483647 : Int32)).toInt64)) := own_c3 _ _ (own_mk _)
  refine own_via (G := T6.setTop (mkF m 99 #[.val (.int ia), .val (.int ip), .val (.int iz), .val (.int (ia &&& (2147483647 : Int32))), .val (.int (ip &&& (2147483647 : Int32))), .val (.int (iz &&& (2147483647 : Int32))), .val (.ref b1), .val (.ref b3), .val (.long (own_sa (ia &&& (2147483647 : Int32)) (iz &&& (2147483647 : Int32)))), .second, .val (.long (own_sa (ia &&& (2147483647 : Int32)) (iz &&& (2147483647 : Int32)))), .second, .val (.long ((own_sa (ia &&& (2147483647 : Int32)) (iz &&& (2147483647 : Int32))) - ((iz &&& (2147483647 : Int32)).toInt64))), .second, .unset] [])) (fun t k => XS.ifNo X6.here hx rfl (hb hby at_96) rfl (XT.ll_gt_f hc9_96) k) ?_
  refine own_via (G := T6.setTop (mkF m 100 #[.val (.int ia), .val (.int ip), .val (.int iz), .val (.int (ia &&& (2147483647 : Int32))), .val (.int (ip &&& (2147483647 : Int32))), .val (.int (iz &&& (2147483647 : Int32))), .val (.ref b1), .val (.ref b3), .val (.long (own_sa (ia &&& (2147483647 : Int32)) (iz &&& (2147483647 : Int32)))), .second, .val (.long (own_sa (ia &&& (2147483647 : Int32)) (iz &&& (2147483647 : Int32)))), .second, .val (.long ((own_sa (ia &&& (2147483647 : Int32)) (iz &&& (2147483647 : Int32))) - ((iz &&& (2147483647 : Int32)).toInt64))), .second, .unset] [(.int (1 : Int32))])) (fun t k => XS.iconst X6.here hx rfl (hb hby at_99) k) ?_
  refine own_via (G := T6.setTop (mkF m 104 #[.val (.int ia), .val (.int ip), .val (.int iz), .val (.int (ia &&& (2147483647 : Int32))), .val (.int (ip &&& (2147483647 : Int32))), .val (.int (iz &&& (2147483647 : Int32))), .val (.ref b1), .val (.ref b3), .val (.long (own_sa (ia &&& (2147483647 : Int32)) (iz &&& (2147483647 : Int32)))), .second, .val (.long (own_sa (ia &&& (2147483647 : Int32)) (iz &&& (2147483647 : Int32)))), .second, .val (.long ((own_sa (ia &&& (2147483647 : Int32)) (iz &&& (2147483647 : Int32))) - ((iz &&& (2147483647 : Int32)).toInt64))), .second, .unset] [(.int (1 : Int32))])) (fun t k => XS.goto X6.here hx rfl (pc0 := 100) (pc' := 104) rfl (hb hby at_100) (by decide) (by decide) k) ?_
  refine own_via (G := T6.setTop (mkF m 106 #[.val (.int ia), .val (.int ip), .val (.int iz), .val (.int (ia &&& (2147483647 : Int32))), .val (.int (ip &&& (2147483647 : Int32))), .val (.int (iz &&& (2147483647 : Int32))), .val (.ref b1), .val (.ref b3), .val (.long (own_sa (ia &&& (2147483647 : Int32)) (iz &&& (2147483647 : Int32)))), .second, .val (.long (own_sa (ia &&& (2147483647 : Int32)) (iz &&& (2147483647 : Int32)))), .second, .val (.long ((own_sa (ia &&& (2147483647 : Int32)) (iz &&& (2147483647 : Int32))) - ((iz &&& (2147483647 : Int32)).toInt64))), .second, .val (.int (1 : Int32))] [])) (fun t k => XS.istore X6.here hx rfl (hb hby at_104) rfl (l' := #[.val (.int ia), .val (.int ip), .val (.int iz), .val (.int (ia &&& (2147483647 : Int32))), .val (.int (ip &&& (2147483647 : Int32))), .val (.int (iz &&& (2147483647 : Int32))), .val (.ref b1), .val (.ref b3), .val (.long (own_sa (ia &&& (2147483647 : Int32)) (iz &&& (2147483647 : Int32)))), .second, .val (.long (own_sa (ia &&& (2147483647 : Int32)) (iz &&& (2147483647 : Int32)))), .second, .val (.long ((own_sa (ia &&& (2147483647 : Int32)) (iz &&& (2147483647 : Int32))) - ((iz &&& (2147483647 : Int32)).toInt64))), .second, .val (.int (1 : Int32))]) rfl k) ?_
  refine own_via (G := T6.setTop (mkF m 108 #[.val (.int ia), .val (.int ip), .val (.int iz), .val (.int (ia &&& (2147483647 : Int32))), .val (.int (ip &&& (2147483647 : Int32))), .val (.int (iz &&& (2147483647 : Int32))), .val (.ref b1), .val (.ref b3), .val (.long (own_sa (ia &&& (2147483647 : Int32)) (iz &&& (2147483647 : Int32)))), .second, .val (.long (own_sa (ia &&& (2147483647 : Int32)) (iz &&& (2147483647 : Int32)))), .second, .val (.long ((own_sa (ia &&& (2147483647 : Int32)) (iz &&& (2147483647 : Int32))) - ((iz &&& (2147483647 : Int32)).toInt64))), .second, .val (.int (1 : Int32))] [(.int (1 : Int32))])) (fun t k => XS.iload X6.here hx rfl (hb hby at_106) rfl k) ?_
  have hc10_108 : ¬ ((1 : Int32) = (0 : Int32)) := (by decide)
  refine own_via (G := T6.setTop (mkF m 111 #[.val (.int ia), .val (.int ip), .val (.int iz), .val (.int (ia &&& (2147483647 : Int32))), .val (.int (ip &&& (2147483647 : Int32))), .val (.int (iz &&& (2147483647 : Int32))), .val (.ref b1), .val (.ref b3), .val (.long (own_sa (ia &&& (2147483647 : Int32)) (iz &&& (2147483647 : Int32)))), .second, .val (.long (own_sa (ia &&& (2147483647 : Int32)) (iz &&& (2147483647 : Int32)))), .second, .val (.long ((own_sa (ia &&& (2147483647 : Int32)) (iz &&& (2147483647 : Int32))) - ((iz &&& (2147483647 : Int32)).toInt64))), .second, .val (.int (1 : Int32))] [])) (fun t k => XS.ifNo X6.here hx rfl (hb hby at_108) rfl (XT.i0_eq_f hc10_108) k) ?_
  refine own_via (G := T6.setTop (mkF m 113 #[.val (.int ia), .val (.int ip), .val (.int iz), .val (.int (ia &&& (2147483647 : Int32))), .val (.int (ip &&& (2147483647 : Int32))), .val (.int (iz &&& (2147483647 : Int32))), .val (.ref b1), .val (.ref b3), .val (.long (own_sa (ia &&& (2147483647 : Int32)) (iz &&& (2147483647 : Int32)))), .second, .val (.long (own_sa (ia &&& (2147483647 : Int32)) (iz &&& (2147483647 : Int32)))), .second, .val (.long ((own_sa (ia &&& (2147483647 : Int32)) (iz &&& (2147483647 : Int32))) - ((iz &&& (2147483647 : Int32)).toInt64))), .second, .val (.int (1 : Int32))] [(.long (own_sa (ia &&& (2147483647 : Int32)) (iz &&& (2147483647 : Int32))))])) (fun t k => XT.lload X6.here hx rfl (hb hby at_111) rfl k) ?_
  refine own_via (G := T6.setTop (mkF m 115 #[.val (.int ia), .val (.int ip), .val (.int iz), .val (.int (ia &&& (2147483647 : Int32))), .val (.int (ip &&& (2147483647 : Int32))), .val (.int (iz &&& (2147483647 : Int32))), .val (.ref b1), .val (.ref b3), .val (.long (own_sa (ia &&& (2147483647 : Int32)) (iz &&& (2147483647 : Int32)))), .second, .val (.long (own_sa (ia &&& (2147483647 : Int32)) (iz &&& (2147483647 : Int32)))), .second, .val (.long ((own_sa (ia &&& (2147483647 : Int32)) (iz &&& (2147483647 : Int32))) - ((iz &&& (2147483647 : Int32)).toInt64))), .second, .val (.int (1 : Int32))] [(.long (own_sa (ia &&& (2147483647 : Int32)) (iz &&& (2147483647 : Int32)))), (.long (own_sa (ia &&& (2147483647 : Int32)) (iz &&& (2147483647 : Int32))))])) (fun t k => XT.lload X6.here hx rfl (hb hby at_113) rfl k) ?_
  refine own_via (G := T6.setTop (mkF m 116 #[.val (.int ia), .val (.int ip), .val (.int iz), .val (.int (ia &&& (2147483647 : Int32))), .val (.int (ip &&& (2147483647 : Int32))), .val (.int (iz &&& (2147483647 : Int32))), .val (.ref b1), .val (.ref b3), .val (.long (own_sa (ia &&& (2147483647 : Int32)) (iz &&& (2147483647 : Int32)))), .second, .val (.long (own_sa (ia &&& (2147483647 : Int32)) (iz &&& (2147483647 : Int32)))), .second, .val (.long ((own_sa (ia &&& (2147483647 : Int32)) (iz &&& (2147483647 : Int32))) - ((iz &&& (2147483647 : Int32)).toInt64))), .second, .val (.int (1 : Int32))] [(.int (XT.cmpL (own_sa (ia &&& (2147483647 : Int32)) (iz &&& (2147483647 : Int32))) (own_sa (ia &&& (2147483647 : Int32)) (iz &&& (2147483647 : Int32)))))])) (fun t k => XT.lcmp X6.here hx rfl (hb hby at_115) rfl k) ?_
  have hc11_116 : (own_sa (ia &&& (2147483647 : Int32)) (iz &&& (2147483647 : Int32))) = (own_sa (ia &&& (2147483647 : Int32)) (iz &&& (2147483647 : Int32))) := rfl
  refine own_via (G := T6.setTop (mkF m 119 #[.val (.int ia), .val (.int ip), .val (.int iz), .val (.int (ia &&& (2147483647 : Int32))), .val (.int (ip &&& (2147483647 : Int32))), .val (.int (iz &&& (2147483647 : Int32))), .val (.ref b1), .val (.ref b3), .val (.long (own_sa (ia &&& (2147483647 : Int32)) (iz &&& (2147483647 : Int32)))), .second, .val (.long (own_sa (ia &&& (2147483647 : Int32)) (iz &&& (2147483647 : Int32)))), .second, .val (.long ((own_sa (ia &&& (2147483647 : Int32)) (iz &&& (2147483647 : Int32))) - ((iz &&& (2147483647 : Int32)).toInt64))), .second, .val (.int (1 : Int32))] [])) (fun t k => XS.ifNo X6.here hx rfl (hb hby at_116) rfl (XT.ll_ne_f hc11_116) k) ?_
  refine own_via (G := T6.setTop (mkF m 120 #[.val (.int ia), .val (.int ip), .val (.int iz), .val (.int (ia &&& (2147483647 : Int32))), .val (.int (ip &&& (2147483647 : Int32))), .val (.int (iz &&& (2147483647 : Int32))), .val (.ref b1), .val (.ref b3), .val (.long (own_sa (ia &&& (2147483647 : Int32)) (iz &&& (2147483647 : Int32)))), .second, .val (.long (own_sa (ia &&& (2147483647 : Int32)) (iz &&& (2147483647 : Int32)))), .second, .val (.long ((own_sa (ia &&& (2147483647 : Int32)) (iz &&& (2147483647 : Int32))) - ((iz &&& (2147483647 : Int32)).toInt64))), .second, .val (.int (1 : Int32))] [(.int (1 : Int32))])) (fun t k => XS.iconst X6.here hx rfl (hb hby at_119) k) ?_
  refine own_via (G := T6.setTop (mkF m 124 #[.val (.int ia), .val (.int ip), .val (.int iz), .val (.int (ia &&& (2147483647 : Int32))), .val (.int (ip &&& (2147483647 : Int32))), .val (.int (iz &&& (2147483647 : Int32))), .val (.ref b1), .val (.ref b3), .val (.long (own_sa (ia &&& (2147483647 : Int32)) (iz &&& (2147483647 : Int32)))), .second, .val (.long (own_sa (ia &&& (2147483647 : Int32)) (iz &&& (2147483647 : Int32)))), .second, .val (.long ((own_sa (ia &&& (2147483647 : Int32)) (iz &&& (2147483647 : Int32))) - ((iz &&& (2147483647 : Int32)).toInt64))), .second, .val (.int (1 : Int32))] [(.int (1 : Int32))])) (fun t k => XS.goto X6.here hx rfl (pc0 := 120) (pc' := 124) rfl (hb hby at_120) (by decide) (by decide) k) ?_
  exact own_fin X6 eh6 (v := some (.int (1 : Int32))) (fun h => by rw [hret] at h; cases h) hlk (fun fs hr => retN X6 hx (t := .boolean) hret (by simp) (hb hby at_124) hr) (show ((fun v h L => Q0 Z ia ip iz h0 n0 v h L)) (some (.int (1 : Int32))) T4.heap _ from ⟨rfl, N6⟩) (by decide) (by decide)
theorem pn_2 : plainName "com/example/seatledger/seatledger/consumption/AllocationSharedAllocationPinLaw" = true := by first | (simp [plainName, overriddenIn]; done) | decide +kernel
theorem ef_0 (m : MethodId) (ia : Int32) (ip : Int32) (iz : Int32) : entryFrame m #[(.int ia), (.int ip), (.int iz)] maxLocals = mkF m 0 #[.val (.int ia), .val (.int ip), .val (.int iz), .unset, .unset, .unset, .unset, .unset, .unset, .unset, .unset, .unset, .unset, .unset, .unset] [] := by first | (simp [entryFrame, mkF, argsToLocals, Value.category, maxLocals]; done) | rfl
set_option maxRecDepth 65536 in
set_option maxHeartbeats 40000000 in
theorem rm0 (l : Launch) (Z : State) (a0 : Array Value) (hw : ∀ d ∈ tables_1, d.before a0 Z = true) (ws : List Jvm.Cond) (ia : Int32) (ip : Int32) (iz : Int32) (h0 : Heap) (n0 : Nat) (Z0 : n0 ≤ h0.size) :
    MetFree l x (head1 (Jvm.Cond.code x code maxLocals ret :: ws) room_1) (fun a U => a = #[(.int ia), (.int ip), (.int iz)] ∧ Z.Warmed39 U.vm ∧ U.heap = h0) (fun _ _ _ _ _ => True) (fun _ U o U' => ∃ v L, o = .returned v ∧ Q0 Z ia ip iz h0 n0 v U'.heap L ∧ FrameEnd U o U' L room_1.cells room_1.slots) := by
  refine MetFree.of_bodySF (plainFor_of_name pn_2) hisR ?_
  intro p e s m args below meth c s₁ Bd hml0 hP hK
  obtain ⟨rfl, hZ, hh⟩ := hP
  have e0 : s₁.heap = h0 := by rw [← hh, Bd.state]; rfl
  rw [ef_0 m ia ip iz]
  exact b0 ia ip iz ⟨Bd.exec, hZ, hw, Bd.bytes, hml0, findClass_of_methodNamed Bd.named, Bd.returns, Bd.notSynchronized, (name_of_methodNamed Bd.named Bd.method).1⟩ (Stand.of_body Bd) e0 Z0 (Fr.nil n0)
set_option maxRecDepth 65536 in
set_option maxHeartbeats 40000000 in
theorem comes_1 {Post : Tables → Env → Array Value → State → Outcome → State → Prop} (hpost : ∀ tb e args s v u, (limb_1_1.after args s (.returned v) u = true ∧ limb_1_2.after args s (.returned v) u = true ∧ True) → FrameEnd s (.returned v) u (Jvm.fieldLocs frame_1_writes args s ++ Jvm.arrayLocs frame_1_arrays args s ++ Jvm.staticLocs frame_1_statics s) 16 128 → Post tb e args s (.returned v) u) :
    ArmFor flags0 classFile x code maxLocals ret World_1 tables_1 room_1 Calls_1 rest_1 Pre_1 Post := by
  intro l hfl _ _ p e ha hc hk s m args below hf hA hF happ hP
  obtain ⟨hcalls, hrest, hpre⟩ := hP
  obtain ⟨-, -, -, hnamed, -, -, -, hat⟩ := (Spec.applies_iff hf).mp happ
  obtain ⟨hg, hn⟩ := and_e (Cond.before_iff.mp (show (Jvm.Cond.and given_1 narrow_1).before args s = true from hpre))
  obtain ⟨hcount, r0⟩ := and_e hg
  obtain ⟨ha0, r1⟩ := and_e r0
  obtain ⟨ha1, r2⟩ := and_e r1
  obtain ⟨w0, w1, w2, rfl⟩ : ∃ w0 w1 w2 : Value, args = #[w0, w1, w2] := by
    have hs : args.size = 3 := by simpa [Cond.value, given_1] using hcount
    obtain ⟨L⟩ := args
    match L, hs with
    | [w0, w1, w2], _ => exact ⟨w0, w1, w2, rfl⟩
  have hw := fun d (hd : d ∈ tables_1) => atoms_spec (ws := Jvm.Cond.code x code maxLocals ret :: tables_1) hat d (List.mem_cons_of_mem _ hd)
  obtain ⟨i0, ei0⟩ := is_v ha0
  obtain rfl : w0 = (.int i0) := Option.some.inj ei0
  obtain ⟨i1, ei1⟩ := is_v ha1
  obtain rfl : w1 = (.int i1) := Option.some.inj ei1
  obtain ⟨i2, ei2⟩ := is_v r2
  obtain rfl : w2 = (.int i2) := Option.some.inj ei2
  obtain ⟨n, o, h1, h2, h3, _, L, rfl, ⟨rfl, N⟩, hq⟩ := rm0 l s _ hw tables_1 i0 i1 i2 s.heap s.heap.size (Nat.le_refl _) p e ha hc hk s m _ below hf ((Spec.applies_iff_loose hf).mp happ).1 ⟨rfl, State.Warmed39.refl s, rfl⟩ trivial
  refine ⟨n, _, h1, h2, h3, hpost _ _ _ _ _ _ ⟨Cond.after_iff.mpr rfl, Cond.after_iff.mpr (eq_i res_at (Term.int_eval (1)) rfl), trivial⟩ ⟨hq.1, hq.2.1, (hq.2.2.sift fun y hy => Or.inr (N y hy)).mono (by decide) (by decide)⟩⟩
theorem main_1_1 : Claimed_1_1 := comes_1 fun _ _ _ _ _ _ h hF => ⟨h.1, hF⟩
theorem main_1_2 : Claimed_1_2 := comes_1 fun _ _ _ _ _ _ h hF => ⟨h.2.1, hF⟩
end Jvm.Pilot.@@N@@
namespace Jvm.Pilot.@@N@@
open Jvm Jvm.ClassFile Sem Op Lib Jvm.Free Jvm.Stand Jvm.Pilot.@@N@@.Jvm.D
/-! MADE BY PROGRAM (witnessworld.py) out of the Statement's table words and the real class files: 10 classes; the members and pool entries that the words name. The judged class is class 1, her method 1. -/
namespace start1
open Jvm.ClassFile
def u (s : String) : CpInfo := .utf8 (stringToUtf16 s)
/-- a pool by its gaps: so many unusable entries, then the entry; so many at the end -/
def gap : Nat → List CpInfo → List CpInfo
  | 0, r => r
  | n + 1, r => .unusable :: gap n r
def poolList (es : List (Nat × CpInfo)) (last : Nat) : List CpInfo := es.foldr (fun e r => gap e.1 (e.2 :: r)) (gap last [])
def pool (es : List (Nat × CpInfo)) (last : Nat) : Array CpInfo := ⟨poolList es last⟩
def fileOf (pool : Array CpInfo) (this : Nat) (attrs : Array Attribute := #[]) (ms : Array MethodInfo := #[]) (fl : Nat := 33) (sup : Nat := 0) (ifs : Array Nat := #[]) (fds : Array FieldInfo := #[]) : ClassFile where
  minorVersion := 0
  majorVersion := 65
  constantPool := pool
  accessFlags := fl
  thisClass := this
  superClass := sup
  interfaces := ifs
  fields := fds
  methods := ms
  attributes := attrs
def plain (name : String) (sup : Option ClassId) : Class where
  name := name
  kind := .ordinary
  loader := none
  accessFlags := 33
  super := sup
  interfaces := #[]
  cf := none
  fields := #[]
  methods := #[]
  instanceTypes := #[]
  staticTypes := #[]
  resolved := #[]
  callSites := []
  init := .initialized
  statics := none
  mirror := none

def pool0 : Array CpInfo := pool [(5, u "<init>"), (0, u "()V"), (1, .class_ 10), (1, u "java/lang/Object")] 113

def k0c0 : Code := { maxStack := 0, maxLocals := 1, code := object_method_1_code, exceptionTable := #[], attributes := #[] }
def k0m0 : Method := { name := "<init>", desc := "()V", sig := { parameters := [], returnType := none }, accessFlags := 1, code := some k0c0 }
/-- java/lang/Object -/
def k0 : Class := { plain "java/lang/Object" none with
  accessFlags := 33
  interfaces := #[]
  cf := some (fileOf pool0 8 #[] #[{ accessFlags := 1, nameIndex := 5, descriptorIndex := 6, attributes := #[] }] 33 0 #[] #[])
  fields := #[]
  methods := #[k0m0]
  instanceTypes := #[]
  staticTypes := #[]
  resolved := Array.replicate 124 none
  statics := none }

def pool1 : Array CpInfo := pool [(2, .class_ 4), (1, u "java/lang/Object"), (0, u "<init>"), (0, u "()V"), (0, .integer 2147483647), (0, .class_ 9), (0, u "com/example/seatledger/seatledger/consumption/Allocation"), (0, .methodref 8 11), (0, .nameAndType 5 12), (0, u "(III)V"), (0, .methodref 8 14), (0, .nameAndType 15 16), (0, u "sharedAllocation"), (0, u "()J"), (0, .long 2), (1, .class_ 20), (0, u "com/example/seatledger/seatledger/consumption/AllocationSharedAllocationPinLaw"), (2, u "law"), (0, u "(III)Z")] 3

def k1m0 : Method := { name := "<init>", desc := "()V", sig := { parameters := [], returnType := none }, accessFlags := 1, code := none }
def k1c1 : Code := { maxStack := 6, maxLocals := 15, code := code, exceptionTable := #[], attributes := #[] }
def k1m1 : Method := { name := "law", desc := "(III)Z", sig := { parameters := [.int, .int, .int], returnType := some .boolean }, accessFlags := 9, code := some k1c1 }
/-- com/example/seatledger/seatledger/consumption/AllocationSharedAllocationPinLaw -/
def k1 : Class := { plain "com/example/seatledger/seatledger/consumption/AllocationSharedAllocationPinLaw" (some 0) with
  accessFlags := 49
  interfaces := #[]
  cf := some (fileOf pool1 19 #[] #[{ accessFlags := 1, nameIndex := 5, descriptorIndex := 6, attributes := #[] }, { accessFlags := 9, nameIndex := 23, descriptorIndex := 24, attributes := #[] }] 49 2 #[] #[])
  fields := #[]
  methods := #[k1m0, k1m1]
  instanceTypes := #[]
  staticTypes := #[]
  resolved := Array.replicate 28 none
  statics := none }

def pool2 : Array CpInfo := pool [(1, .methodref 2 3), (0, .class_ 4), (0, .nameAndType 5 6), (0, u "java/lang/Object"), (0, u "<init>"), (0, u "()V"), (0, .class_ 8), (0, u "java/lang/Record")] 13

def k2c0 : Code := { maxStack := 1, maxLocals := 1, code := jdk_30_method_1_code, exceptionTable := #[], attributes := #[] }
def k2m0 : Method := { name := "<init>", desc := "()V", sig := { parameters := [], returnType := none }, accessFlags := 4, code := some k2c0 }
/-- java/lang/Record -/
def k2 : Class := { plain "java/lang/Record" (some 0) with
  accessFlags := 1057
  interfaces := #[]
  cf := some (fileOf pool2 7 #[] #[{ accessFlags := 4, nameIndex := 5, descriptorIndex := 6, attributes := #[] }] 1057 2 #[] #[])
  fields := #[]
  methods := #[k2m0]
  instanceTypes := #[]
  staticTypes := #[]
  resolved := Array.replicate 22 none
  statics := none }

def pool3 : Array CpInfo := pool [(1, .methodref 2 3), (0, .class_ 4), (0, .nameAndType 5 6), (0, u "java/lang/Record"), (0, u "<init>"), (0, u "()V"), (21, .fieldref 29 30), (0, .class_ 31), (0, .nameAndType 32 33), (0, u "com/example/seatledger/seatledger/consumption/Allocation"), (0, u "active"), (0, u "I"), (0, .fieldref 29 35), (0, .nameAndType 36 33), (0, u "preserve"), (0, .fieldref 29 38), (0, .nameAndType 39 33), (0, u "shared"), (2, u "(III)V"), (22, u "BUFFER_PERCENT"), (2, u "BUFFER_CAP"), (1, u "ACTIVE_PER_SHARED"), (7, u "()J"), (0, u "sharedAllocation")] 25

def k3c0 : Code := { maxStack := 7, maxLocals := 4, code := prog_13_method_1_code, exceptionTable := #[], attributes := #[] }
def k3m0 : Method := { name := "<init>", desc := "(III)V", sig := { parameters := [.int, .int, .int], returnType := none }, accessFlags := 1, code := some k3c0 }
def k3c1 : Code := { maxStack := 4, maxLocals := 1, code := prog_13_method_4_code, exceptionTable := #[], attributes := #[] }
def k3m1 : Method := { name := "sharedAllocation", desc := "()J", sig := { parameters := [], returnType := some .long }, accessFlags := 1, code := some k3c1 }
/-- com/example/seatledger/seatledger/consumption/Allocation -/
def k3 : Class := { plain "com/example/seatledger/seatledger/consumption/Allocation" (some 2) with
  accessFlags := 49
  interfaces := #[]
  cf := some (fileOf pool3 29 #[] #[{ accessFlags := 1, nameIndex := 5, descriptorIndex := 42, attributes := #[] }, { accessFlags := 1, nameIndex := 79, descriptorIndex := 78, attributes := #[] }] 49 2 #[] #[{ accessFlags := 18, nameIndex := 32, descriptorIndex := 33, attributes := #[] }, { accessFlags := 18, nameIndex := 36, descriptorIndex := 33, attributes := #[] }, { accessFlags := 18, nameIndex := 39, descriptorIndex := 33, attributes := #[] }, { accessFlags := 26, nameIndex := 65, descriptorIndex := 33, attributes := #[] }, { accessFlags := 26, nameIndex := 68, descriptorIndex := 33, attributes := #[] }, { accessFlags := 26, nameIndex := 70, descriptorIndex := 33, attributes := #[] }])
  fields := #[{ name := "active", type := .int, accessFlags := 18, slot := 0, constantValue := 0 }, { name := "preserve", type := .int, accessFlags := 18, slot := 1, constantValue := 0 }, { name := "shared", type := .int, accessFlags := 18, slot := 2, constantValue := 0 }, { name := "BUFFER_PERCENT", type := .int, accessFlags := 26, slot := 0, constantValue := 0 }, { name := "BUFFER_CAP", type := .int, accessFlags := 26, slot := 1, constantValue := 0 }, { name := "ACTIVE_PER_SHARED", type := .int, accessFlags := 26, slot := 2, constantValue := 0 }]
  methods := #[k3m0, k3m1]
  instanceTypes := #[.int, .int, .int]
  staticTypes := #[.int, .int, .int]
  resolved := Array.replicate 105 none
  statics := none }

def pool4 : Array CpInfo := pool [(1, u "java/lang/Cloneable"), (0, .class_ 1), (0, u "java/lang/Object"), (0, .class_ 3)] 3

/-- java/lang/Cloneable -/
def k4 : Class := { plain "java/lang/Cloneable" (some 0) with
  accessFlags := 1537
  interfaces := #[]
  cf := some (fileOf pool4 2 #[] #[] 1537 4 #[] #[])
  fields := #[]
  methods := #[]
  instanceTypes := #[]
  staticTypes := #[]
  resolved := Array.replicate 8 none
  statics := none }

def pool5 : Array CpInfo := pool [(1, u "java/io/Serializable"), (0, .class_ 1), (0, u "java/lang/Object"), (0, .class_ 3)] 3

/-- java/io/Serializable -/
def k5 : Class := { plain "java/io/Serializable" (some 0) with
  accessFlags := 1537
  interfaces := #[]
  cf := some (fileOf pool5 2 #[] #[] 1537 4 #[] #[])
  fields := #[]
  methods := #[]
  instanceTypes := #[]
  staticTypes := #[]
  resolved := Array.replicate 8 none
  statics := none }

/-- the primitive byte -/
def k6 : Class := { plain "byte" none with kind := .primitive 'B', accessFlags := 0x411 }
/-- [B -/
def k7 : Class := { plain "[B" (some 0) with kind := .array 6 .byte, interfaces := #[4, 5], accessFlags := 1041 }

/-- the primitive int -/
def k8 : Class := { plain "int" none with kind := .primitive 'I', accessFlags := 0x411 }
/-- [I -/
def k9 : Class := { plain "[I" (some 0) with kind := .array 8 .int, interfaces := #[4, 5], accessFlags := 1041 }

def heap : Heap := #[]
def classes : Array Class := #[k0, k1, k2, k3, k4, k5, k6, k7, k8, k9]
def interned : List (Array UInt16 × Addr) := []
def slotsUsed : Nat := 0
def theMethod : MethodId := ⟨1, 1⟩
def args0 : Array Value := #[.int 5, .int 6, .int 7]
def aboutOver (below : List Frame) : State where
  vm := { classes := classes, interned := interned.toArray }
  heap := heap
  slotsUsed := slotsUsed
  threads := #[{ frames := .invoking theMethod args0 :: below }]
def below0 : List Frame := [.native { method := ⟨0, 0⟩, args := #[] }]
def about1 : State := aboutOver below0
def p0 : Program := .bare "" "" ""
def e0 : Env := launch0.env 0 0 0
theorem w_frames : about1.frames = Frame.invoking theMethod args0 :: below0 := rfl
set_option maxRecDepth 65536 in
theorem w_args : argsFit about1.vm theMethod args0 = true := by decide +kernel
set_option maxRecDepth 65536 in
theorem w_heap : heapFits about1 = true := by decide +kernel
set_option maxRecDepth 65536 in
theorem w_runnable : about1.curStatus? = some .runnable := by decide +kernel
set_option maxRecDepth 65536 in
theorem w_alone : about1.alone = true := by decide +kernel
set_option maxRecDepth 65536 in
theorem w_named : about1.methodNamed? x = some theMethod := by decide +kernel
set_option maxRecDepth 65536 in
theorem w_hears : about1.hears theMethod below0 = true := by decide +kernel
set_option maxRecDepth 65536 in
theorem w_ripe : about1.ripe theMethod args0 below0 = true := by decide +kernel
theorem w_running : about1.status = .running := rfl
set_option maxRecDepth 65536 in
theorem w_room : about1.hasRoom e0.platform room_1 = true :=
  launch0.hasRoom_least _ room_1 (by decide +kernel) (by decide +kernel) (by decide +kernel) (by decide +kernel) (by decide +kernel) (by decide +kernel)
theorem allAtoms_all (ts : List Jvm.Cond) (a : Array Jvm.Value) (st : Jvm.State) : (allAtoms ts).before a st = ts.all (fun c => c.before a st) := by
  induction ts with
  | nil => rfl
  | cons c t ih =>
    show (Jvm.Cond.and c (allAtoms t)).before a st = _
    rw [Jvm.Cond.before_and, ih, List.all_cons]
def words1 : List Jvm.Cond := Jvm.Cond.code x code maxLocals ret :: tables_1
/-- a 'code' word, met by the world's own term for the bytes: nothing is compared byte by byte -/
theorem code_word {y : MethodName} {bytes : ByteArray} {mx : Nat} {rt : Option FieldType} {a : Array Value} {s : State} {m : MethodId} {meth : Method} {c : Code} (h1 : s.methodNamed? y = some m) (h2 : s.vm.method? m = some meth) (h3 : meth.code = some c) (h4 : c.code = bytes)
    (h5 : (c.maxLocals == mx && c.exceptionTable.isEmpty && decide (c.maxStack ≤ mostOperands) && decide (meth.sig.returnType = rt) && !meth.locks && decide (parseMethodDescriptor y.desc = some meth.sig)) = true) : (Jvm.Cond.code y bytes mx rt).before a s = true := by
  simp only [Bool.and_eq_true, beq_iff_eq, Bool.not_eq_true', decide_eq_true_eq] at h5
  obtain ⟨⟨⟨⟨⟨g1, g2⟩, g3⟩, g4⟩, g5⟩, g6⟩ := h5
  simp [Cond.before, Cond.holds, Cond.value, h1, h2, h3, h4, g1, g2, g3, g4, g5, g6]
def isCode : Jvm.Cond → Bool
  | .code _ _ _ _ => true
  | _ => false
theorem all_split {L : List Jvm.Cond} {P : Jvm.Cond → Bool} (h1 : L.all (fun c => isCode c || P c) = true) (h2 : ∀ c ∈ L.filter isCode, P c = true) : L.all P = true := by
  refine List.all_eq_true.mpr fun c hc => ?_
  have h := List.all_eq_true.mp h1 c hc
  rcases Bool.eq_false_or_eq_true (isCode c) with hi | hi
  · exact h2 c (List.mem_filter.mpr ⟨hc, hi⟩)
  · simpa [hi] using h
set_option maxRecDepth 65536 in
theorem w_c0 : (Jvm.Cond.code x code maxLocals ret).before args0 about1 = true := code_word (m := ⟨1, 1⟩) (meth := k1m1) (c := k1c1) (by decide +kernel) rfl rfl rfl (by decide +kernel)
set_option maxRecDepth 65536 in
theorem w_c1 : (Jvm.Cond.code ({ cls := "com/example/seatledger/seatledger/consumption/Allocation", name := "<init>", desc := "(III)V" } : Jvm.MethodName) prog_13_method_1_code (4 : Nat) (Option.none : Option Jvm.ClassFile.FieldType)).before args0 about1 = true := code_word (m := ⟨3, 0⟩) (meth := k3m0) (c := k3c0) (by decide +kernel) rfl rfl rfl (by decide +kernel)
set_option maxRecDepth 65536 in
theorem w_c2 : (Jvm.Cond.code ({ cls := "java/lang/Record", name := "<init>", desc := "()V" } : Jvm.MethodName) jdk_30_method_1_code (1 : Nat) (Option.none : Option Jvm.ClassFile.FieldType)).before args0 about1 = true := code_word (m := ⟨2, 0⟩) (meth := k2m0) (c := k2c0) (by decide +kernel) rfl rfl rfl (by decide +kernel)
set_option maxRecDepth 65536 in
theorem w_c3 : (Jvm.Cond.code ({ cls := "java/lang/Object", name := "<init>", desc := "()V" } : Jvm.MethodName) object_method_1_code (1 : Nat) (Option.none : Option Jvm.ClassFile.FieldType)).before args0 about1 = true := code_word (m := ⟨0, 0⟩) (meth := k0m0) (c := k0c0) (by decide +kernel) rfl rfl rfl (by decide +kernel)
set_option maxRecDepth 65536 in
theorem w_c4 : (Jvm.Cond.code ({ cls := "com/example/seatledger/seatledger/consumption/Allocation", name := "sharedAllocation", desc := "()J" } : Jvm.MethodName) prog_13_method_4_code (1 : Nat) (Option.some Jvm.ClassFile.FieldType.long)).before args0 about1 = true := code_word (m := ⟨3, 1⟩) (meth := k3m1) (c := k3c1) (by decide +kernel) rfl rfl rfl (by decide +kernel)
def codes1 : List Jvm.Cond := [Jvm.Cond.code x code maxLocals ret, Jvm.Cond.code ({ cls := "com/example/seatledger/seatledger/consumption/Allocation", name := "<init>", desc := "(III)V" } : Jvm.MethodName) prog_13_method_1_code (4 : Nat) (Option.none : Option Jvm.ClassFile.FieldType), Jvm.Cond.code ({ cls := "java/lang/Record", name := "<init>", desc := "()V" } : Jvm.MethodName) jdk_30_method_1_code (1 : Nat) (Option.none : Option Jvm.ClassFile.FieldType), Jvm.Cond.code ({ cls := "java/lang/Object", name := "<init>", desc := "()V" } : Jvm.MethodName) object_method_1_code (1 : Nat) (Option.none : Option Jvm.ClassFile.FieldType), Jvm.Cond.code ({ cls := "com/example/seatledger/seatledger/consumption/Allocation", name := "sharedAllocation", desc := "()J" } : Jvm.MethodName) prog_13_method_4_code (1 : Nat) (Option.some Jvm.ClassFile.FieldType.long)]
set_option maxRecDepth 65536 in
theorem codes_eq : words1.filter isCode = codes1 := rfl
theorem w_codes : ∀ c ∈ words1.filter isCode, c.before args0 about1 = true := by
  rw [codes_eq]
  intro c hc
  simp only [codes1, List.mem_cons, List.not_mem_nil, or_false] at hc
  rcases hc with rfl | rfl | rfl | rfl | rfl
  · exact w_c0
  · exact w_c1
  · exact w_c2
  · exact w_c3
  · exact w_c4
set_option maxRecDepth 65536 in
theorem w_t1 : (words1.take 24).all (fun c => isCode c || c.before args0 about1) = true := by decide +kernel
set_option maxRecDepth 65536 in
theorem w_t2 : (words1.drop 24).all (fun c => isCode c || c.before args0 about1) = true := by decide +kernel
theorem w_tables : (allAtoms (Jvm.Cond.code x code maxLocals ret :: tables_1)).before args0 about1 = true := by
  rw [allAtoms_all]
  show words1.all (fun c => c.before args0 about1) = true
  refine all_split ?_ w_codes
  rw [← List.take_append_drop 24 words1, List.all_append, w_t1, w_t2]
  rfl
set_option maxRecDepth 65536 in
theorem w_case : (Jvm.Cond.and given_1 narrow_1).before args0 about1 = true := by decide +kernel
theorem w_applies : (headSpec (Jvm.Cond.code x code maxLocals ret :: tables_1) room_1).applies x e0.platform about1 = true :=
  (Spec.applies_iff w_frames).mpr ⟨w_running, w_runnable, w_alone, w_named, w_hears, w_ripe, w_room, w_tables⟩
theorem atStart : AtStart classFile x code maxLocals ret World_1 tables_1 room_1 Calls_1 rest_1 Pre_1 launch0 p0 e0 about1 theMethod args0 below0 :=
  ⟨lists_1, trivial, launch0.admits_env _ _ _, launch0.least_env, fairChoices_fair.cas, fairChoices_fair.clock, w_frames, w_args, w_heap, w_applies, trivial, trivial, w_case⟩
end start1
theorem witness_1 : WitnessClaimed_1 := ⟨start1.p0, start1.e0, start1.about1, start1.theMethod, start1.args0, start1.below0, start1.atStart⟩
end Jvm.Pilot.@@N@@
