import JvmDerived
import JvmDerived.Pilot.@@N@@Statement
import JvmDerived.Pilot.@@N@@Code
set_option linter.unusedVariables false
set_option linter.unusedSimpArgs false
@@BLOCK:NumsL.lean.txt@@
namespace Jvm.RoadKit
open Sem ClassFile Op Lib Jvm.Stand Jvm.Free Jvm.LawKit
section New
variable {p : Program} {l : Launch} {e : Env} {R : Room} {s : State} {m : MethodId} {args : Array Value} {below : List Frame} {meth : Method} {c : Code} {T : State} {locs : List Loc} {cells slots : Nat}
theorem retI (X : Stand p l e R s m args below meth c T locs cells slots) (hx : p.tables.exec = Jvm.exec) {pc : Nat} {Ls : Array Slot} {z : Int32} {rest : List Value} (hret : meth.sig.returnType = some .int) (hd : decode c.code pc = .ok (.ireturn, 1)) {fs : List Frame}
    (hl : ∀ (f : JFrame) (acts : List Action), f.method = m → f.locked = none → f.entered = [] → (doReturn e (T.setTop f) acts (some (.int z))).1 = T.setFrames fs) : Steps p.tables e below (T.setTop (mkF m pc Ls (.int z :: rest))) (T.setFrames fs) := by
  have hm' : T.vm.method? m = some meth := X.method'
  have hn : narrow .int (.int z) = .int z := rfl
  show Steps p.tables e below (T.setTop { method := m, pc := pc, locals := Ls, stack := _ :: rest, locked := none }) _
  jvm_step X.here [X.here.top, hx, hd, hm', hret, hn]
  first | (intro acts; rw [hl _ acts rfl rfl rfl]) | rw [hl _ _ rfl rfl rfl]
  exact Steps.refl _
end New
end Jvm.RoadKit
namespace Jvm.Pilot.@@N@@
open Jvm Jvm.ClassFile Sem Op Lib Jvm.Free Jvm.Stand Jvm.LawKit Jvm.RoadKit Bundle Jvm.Pilot.@@N@@.Jvm.D
/-- from F on the run comes to the method's end, and K holds there -/
def own_Go (tb : Tables) (e : Env) (below : List Frame) (F : State) (K : Outcome → State → Prop) : Prop := ∃ t o, Steps tb e below F t ∧ t.status = .running ∧ Ended t below o ∧ K o t
theorem own_via {tb : Tables} {e : Env} {below : List Frame} {F G : State} {K : Outcome → State → Prop} (h : ∀ t, Steps tb e below G t → Steps tb e below F t) (k : own_Go tb e below G K) : own_Go tb e below F K := by
  obtain ⟨t, o, h1, h2⟩ := k
  exact ⟨t, o, h t h1, h2⟩
/-- what is asked at the end: it has returned, Q holds of the value, the heap and what was written -/
def own_K (s : State) (Q : Option Value → Heap → List Loc → Prop) (kc ks : Nat) (o : Outcome) (t : State) : Prop := ∃ v L, o = .returned v ∧ Q v t.heap L ∧ FrameEnd s o t L kc ks
/-- what a walk knows of its method all along -/
def own_C (p : Program) (s : State) (m : MethodId) (meth : Method) (c : Code) (Z : State) (a0 : Array Value) (bytes : ByteArray) (ml : Nat) (cls : String) (rt : Option FieldType) (nme : String) : Prop :=
  p.tables.exec = Jvm.exec ∧ Z.Warmed39 s.vm ∧ (∀ d ∈ tables_1, d.before a0 Z = true) ∧ c.code = bytes ∧ c.maxLocals = ml ∧ s.vm.findClass cls = some m.cls ∧ meth.sig.returnType = rt ∧ meth.locks = false ∧ meth.name = nme
theorem own_fin {p : Program} {l : Launch} {e : Env} {R : Room} {s : State} {m : MethodId} {args : Array Value} {below : List Frame} {meth : Method} {c : Code} {T : State} {locs : List Loc} {cells slots : Nat} (X : Stand p l e R s m args below meth c T locs cells slots) {F : State} {h : Heap} (eh : T.heap = h) {v : Option Value} {Q : Option Value → Heap → List Loc → Prop} {kc ks : Nat} (hv : meth.sig.returnType = none → v = none) (hlk : meth.locks = false)
    (hstep : ∀ fs, (∀ (f : JFrame) (acts : List Action), f.method = m → f.locked = none → f.entered = [] → (doReturn e (T.setTop f) acts v).1 = T.setFrames fs) → Steps p.tables e below F (T.setFrames fs)) (q : Q v h locs) (hc : cells ≤ kc) (hs : slots ≤ ks) : own_Go p.tables e below F (own_K s Q kc ks) := by
  obtain ⟨fs, hr, hrun, hended, hW, hsame⟩ := X.leave (v := v) hv hlk
  subst eh
  exact ⟨_, _, hstep fs hr, hrun, hended, _, _, rfl, q, ⟨_, rfl⟩, hW, hsame.mono hc hs⟩
theorem own_len {p : Program} {l : Launch} {e : Env} {R : Room} {s : State} {m : MethodId} {args : Array Value} {below : List Frame} {meth : Method} {c : Code} {T : State} {locs : List Loc} {cells slots : Nat} {Z : State} {h : Heap} (X : Stand p l e R s m args below meth c T locs cells slots) (hx : p.tables.exec = Jvm.exec) (hZ : Z.Warmed39 s.vm) (eT : T.heap = h) {a : Addr} {cl : Cell} {ty : FieldType} {n : Int32} (A : Arr Z h a cl ty) (S : cl.slots.size = n.toNatClampNeg) (N : ¬ n < 0)
    {g : JFrame} (hg : g.method = m) {rest : List Value} (hs : g.stack = .ref a :: rest) (hd : decode c.code g.pc = .ok (.arraylength, 1)) {t : State} (k : Steps p.tables e below (T.setTop { g with pc := g.pc + 1, stack := .int n :: rest }) t) : Steps p.tables e below (T.setTop g) t := by
  refine X.arraylength hx (by rw [eT]; exact A.1) (State.isArrayOf_alike hZ.alike A.2.1) hg hs hd _ ?_
  rw [len_of S N]
  exact k
theorem own_fint {args : Array Value} {s : State} {t : Term} {C n d : String} {k : Int32} {a : Addr} (ev : t.eval args s none [] s = some (.ref a)) (h : (Jvm.Cond.eq (Term.field t C n d) (Term.int k)).value args s none s [] = some true) : Fld s s.heap a C n d (.int k) := by
  obtain ⟨x, y, h1, h2, h3, h4⟩ := cmp_v (Or.inl h)
  have h2' : (Term.int k).eval args s none [] s = some (.int k) := Term.int_eval k
  rw [h2'] at h2; cases h2
  obtain ⟨z, rfl⟩ := h4
  have hz : z = k := by
    simp only [Cond.value, h1, h2'] at h
    simpa using h
  subst hz
  rw [fld_at ev] at h1
  exact Fld.start h1
def own_hs (o1 : Addr) (oc : Addr) : Int32 := (if o1 = oc then (0 : Int32) else (1 : Int32))
def Q1 (Z : State) (o1 : Addr) (oc : Addr) (h0 : Heap) (n0 : Nat) (v : Option Value) (h : Heap) (L : List Loc) : Prop := v = some (.int (own_hs o1 oc)) ∧ Fr n0 L ∧ h = h0
theorem d1_0 : decode prog_11_method_6_code 0 = .ok (.aload_n 0, 1) := by decide +kernel
theorem d1_1 : decode prog_11_method_6_code 1 = .ok (.getstatic 3, 3) := by decide +kernel
theorem d1_4 : decode prog_11_method_6_code 4 = .ok (.if_acmp .eq 7, 3) := by decide +kernel
theorem d1_11 : decode prog_11_method_6_code 11 = .ok (.iconst 0, 1) := by decide +kernel
theorem d1_12 : decode prog_11_method_6_code 12 = .ok (.ireturn, 1) := by decide +kernel
theorem d1_7 : decode prog_11_method_6_code 7 = .ok (.iconst 1, 1) := by decide +kernel
theorem d1_8 : decode prog_11_method_6_code 8 = .ok (.goto 4, 3) := by decide +kernel
set_option maxRecDepth 65536 in
set_option maxHeartbeats 40000000 in
theorem b1 {p : Program} {l : Launch} {e : Env} {s : State} {m : MethodId} {args : Array Value} {below : List Frame} {meth : Method} {c : Code} {T0 : State} {locs : List Loc} {Z : State} {a0 : Array Value} {h0 : Heap} {n0 : Nat} (o1 : Addr) (oc : Addr)
    (C : own_C p s m meth c Z a0 prog_11_method_6_code 1 "com/example/seatledger/seatledger/billing/Source" (some .boolean) "hasSeats") (X0 : Stand p l e ({ frames := 0, cells := 0, slots := 0, locals := 0 } : Room) s m args below meth c T0 locs 0 0) (e0 : T0.heap = h0) (Z0 : n0 ≤ h0.size) (N0 : Fr n0 locs) (S1 : Sta Z h0 "com/example/seatledger/seatledger/billing/Source" "COUNTED" "Lcom/example/seatledger/seatledger/billing/Source;" (.ref oc)) :
    own_Go p.tables e below (T0.setTop (mkF m 0 #[.val (.ref o1)] [])) (own_K s (fun v h L => Q1 Z o1 oc h0 n0 v h L) ({ frames := 0, cells := 0, slots := 0, locals := 0 } : Room).cells ({ frames := 0, cells := 0, slots := 0, locals := 0 } : Room).slots) := by
  obtain ⟨hx, hZ, hw, hby, hml, hown, hret, hlk, hnm⟩ := C
  refine own_via (G := T0.setTop (mkF m 1 #[.val (.ref o1)] [(.ref o1)])) (fun t k => XS.aloadN X0.here hx rfl (hb hby d1_0) rfl rfl k) ?_
  obtain ⟨T1, X1, e1, st1⟩ := getS2 X0 hx hZ hown (host := "") (Or.inl (hw _ (List.mem_of_getElem? (i := 8) rfl))) Via.refl e0 S1 (g := (mkF m 1 #[.val (.ref o1)] [(.ref o1)])) rfl (hb hby d1_1)
  refine own_via (G := T1.setTop (mkF m 4 #[.val (.ref o1)] [(.ref oc), (.ref o1)])) (fun t k => st1 t k) ?_
  by_cases ha2_4 : o1 = oc
  · refine own_via (G := T1.setTop (mkF m 11 #[.val (.ref o1)] [])) (fun t k => Jvm.RoadKit.acmp (g := (mkF m 4 #[.val (.ref o1)] [(.ref oc), (.ref o1)])) X1 hx rfl rfl rfl (pc0 := 4) (pc' := 11) (same := true) rfl (hb hby d1_4) rfl (decide_eq_true (congrArg Value.ref ha2_4)) (by decide) (by decide) k) ?_
    refine own_via (G := T1.setTop (mkF m 12 #[.val (.ref o1)] [(.int (0 : Int32))])) (fun t k => XS.iconst X1.here hx rfl (hb hby d1_11) k) ?_
    exact own_fin X1 e1 (v := some (.int (0 : Int32))) (fun h => by rw [hret] at h; cases h) hlk (fun fs hr => retN X1 hx (t := .boolean) hret (by simp) (hb hby d1_12) hr) (show ((fun v h L => Q1 Z o1 oc h0 n0 v h L)) (some (.int (0 : Int32))) h0 _ from ⟨(by unfold own_hs; rw [if_pos ha2_4]), N0, rfl⟩) (by decide) (by decide)
  · refine own_via (G := T1.setTop (mkF m 7 #[.val (.ref o1)] [])) (fun t k => Jvm.RoadKit.acmp (g := (mkF m 4 #[.val (.ref o1)] [(.ref oc), (.ref o1)])) X1 hx rfl rfl rfl (pc0 := 4) (pc' := 7) (same := false) rfl (hb hby d1_4) rfl (decide_eq_false fun q => ha2_4 (Value.ref.inj q)) (by decide) (by decide) k) ?_
    refine own_via (G := T1.setTop (mkF m 8 #[.val (.ref o1)] [(.int (1 : Int32))])) (fun t k => XS.iconst X1.here hx rfl (hb hby d1_7) k) ?_
    refine own_via (G := T1.setTop (mkF m 12 #[.val (.ref o1)] [(.int (1 : Int32))])) (fun t k => XS.goto X1.here hx rfl (pc0 := 8) (pc' := 12) rfl (hb hby d1_8) (by decide) (by decide) k) ?_
    exact own_fin X1 e1 (v := some (.int (1 : Int32))) (fun h => by rw [hret] at h; cases h) hlk (fun fs hr => retN X1 hx (t := .boolean) hret (by simp) (hb hby d1_12) hr) (show ((fun v h L => Q1 Z o1 oc h0 n0 v h L)) (some (.int (1 : Int32))) h0 _ from ⟨(by unfold own_hs; rw [if_neg ha2_4]), N0, rfl⟩) (by decide) (by decide)
theorem pn_0 : plainName "com/example/seatledger/seatledger/billing/Source" = true := by first | (simp [plainName, overriddenIn]; done) | decide +kernel
theorem ef_1 (m : MethodId) (o1 : Addr) : entryFrame m #[(.ref o1)] 1 = mkF m 0 #[.val (.ref o1)] [] := by first | (simp [entryFrame, mkF, argsToLocals, Value.category, maxLocals]; done) | rfl
set_option maxRecDepth 65536 in
set_option maxHeartbeats 40000000 in
theorem rm1 (l : Launch) (Z : State) (a0 : Array Value) (hw : ∀ d ∈ tables_1, d.before a0 Z = true) (ws : List Jvm.Cond) (o1 : Addr) (oc : Addr) (h0 : Heap) (n0 : Nat) (Z0 : n0 ≤ h0.size) (S1 : Sta Z h0 "com/example/seatledger/seatledger/billing/Source" "COUNTED" "Lcom/example/seatledger/seatledger/billing/Source;" (.ref oc)) :
    MetFree l (⟨"com/example/seatledger/seatledger/billing/Source", "hasSeats", "()Z"⟩ : MethodName) (head1 (Jvm.Cond.code (⟨"com/example/seatledger/seatledger/billing/Source", "hasSeats", "()Z"⟩ : MethodName) prog_11_method_6_code 1 (some .boolean) :: ws) ({ frames := 0, cells := 0, slots := 0, locals := 0 } : Room)) (fun a U => a = #[(.ref o1)] ∧ Z.Warmed39 U.vm ∧ U.heap = h0) (fun _ _ _ _ _ => True) (fun _ U o U' => ∃ v L, o = .returned v ∧ Q1 Z o1 oc h0 n0 v U'.heap L ∧ FrameEnd U o U' L ({ frames := 0, cells := 0, slots := 0, locals := 0 } : Room).cells ({ frames := 0, cells := 0, slots := 0, locals := 0 } : Room).slots) := by
  refine MetFree.of_bodySF (plainFor_of_name pn_0) hisR ?_
  intro p e s m args below meth c s₁ Bd hml0 hP hK
  obtain ⟨rfl, hZ, hh⟩ := hP
  have e0 : s₁.heap = h0 := by rw [← hh, Bd.state]; rfl
  rw [ef_1 m o1]
  exact b1 o1 oc ⟨Bd.exec, hZ, hw, Bd.bytes, hml0, findClass_of_methodNamed Bd.named, Bd.returns, Bd.notSynchronized, (name_of_methodNamed Bd.named Bd.method).1⟩ (Stand.of_body Bd) e0 Z0 (Fr.nil n0) S1
theorem own_hs_t (x : Addr) : own_hs x x = 0 := by unfold own_hs; rw [if_pos rfl]
theorem own_hs_f {x y : Addr} (h : x ≠ y) : own_hs x y = 1 := by unfold own_hs; rw [if_neg h]
def Q0 (Z : State) (ik : Int32) (aC : Addr) (aR : Addr) (aP : Addr) (aD : Addr) (h0 : Heap) (n0 : Nat) (v : Option Value) (h : Heap) (L : List Loc) : Prop := v = some (.int (1 : Int32)) ∧ Fr n0 L
theorem pd_0 : parseMethodDescriptor "()Z" = some ⟨[], some .boolean⟩ := by decide +kernel
set_option maxRecDepth 65536 in
set_option maxHeartbeats 40000000 in
theorem b0 {p : Program} {l : Launch} {e : Env} {s : State} {m : MethodId} {args : Array Value} {below : List Frame} {meth : Method} {c : Code} {T0 : State} {locs : List Loc} {Z : State} {a0 : Array Value} {h0 : Heap} {n0 : Nat} (ik : Int32) (aC : Addr) (aR : Addr) (aP : Addr) (aD : Addr)
    (C : own_C p s m meth c Z a0 code maxLocals "com/example/seatledger/seatledger/billing/SourceHasSeatsPinLaw" ret "law") (X0 : Stand p l e room_1 s m args below meth c T0 locs 0 0) (e0 : T0.heap = h0) (Z0 : n0 ≤ h0.size) (N0 : Fr n0 locs) (S_COUNTED : Sta Z h0 "com/example/seatledger/seatledger/billing/Source" "COUNTED" "Lcom/example/seatledger/seatledger/billing/Source;" (.ref aC)) (S_REPORTED : Sta Z h0 "com/example/seatledger/seatledger/billing/Source" "REPORTED" "Lcom/example/seatledger/seatledger/billing/Source;" (.ref aR)) (S_PURCHASED : Sta Z h0 "com/example/seatledger/seatledger/billing/Source" "PURCHASED" "Lcom/example/seatledger/seatledger/billing/Source;" (.ref aP)) (S_DISPUTE : Sta Z h0 "com/example/seatledger/seatledger/billing/Source" "DISPUTE" "Lcom/example/seatledger/seatledger/billing/Source;" (.ref aD)) (E_COUNTED : Exa Z h0 aC "com/example/seatledger/seatledger/billing/Source") (E_REPORTED : Exa Z h0 aR "com/example/seatledger/seatledger/billing/Source") (E_PURCHASED : Exa Z h0 aP "com/example/seatledger/seatledger/billing/Source") (E_DISPUTE : Exa Z h0 aD "com/example/seatledger/seatledger/billing/Source") (hR : aR ≠ aC) (hP : aP ≠ aC) (hD : aD ≠ aC) :
    own_Go p.tables e below (T0.setTop (mkF m 0 #[.val (.int ik), .unset, .unset, .unset] [])) (own_K s (fun v h L => Q0 Z ik aC aR aP aD h0 n0 v h L) room_1.cells room_1.slots) := by
  obtain ⟨hx, hZ, hw, hby, hml, hown, hret, hlk, hnm⟩ := C
  refine own_via (G := T0.setTop (mkF m 1 #[.val (.int ik), .unset, .unset, .unset] [(.int ik)])) (fun t k => XS.iloadN X0.here hx rfl (hb hby at_0) rfl k) ?_
  refine own_via (G := T0.setTop (mkF m 2 #[.val (.int ik), .unset, .unset, .unset] [(.int (3 : Int32)), (.int ik)])) (fun t k => XS.iconst X0.here hx rfl (hb hby at_1) k) ?_
  refine own_via (G := T0.setTop (mkF m 3 #[.val (.int ik), .unset, .unset, .unset] [(.int (ik &&& (3 : Int32)))])) (fun t k => XS.iand X0.here hx rfl (hb hby at_2) rfl k) ?_
  refine own_via (G := T0.setTop (mkF m 4 #[.val (.int ik), .val (.int (ik &&& (3 : Int32))), .unset, .unset] [])) (fun t k => XS.istoreN X0.here hx rfl (hb hby at_3) rfl (l' := #[.val (.int ik), .val (.int (ik &&& (3 : Int32))), .unset, .unset]) rfl k) ?_
  refine own_via (G := T0.setTop (mkF m 5 #[.val (.int ik), .val (.int (ik &&& (3 : Int32))), .unset, .unset] [(.int (ik &&& (3 : Int32)))])) (fun t k => XS.iloadN X0.here hx rfl (hb hby at_4) rfl k) ?_
  by_cases hc1_5 : (ik &&& (3 : Int32)) = (0 : Int32)
  · refine own_via (G := T0.setTop (mkF m 8 #[.val (.int ik), .val (.int (ik &&& (3 : Int32))), .unset, .unset] [])) (fun t k => XS.ifNo X0.here hx rfl (hb hby at_5) rfl (XT.i0_ne_f hc1_5) k) ?_
    obtain ⟨T2, X2, e2, st2⟩ := getS2 X0 hx hZ hown (host := "") (Or.inl (hw _ (List.mem_of_getElem? (i := 0) rfl))) Via.refl e0 S_COUNTED (g := (mkF m 8 #[.val (.int ik), .val (.int (ik &&& (3 : Int32))), .unset, .unset] [])) rfl (hb hby at_8)
    refine own_via (G := T2.setTop (mkF m 11 #[.val (.int ik), .val (.int (ik &&& (3 : Int32))), .unset, .unset] [(.ref aC)])) (fun t k => st2 t k) ?_
    refine own_via (G := T2.setTop (mkF m 12 #[.val (.int ik), .val (.int (ik &&& (3 : Int32))), .val (.ref aC), .unset] [])) (fun t k => XS.astoreN X2.here hx rfl (hb hby at_11) rfl rfl (l' := #[.val (.int ik), .val (.int (ik &&& (3 : Int32))), .val (.ref aC), .unset]) rfl k) ?_
    refine own_via (G := T2.setTop (mkF m 13 #[.val (.int ik), .val (.int (ik &&& (3 : Int32))), .val (.ref aC), .unset] [(.int (0 : Int32))])) (fun t k => XS.iconst X2.here hx rfl (hb hby at_12) k) ?_
    refine own_via (G := T2.setTop (mkF m 14 #[.val (.int ik), .val (.int (ik &&& (3 : Int32))), .val (.ref aC), .val (.int (0 : Int32))] [])) (fun t k => XS.istoreN X2.here hx rfl (hb hby at_13) rfl (l' := #[.val (.int ik), .val (.int (ik &&& (3 : Int32))), .val (.ref aC), .val (.int (0 : Int32))]) rfl k) ?_
    refine own_via (G := T2.setTop (mkF m 51 #[.val (.int ik), .val (.int (ik &&& (3 : Int32))), .val (.ref aC), .val (.int (0 : Int32))] [])) (fun t k => XS.goto X2.here hx rfl (pc0 := 14) (pc' := 51) rfl (hb hby at_14) (by decide) (by decide) k) ?_
    refine own_via (G := T2.setTop (mkF m 52 #[.val (.int ik), .val (.int (ik &&& (3 : Int32))), .val (.ref aC), .val (.int (0 : Int32))] [(.ref aC)])) (fun t k => XS.aloadN X2.here hx rfl (hb hby at_51) rfl rfl k) ?_
    obtain ⟨cq3, kq3, q3a, q3b, q3c⟩ := isOf hZ e2 E_COUNTED
    obtain ⟨_, _, ⟨T3, L3, k3, n3⟩, -, X3, ⟨Lc3, hQ3, l3, y3, z3⟩, st3⟩ := X2.virtualBack hx (y := (⟨"com/example/seatledger/seatledger/billing/Source", "hasSeats", "()Z"⟩ : MethodName)) (z := (⟨"com/example/seatledger/seatledger/billing/Source", "hasSeats", "()Z"⟩ : MethodName)) hown (mvT hZ (hw _ (List.mem_of_getElem? (i := 3) rfl))) (mvT hZ (hw _ (List.mem_of_getElem? (i := 4) rfl))) (notFace_of_selects (args := #[]) (mvT hZ (hw _ (List.mem_of_getElem? (i := 6) rfl)))) (mvT hZ (hw _ (List.mem_of_getElem? (i := 6) rfl))) (mvT hZ (hw _ (List.mem_of_getElem? (i := 5) rfl))) (by decide) (backOf (W := 0) (rm1 l Z a0 hw [] aC aC h0 n0 Z0 S_COUNTED) hZ (hw _ (List.mem_of_getElem? (i := 7) rfl)) (hw _ (List.mem_of_getElem? (i := 1) rfl)) (by decide) (by decide)) q3a q3c (g := (mkF m 52 #[.val (.int ik), .val (.int (ik &&& (3 : Int32))), .val (.ref aC), .val (.int (0 : Int32))] [(.ref aC)])) rfl (by rw [hml]; rfl) (Steps.refl _) (argsL := []) (rest := []) (lenOf pd_0 rfl) rfl (by show 2 * 0 + _ ≤ _; exact Nat.le_of_eq rfl) (hb hby at_52) (fun _ _ => ⟨rfl, e2, (by decide : 0 + 0 ≤ _), (by decide : 0 + 0 ≤ _)⟩)
    dsimp only [Pt.U, Pt.locs, Pt.cells, Pt.slots] at X3 l3 y3 z3 st3 hQ3
    subst l3 y3 z3
    obtain ⟨rfl, Nq3, eh3⟩ := hQ3
    have N3 := Fr.app N0 Nq3
    refine own_via (G := T3.setTop (mkF m 55 #[.val (.int ik), .val (.int (ik &&& (3 : Int32))), .val (.ref aC), .val (.int (0 : Int32))] [(.int (own_hs aC aC))])) (fun t k => st3.trans k) ?_
    refine own_via (G := T3.setTop (mkF m 56 #[.val (.int ik), .val (.int (ik &&& (3 : Int32))), .val (.ref aC), .val (.int (0 : Int32))] [(.int (0 : Int32)), (.int (own_hs aC aC))])) (fun t k => XS.iloadN X3.here hx rfl (hb hby at_55) rfl k) ?_
    have hc4_56 : (own_hs aC aC) = (0 : Int32) := own_hs_t _
    refine own_via (G := T3.setTop (mkF m 59 #[.val (.int ik), .val (.int (ik &&& (3 : Int32))), .val (.ref aC), .val (.int (0 : Int32))] [])) (fun t k => XS.icmpNo X3.here hx rfl (hb hby at_56) rfl (XT.ii_ne_f hc4_56) k) ?_
    refine own_via (G := T3.setTop (mkF m 60 #[.val (.int ik), .val (.int (ik &&& (3 : Int32))), .val (.ref aC), .val (.int (0 : Int32))] [(.int (1 : Int32))])) (fun t k => XS.iconst X3.here hx rfl (hb hby at_59) k) ?_
    refine own_via (G := T3.setTop (mkF m 64 #[.val (.int ik), .val (.int (ik &&& (3 : Int32))), .val (.ref aC), .val (.int (0 : Int32))] [(.int (1 : Int32))])) (fun t k => XS.goto X3.here hx rfl (pc0 := 60) (pc' := 64) rfl (hb hby at_60) (by decide) (by decide) k) ?_
    exact own_fin X3 eh3 (v := some (.int (1 : Int32))) (fun h => by rw [hret] at h; cases h) hlk (fun fs hr => retN X3 hx (t := .boolean) hret (by simp) (hb hby at_64) hr) (show ((fun v h L => Q0 Z ik aC aR aP aD h0 n0 v h L)) (some (.int (1 : Int32))) h0 _ from ⟨rfl, N3⟩) (by decide) (by decide)
  · refine own_via (G := T0.setTop (mkF m 17 #[.val (.int ik), .val (.int (ik &&& (3 : Int32))), .unset, .unset] [])) (fun t k => XS.ifYes X0.here hx rfl (pc0 := 5) (pc' := 17) rfl (hb hby at_5) rfl (XT.i0_ne_t hc1_5) (by decide) (by decide) k) ?_
    refine own_via (G := T0.setTop (mkF m 18 #[.val (.int ik), .val (.int (ik &&& (3 : Int32))), .unset, .unset] [(.int (ik &&& (3 : Int32)))])) (fun t k => XS.iloadN X0.here hx rfl (hb hby at_17) rfl k) ?_
    refine own_via (G := T0.setTop (mkF m 19 #[.val (.int ik), .val (.int (ik &&& (3 : Int32))), .unset, .unset] [(.int (1 : Int32)), (.int (ik &&& (3 : Int32)))])) (fun t k => XS.iconst X0.here hx rfl (hb hby at_18) k) ?_
    by_cases hc5_19 : (ik &&& (3 : Int32)) = (1 : Int32)
    · refine own_via (G := T0.setTop (mkF m 22 #[.val (.int ik), .val (.int (ik &&& (3 : Int32))), .unset, .unset] [])) (fun t k => XS.icmpNo X0.here hx rfl (hb hby at_19) rfl (XT.ii_ne_f hc5_19) k) ?_
      obtain ⟨T6, X6, e6, st6⟩ := getS2 X0 hx hZ hown (host := "") (Or.inl (hw _ (List.mem_of_getElem? (i := 13) rfl))) Via.refl e0 S_REPORTED (g := (mkF m 22 #[.val (.int ik), .val (.int (ik &&& (3 : Int32))), .unset, .unset] [])) rfl (hb hby at_22)
      refine own_via (G := T6.setTop (mkF m 25 #[.val (.int ik), .val (.int (ik &&& (3 : Int32))), .unset, .unset] [(.ref aR)])) (fun t k => st6 t k) ?_
      refine own_via (G := T6.setTop (mkF m 26 #[.val (.int ik), .val (.int (ik &&& (3 : Int32))), .val (.ref aR), .unset] [])) (fun t k => XS.astoreN X6.here hx rfl (hb hby at_25) rfl rfl (l' := #[.val (.int ik), .val (.int (ik &&& (3 : Int32))), .val (.ref aR), .unset]) rfl k) ?_
      refine own_via (G := T6.setTop (mkF m 27 #[.val (.int ik), .val (.int (ik &&& (3 : Int32))), .val (.ref aR), .unset] [(.int (1 : Int32))])) (fun t k => XS.iconst X6.here hx rfl (hb hby at_26) k) ?_
      refine own_via (G := T6.setTop (mkF m 28 #[.val (.int ik), .val (.int (ik &&& (3 : Int32))), .val (.ref aR), .val (.int (1 : Int32))] [])) (fun t k => XS.istoreN X6.here hx rfl (hb hby at_27) rfl (l' := #[.val (.int ik), .val (.int (ik &&& (3 : Int32))), .val (.ref aR), .val (.int (1 : Int32))]) rfl k) ?_
      refine own_via (G := T6.setTop (mkF m 51 #[.val (.int ik), .val (.int (ik &&& (3 : Int32))), .val (.ref aR), .val (.int (1 : Int32))] [])) (fun t k => XS.goto X6.here hx rfl (pc0 := 28) (pc' := 51) rfl (hb hby at_28) (by decide) (by decide) k) ?_
      refine own_via (G := T6.setTop (mkF m 52 #[.val (.int ik), .val (.int (ik &&& (3 : Int32))), .val (.ref aR), .val (.int (1 : Int32))] [(.ref aR)])) (fun t k => XS.aloadN X6.here hx rfl (hb hby at_51) rfl rfl k) ?_
      obtain ⟨cq7, kq7, q7a, q7b, q7c⟩ := isOf hZ e6 E_REPORTED
      obtain ⟨_, _, ⟨T7, L7, k7, n7⟩, -, X7, ⟨Lc7, hQ7, l7, y7, z7⟩, st7⟩ := X6.virtualBack hx (y := (⟨"com/example/seatledger/seatledger/billing/Source", "hasSeats", "()Z"⟩ : MethodName)) (z := (⟨"com/example/seatledger/seatledger/billing/Source", "hasSeats", "()Z"⟩ : MethodName)) hown (mvT hZ (hw _ (List.mem_of_getElem? (i := 3) rfl))) (mvT hZ (hw _ (List.mem_of_getElem? (i := 4) rfl))) (notFace_of_selects (args := #[]) (mvT hZ (hw _ (List.mem_of_getElem? (i := 6) rfl)))) (mvT hZ (hw _ (List.mem_of_getElem? (i := 6) rfl))) (mvT hZ (hw _ (List.mem_of_getElem? (i := 5) rfl))) (by decide) (backOf (W := 0) (rm1 l Z a0 hw [] aR aC h0 n0 Z0 S_COUNTED) hZ (hw _ (List.mem_of_getElem? (i := 7) rfl)) (hw _ (List.mem_of_getElem? (i := 1) rfl)) (by decide) (by decide)) q7a q7c (g := (mkF m 52 #[.val (.int ik), .val (.int (ik &&& (3 : Int32))), .val (.ref aR), .val (.int (1 : Int32))] [(.ref aR)])) rfl (by rw [hml]; rfl) (Steps.refl _) (argsL := []) (rest := []) (lenOf pd_0 rfl) rfl (by show 2 * 0 + _ ≤ _; exact Nat.le_of_eq rfl) (hb hby at_52) (fun _ _ => ⟨rfl, e6, (by decide : 0 + 0 ≤ _), (by decide : 0 + 0 ≤ _)⟩)
      dsimp only [Pt.U, Pt.locs, Pt.cells, Pt.slots] at X7 l7 y7 z7 st7 hQ7
      subst l7 y7 z7
      obtain ⟨rfl, Nq7, eh7⟩ := hQ7
      have N7 := Fr.app N0 Nq7
      refine own_via (G := T7.setTop (mkF m 55 #[.val (.int ik), .val (.int (ik &&& (3 : Int32))), .val (.ref aR), .val (.int (1 : Int32))] [(.int (own_hs aR aC))])) (fun t k => st7.trans k) ?_
      refine own_via (G := T7.setTop (mkF m 56 #[.val (.int ik), .val (.int (ik &&& (3 : Int32))), .val (.ref aR), .val (.int (1 : Int32))] [(.int (1 : Int32)), (.int (own_hs aR aC))])) (fun t k => XS.iloadN X7.here hx rfl (hb hby at_55) rfl k) ?_
      have hc8_56 : (own_hs aR aC) = (1 : Int32) := own_hs_f hR
      refine own_via (G := T7.setTop (mkF m 59 #[.val (.int ik), .val (.int (ik &&& (3 : Int32))), .val (.ref aR), .val (.int (1 : Int32))] [])) (fun t k => XS.icmpNo X7.here hx rfl (hb hby at_56) rfl (XT.ii_ne_f hc8_56) k) ?_
      refine own_via (G := T7.setTop (mkF m 60 #[.val (.int ik), .val (.int (ik &&& (3 : Int32))), .val (.ref aR), .val (.int (1 : Int32))] [(.int (1 : Int32))])) (fun t k => XS.iconst X7.here hx rfl (hb hby at_59) k) ?_
      refine own_via (G := T7.setTop (mkF m 64 #[.val (.int ik), .val (.int (ik &&& (3 : Int32))), .val (.ref aR), .val (.int (1 : Int32))] [(.int (1 : Int32))])) (fun t k => XS.goto X7.here hx rfl (pc0 := 60) (pc' := 64) rfl (hb hby at_60) (by decide) (by decide) k) ?_
      exact own_fin X7 eh7 (v := some (.int (1 : Int32))) (fun h => by rw [hret] at h; cases h) hlk (fun fs hr => retN X7 hx (t := .boolean) hret (by simp) (hb hby at_64) hr) (show ((fun v h L => Q0 Z ik aC aR aP aD h0 n0 v h L)) (some (.int (1 : Int32))) h0 _ from ⟨rfl, N7⟩) (by decide) (by decide)
    · refine own_via (G := T0.setTop (mkF m 31 #[.val (.int ik), .val (.int (ik &&& (3 : Int32))), .unset, .unset] [])) (fun t k => XS.icmpYes X0.here hx rfl (pc0 := 19) (pc' := 31) rfl (hb hby at_19) rfl (XT.ii_ne_t hc5_19) (by decide) (by decide) k) ?_
      refine own_via (G := T0.setTop (mkF m 32 #[.val (.int ik), .val (.int (ik &&& (3 : Int32))), .unset, .unset] [(.int (ik &&& (3 : Int32)))])) (fun t k => XS.iloadN X0.here hx rfl (hb hby at_31) rfl k) ?_
      refine own_via (G := T0.setTop (mkF m 33 #[.val (.int ik), .val (.int (ik &&& (3 : Int32))), .unset, .unset] [(.int (2 : Int32)), (.int (ik &&& (3 : Int32)))])) (fun t k => XS.iconst X0.here hx rfl (hb hby at_32) k) ?_
      by_cases hc9_33 : (ik &&& (3 : Int32)) = (2 : Int32)
      · refine own_via (G := T0.setTop (mkF m 36 #[.val (.int ik), .val (.int (ik &&& (3 : Int32))), .unset, .unset] [])) (fun t k => XS.icmpNo X0.here hx rfl (hb hby at_33) rfl (XT.ii_ne_f hc9_33) k) ?_
        obtain ⟨T10, X10, e10, st10⟩ := getS2 X0 hx hZ hown (host := "") (Or.inl (hw _ (List.mem_of_getElem? (i := 11) rfl))) Via.refl e0 S_PURCHASED (g := (mkF m 36 #[.val (.int ik), .val (.int (ik &&& (3 : Int32))), .unset, .unset] [])) rfl (hb hby at_36)
        refine own_via (G := T10.setTop (mkF m 39 #[.val (.int ik), .val (.int (ik &&& (3 : Int32))), .unset, .unset] [(.ref aP)])) (fun t k => st10 t k) ?_
        refine own_via (G := T10.setTop (mkF m 40 #[.val (.int ik), .val (.int (ik &&& (3 : Int32))), .val (.ref aP), .unset] [])) (fun t k => XS.astoreN X10.here hx rfl (hb hby at_39) rfl rfl (l' := #[.val (.int ik), .val (.int (ik &&& (3 : Int32))), .val (.ref aP), .unset]) rfl k) ?_
        refine own_via (G := T10.setTop (mkF m 41 #[.val (.int ik), .val (.int (ik &&& (3 : Int32))), .val (.ref aP), .unset] [(.int (1 : Int32))])) (fun t k => XS.iconst X10.here hx rfl (hb hby at_40) k) ?_
        refine own_via (G := T10.setTop (mkF m 42 #[.val (.int ik), .val (.int (ik &&& (3 : Int32))), .val (.ref aP), .val (.int (1 : Int32))] [])) (fun t k => XS.istoreN X10.here hx rfl (hb hby at_41) rfl (l' := #[.val (.int ik), .val (.int (ik &&& (3 : Int32))), .val (.ref aP), .val (.int (1 : Int32))]) rfl k) ?_
        refine own_via (G := T10.setTop (mkF m 51 #[.val (.int ik), .val (.int (ik &&& (3 : Int32))), .val (.ref aP), .val (.int (1 : Int32))] [])) (fun t k => XS.goto X10.here hx rfl (pc0 := 42) (pc' := 51) rfl (hb hby at_42) (by decide) (by decide) k) ?_
        refine own_via (G := T10.setTop (mkF m 52 #[.val (.int ik), .val (.int (ik &&& (3 : Int32))), .val (.ref aP), .val (.int (1 : Int32))] [(.ref aP)])) (fun t k => XS.aloadN X10.here hx rfl (hb hby at_51) rfl rfl k) ?_
        obtain ⟨cq11, kq11, q11a, q11b, q11c⟩ := isOf hZ e10 E_PURCHASED
        obtain ⟨_, _, ⟨T11, L11, k11, n11⟩, -, X11, ⟨Lc11, hQ11, l11, y11, z11⟩, st11⟩ := X10.virtualBack hx (y := (⟨"com/example/seatledger/seatledger/billing/Source", "hasSeats", "()Z"⟩ : MethodName)) (z := (⟨"com/example/seatledger/seatledger/billing/Source", "hasSeats", "()Z"⟩ : MethodName)) hown (mvT hZ (hw _ (List.mem_of_getElem? (i := 3) rfl))) (mvT hZ (hw _ (List.mem_of_getElem? (i := 4) rfl))) (notFace_of_selects (args := #[]) (mvT hZ (hw _ (List.mem_of_getElem? (i := 6) rfl)))) (mvT hZ (hw _ (List.mem_of_getElem? (i := 6) rfl))) (mvT hZ (hw _ (List.mem_of_getElem? (i := 5) rfl))) (by decide) (backOf (W := 0) (rm1 l Z a0 hw [] aP aC h0 n0 Z0 S_COUNTED) hZ (hw _ (List.mem_of_getElem? (i := 7) rfl)) (hw _ (List.mem_of_getElem? (i := 1) rfl)) (by decide) (by decide)) q11a q11c (g := (mkF m 52 #[.val (.int ik), .val (.int (ik &&& (3 : Int32))), .val (.ref aP), .val (.int (1 : Int32))] [(.ref aP)])) rfl (by rw [hml]; rfl) (Steps.refl _) (argsL := []) (rest := []) (lenOf pd_0 rfl) rfl (by show 2 * 0 + _ ≤ _; exact Nat.le_of_eq rfl) (hb hby at_52) (fun _ _ => ⟨rfl, e10, (by decide : 0 + 0 ≤ _), (by decide : 0 + 0 ≤ _)⟩)
        dsimp only [Pt.U, Pt.locs, Pt.cells, Pt.slots] at X11 l11 y11 z11 st11 hQ11
        subst l11 y11 z11
        obtain ⟨rfl, Nq11, eh11⟩ := hQ11
        have N11 := Fr.app N0 Nq11
        refine own_via (G := T11.setTop (mkF m 55 #[.val (.int ik), .val (.int (ik &&& (3 : Int32))), .val (.ref aP), .val (.int (1 : Int32))] [(.int (own_hs aP aC))])) (fun t k => st11.trans k) ?_
        refine own_via (G := T11.setTop (mkF m 56 #[.val (.int ik), .val (.int (ik &&& (3 : Int32))), .val (.ref aP), .val (.int (1 : Int32))] [(.int (1 : Int32)), (.int (own_hs aP aC))])) (fun t k => XS.iloadN X11.here hx rfl (hb hby at_55) rfl k) ?_
        have hc12_56 : (own_hs aP aC) = (1 : Int32) := own_hs_f hP
        refine own_via (G := T11.setTop (mkF m 59 #[.val (.int ik), .val (.int (ik &&& (3 : Int32))), .val (.ref aP), .val (.int (1 : Int32))] [])) (fun t k => XS.icmpNo X11.here hx rfl (hb hby at_56) rfl (XT.ii_ne_f hc12_56) k) ?_
        refine own_via (G := T11.setTop (mkF m 60 #[.val (.int ik), .val (.int (ik &&& (3 : Int32))), .val (.ref aP), .val (.int (1 : Int32))] [(.int (1 : Int32))])) (fun t k => XS.iconst X11.here hx rfl (hb hby at_59) k) ?_
        refine own_via (G := T11.setTop (mkF m 64 #[.val (.int ik), .val (.int (ik &&& (3 : Int32))), .val (.ref aP), .val (.int (1 : Int32))] [(.int (1 : Int32))])) (fun t k => XS.goto X11.here hx rfl (pc0 := 60) (pc' := 64) rfl (hb hby at_60) (by decide) (by decide) k) ?_
        exact own_fin X11 eh11 (v := some (.int (1 : Int32))) (fun h => by rw [hret] at h; cases h) hlk (fun fs hr => retN X11 hx (t := .boolean) hret (by simp) (hb hby at_64) hr) (show ((fun v h L => Q0 Z ik aC aR aP aD h0 n0 v h L)) (some (.int (1 : Int32))) h0 _ from ⟨rfl, N11⟩) (by decide) (by decide)
      · refine own_via (G := T0.setTop (mkF m 45 #[.val (.int ik), .val (.int (ik &&& (3 : Int32))), .unset, .unset] [])) (fun t k => XS.icmpYes X0.here hx rfl (pc0 := 33) (pc' := 45) rfl (hb hby at_33) rfl (XT.ii_ne_t hc9_33) (by decide) (by decide) k) ?_
        obtain ⟨T13, X13, e13, st13⟩ := getS2 X0 hx hZ hown (host := "") (Or.inl (hw _ (List.mem_of_getElem? (i := 9) rfl))) Via.refl e0 S_DISPUTE (g := (mkF m 45 #[.val (.int ik), .val (.int (ik &&& (3 : Int32))), .unset, .unset] [])) rfl (hb hby at_45)
        refine own_via (G := T13.setTop (mkF m 48 #[.val (.int ik), .val (.int (ik &&& (3 : Int32))), .unset, .unset] [(.ref aD)])) (fun t k => st13 t k) ?_
        refine own_via (G := T13.setTop (mkF m 49 #[.val (.int ik), .val (.int (ik &&& (3 : Int32))), .val (.ref aD), .unset] [])) (fun t k => XS.astoreN X13.here hx rfl (hb hby at_48) rfl rfl (l' := #[.val (.int ik), .val (.int (ik &&& (3 : Int32))), .val (.ref aD), .unset]) rfl k) ?_
        refine own_via (G := T13.setTop (mkF m 50 #[.val (.int ik), .val (.int (ik &&& (3 : Int32))), .val (.ref aD), .unset] [(.int (1 : Int32))])) (fun t k => XS.iconst X13.here hx rfl (hb hby at_49) k) ?_
        refine own_via (G := T13.setTop (mkF m 51 #[.val (.int ik), .val (.int (ik &&& (3 : Int32))), .val (.ref aD), .val (.int (1 : Int32))] [])) (fun t k => XS.istoreN X13.here hx rfl (hb hby at_50) rfl (l' := #[.val (.int ik), .val (.int (ik &&& (3 : Int32))), .val (.ref aD), .val (.int (1 : Int32))]) rfl k) ?_
        refine own_via (G := T13.setTop (mkF m 52 #[.val (.int ik), .val (.int (ik &&& (3 : Int32))), .val (.ref aD), .val (.int (1 : Int32))] [(.ref aD)])) (fun t k => XS.aloadN X13.here hx rfl (hb hby at_51) rfl rfl k) ?_
        obtain ⟨cq14, kq14, q14a, q14b, q14c⟩ := isOf hZ e13 E_DISPUTE
        obtain ⟨_, _, ⟨T14, L14, k14, n14⟩, -, X14, ⟨Lc14, hQ14, l14, y14, z14⟩, st14⟩ := X13.virtualBack hx (y := (⟨"com/example/seatledger/seatledger/billing/Source", "hasSeats", "()Z"⟩ : MethodName)) (z := (⟨"com/example/seatledger/seatledger/billing/Source", "hasSeats", "()Z"⟩ : MethodName)) hown (mvT hZ (hw _ (List.mem_of_getElem? (i := 3) rfl))) (mvT hZ (hw _ (List.mem_of_getElem? (i := 4) rfl))) (notFace_of_selects (args := #[]) (mvT hZ (hw _ (List.mem_of_getElem? (i := 6) rfl)))) (mvT hZ (hw _ (List.mem_of_getElem? (i := 6) rfl))) (mvT hZ (hw _ (List.mem_of_getElem? (i := 5) rfl))) (by decide) (backOf (W := 0) (rm1 l Z a0 hw [] aD aC h0 n0 Z0 S_COUNTED) hZ (hw _ (List.mem_of_getElem? (i := 7) rfl)) (hw _ (List.mem_of_getElem? (i := 1) rfl)) (by decide) (by decide)) q14a q14c (g := (mkF m 52 #[.val (.int ik), .val (.int (ik &&& (3 : Int32))), .val (.ref aD), .val (.int (1 : Int32))] [(.ref aD)])) rfl (by rw [hml]; rfl) (Steps.refl _) (argsL := []) (rest := []) (lenOf pd_0 rfl) rfl (by show 2 * 0 + _ ≤ _; exact Nat.le_of_eq rfl) (hb hby at_52) (fun _ _ => ⟨rfl, e13, (by decide : 0 + 0 ≤ _), (by decide : 0 + 0 ≤ _)⟩)
        dsimp only [Pt.U, Pt.locs, Pt.cells, Pt.slots] at X14 l14 y14 z14 st14 hQ14
        subst l14 y14 z14
        obtain ⟨rfl, Nq14, eh14⟩ := hQ14
        have N14 := Fr.app N0 Nq14
        refine own_via (G := T14.setTop (mkF m 55 #[.val (.int ik), .val (.int (ik &&& (3 : Int32))), .val (.ref aD), .val (.int (1 : Int32))] [(.int (own_hs aD aC))])) (fun t k => st14.trans k) ?_
        refine own_via (G := T14.setTop (mkF m 56 #[.val (.int ik), .val (.int (ik &&& (3 : Int32))), .val (.ref aD), .val (.int (1 : Int32))] [(.int (1 : Int32)), (.int (own_hs aD aC))])) (fun t k => XS.iloadN X14.here hx rfl (hb hby at_55) rfl k) ?_
        have hc15_56 : (own_hs aD aC) = (1 : Int32) := own_hs_f hD
        refine own_via (G := T14.setTop (mkF m 59 #[.val (.int ik), .val (.int (ik &&& (3 : Int32))), .val (.ref aD), .val (.int (1 : Int32))] [])) (fun t k => XS.icmpNo X14.here hx rfl (hb hby at_56) rfl (XT.ii_ne_f hc15_56) k) ?_
        refine own_via (G := T14.setTop (mkF m 60 #[.val (.int ik), .val (.int (ik &&& (3 : Int32))), .val (.ref aD), .val (.int (1 : Int32))] [(.int (1 : Int32))])) (fun t k => XS.iconst X14.here hx rfl (hb hby at_59) k) ?_
        refine own_via (G := T14.setTop (mkF m 64 #[.val (.int ik), .val (.int (ik &&& (3 : Int32))), .val (.ref aD), .val (.int (1 : Int32))] [(.int (1 : Int32))])) (fun t k => XS.goto X14.here hx rfl (pc0 := 60) (pc' := 64) rfl (hb hby at_60) (by decide) (by decide) k) ?_
        exact own_fin X14 eh14 (v := some (.int (1 : Int32))) (fun h => by rw [hret] at h; cases h) hlk (fun fs hr => retN X14 hx (t := .boolean) hret (by simp) (hb hby at_64) hr) (show ((fun v h L => Q0 Z ik aC aR aP aD h0 n0 v h L)) (some (.int (1 : Int32))) h0 _ from ⟨rfl, N14⟩) (by decide) (by decide)
theorem pn_1 : plainName "com/example/seatledger/seatledger/billing/SourceHasSeatsPinLaw" = true := by first | (simp [plainName, overriddenIn]; done) | decide +kernel
theorem ef_0 (m : MethodId) (ik : Int32) : entryFrame m #[(.int ik)] maxLocals = mkF m 0 #[.val (.int ik), .unset, .unset, .unset] [] := by first | (simp [entryFrame, mkF, argsToLocals, Value.category, maxLocals]; done) | rfl
set_option maxRecDepth 65536 in
set_option maxHeartbeats 40000000 in
theorem rm0 (l : Launch) (Z : State) (a0 : Array Value) (hw : ∀ d ∈ tables_1, d.before a0 Z = true) (ws : List Jvm.Cond) (ik : Int32) (aC : Addr) (aR : Addr) (aP : Addr) (aD : Addr) (h0 : Heap) (n0 : Nat) (Z0 : n0 ≤ h0.size) (S_COUNTED : Sta Z h0 "com/example/seatledger/seatledger/billing/Source" "COUNTED" "Lcom/example/seatledger/seatledger/billing/Source;" (.ref aC)) (S_REPORTED : Sta Z h0 "com/example/seatledger/seatledger/billing/Source" "REPORTED" "Lcom/example/seatledger/seatledger/billing/Source;" (.ref aR)) (S_PURCHASED : Sta Z h0 "com/example/seatledger/seatledger/billing/Source" "PURCHASED" "Lcom/example/seatledger/seatledger/billing/Source;" (.ref aP)) (S_DISPUTE : Sta Z h0 "com/example/seatledger/seatledger/billing/Source" "DISPUTE" "Lcom/example/seatledger/seatledger/billing/Source;" (.ref aD)) (E_COUNTED : Exa Z h0 aC "com/example/seatledger/seatledger/billing/Source") (E_REPORTED : Exa Z h0 aR "com/example/seatledger/seatledger/billing/Source") (E_PURCHASED : Exa Z h0 aP "com/example/seatledger/seatledger/billing/Source") (E_DISPUTE : Exa Z h0 aD "com/example/seatledger/seatledger/billing/Source") (hR : aR ≠ aC) (hP : aP ≠ aC) (hD : aD ≠ aC) :
    MetFree l x (head1 (Jvm.Cond.code x code maxLocals ret :: ws) room_1) (fun a U => a = #[(.int ik)] ∧ Z.Warmed39 U.vm ∧ U.heap = h0) (fun _ _ _ _ _ => True) (fun _ U o U' => ∃ v L, o = .returned v ∧ Q0 Z ik aC aR aP aD h0 n0 v U'.heap L ∧ FrameEnd U o U' L room_1.cells room_1.slots) := by
  refine MetFree.of_bodySF (plainFor_of_name pn_1) hisR ?_
  intro p e s m args below meth c s₁ Bd hml0 hP hK
  obtain ⟨rfl, hZ, hh⟩ := hP
  have e0 : s₁.heap = h0 := by rw [← hh, Bd.state]; rfl
  rw [ef_0 m ik]
  exact b0 ik aC aR aP aD ⟨Bd.exec, hZ, hw, Bd.bytes, hml0, findClass_of_methodNamed Bd.named, Bd.returns, Bd.notSynchronized, (name_of_methodNamed Bd.named Bd.method).1⟩ (Stand.of_body Bd) e0 Z0 (Fr.nil n0) S_COUNTED S_REPORTED S_PURCHASED S_DISPUTE E_COUNTED E_REPORTED E_PURCHASED E_DISPUTE hR hP hD
set_option maxRecDepth 65536 in
set_option maxHeartbeats 40000000 in
theorem comes_1 {Post : Tables → Env → Array Value → State → Outcome → State → Prop} (hpost : ∀ tb e args s v u, (limb_1_1.after args s (.returned v) u = true ∧ limb_1_2.after args s (.returned v) u = true ∧ True) → FrameEnd s (.returned v) u (Jvm.fieldLocs frame_1_writes args s ++ Jvm.arrayLocs frame_1_arrays args s ++ Jvm.staticLocs frame_1_statics s) 0 0 → Post tb e args s (.returned v) u) :
    ArmFor flags0 classFile x code maxLocals ret World_1 tables_1 room_1 Calls_1 rest_1 Pre_1 Post := by
  intro l hfl _ _ p e ha hc hk s m args below hf hA hF happ hP
  obtain ⟨hcalls, hrest, hpre⟩ := hP
  obtain ⟨-, -, -, hnamed, -, -, -, hat⟩ := (Spec.applies_iff hf).mp happ
  obtain ⟨hg, hn⟩ := and_e (Cond.before_iff.mp (show (Jvm.Cond.and given_1 narrow_1).before args s = true from hpre))
  obtain ⟨hcount, r0⟩ := and_e hg
  obtain ⟨w0, rfl⟩ : ∃ w0 : Value, args = #[w0] := by
    have hs : args.size = 1 := by simpa [Cond.value, given_1] using hcount
    obtain ⟨L⟩ := args
    match L, hs with
    | [w0], _ => exact ⟨w0, rfl⟩
  have hw := fun d (hd : d ∈ tables_1) => atoms_spec (ws := Jvm.Cond.code x code maxLocals ret :: tables_1) hat d (List.mem_cons_of_mem _ hd)
  obtain ⟨k0, t0⟩ := and_e hn
  obtain ⟨k1, t1⟩ := and_e t0
  obtain ⟨k2, t2⟩ := and_e t1
  obtain ⟨k3, t3⟩ := and_e t2
  obtain ⟨k4, t4⟩ := and_e t3
  obtain ⟨k5, t5⟩ := and_e t4
  obtain ⟨k6, t6⟩ := and_e t5
  obtain ⟨aC, evaC⟩ := exa_v k0
  have E_COUNTED : Exa s s.heap aC "com/example/seatledger/seatledger/billing/Source" := Exa.start evaC k0
  have S_COUNTED := Sta.start evaC (Or.inr ⟨(hw _ (List.mem_of_getElem? (i := 1) rfl)), (hw _ (List.mem_of_getElem? (i := 2) rfl))⟩)
  have O_COUNTED := own_fint evaC k3
  obtain ⟨aR, evaR⟩ := exa_v k6
  have E_REPORTED : Exa s s.heap aR "com/example/seatledger/seatledger/billing/Source" := Exa.start evaR k6
  have S_REPORTED := Sta.start evaR (Or.inr ⟨(hw _ (List.mem_of_getElem? (i := 1) rfl)), (hw _ (List.mem_of_getElem? (i := 14) rfl))⟩)
  have O_REPORTED := own_fint evaR t6
  obtain ⟨aP, evaP⟩ := exa_v k4
  have E_PURCHASED : Exa s s.heap aP "com/example/seatledger/seatledger/billing/Source" := Exa.start evaP k4
  have S_PURCHASED := Sta.start evaP (Or.inr ⟨(hw _ (List.mem_of_getElem? (i := 1) rfl)), (hw _ (List.mem_of_getElem? (i := 12) rfl))⟩)
  have O_PURCHASED := own_fint evaP k5
  obtain ⟨aD, evaD⟩ := exa_v k1
  have E_DISPUTE : Exa s s.heap aD "com/example/seatledger/seatledger/billing/Source" := Exa.start evaD k1
  have S_DISPUTE := Sta.start evaD (Or.inr ⟨(hw _ (List.mem_of_getElem? (i := 1) rfl)), (hw _ (List.mem_of_getElem? (i := 10) rfl))⟩)
  have O_DISPUTE := own_fint evaD k2
  obtain ⟨i0, ei0⟩ := is_v r0
  obtain rfl : w0 = (.int i0) := Option.some.inj ei0
  obtain ⟨n, o, h1, h2, h3, _, L, rfl, ⟨rfl, N⟩, hq⟩ := rm0 l s _ hw tables_1 i0 aC aR aP aD s.heap s.heap.size (Nat.le_refl _) S_COUNTED S_REPORTED S_PURCHASED S_DISPUTE E_COUNTED E_REPORTED E_PURCHASED E_DISPUTE (Fld.ne O_REPORTED O_COUNTED (by decide)) (Fld.ne O_PURCHASED O_COUNTED (by decide)) (Fld.ne O_DISPUTE O_COUNTED (by decide)) p e ha hc hk s m _ below hf ((Spec.applies_iff_loose hf).mp happ).1 ⟨rfl, State.Warmed39.refl s, rfl⟩ trivial
  refine ⟨n, _, h1, h2, h3, hpost _ _ _ _ _ _ ⟨Cond.after_iff.mpr rfl, Cond.after_iff.mpr (eq_i res_at (Term.int_eval (1)) rfl), trivial⟩ ⟨hq.1, hq.2.1, (hq.2.2.sift fun y hy => Or.inr (N y hy)).mono (by decide) (by decide)⟩⟩
theorem main_1_1 : Claimed_1_1 := comes_1 fun _ _ _ _ _ _ h hF => ⟨h.1, hF⟩
theorem main_1_2 : Claimed_1_2 := comes_1 fun _ _ _ _ _ _ h hF => ⟨h.2.1, hF⟩
end Jvm.Pilot.@@N@@
namespace Jvm.Pilot.@@N@@
open Jvm Jvm.ClassFile Sem Op Lib Jvm.Free Jvm.Stand Jvm.Pilot.@@N@@.Jvm.D
/-! MADE BY PROGRAM (witnessworld.py) out of the Statement's table words and the real class files: 13 classes; the members and pool entries that the words name. The judged class is class 1, her method 1. -/
namespace start1
open Jvm.ClassFile
def u (s : String) : CpInfo := .utf8 (stringToUtf16 s)
/-- a pool by its gaps: so many unusable entries, then the entry; so many at the end -/
def gap : Nat → List CpInfo → List CpInfo
  | 0, r => r
  | n + 1, r => .unusable :: gap n r
def poolList (es : List (Nat × CpInfo)) (last : Nat) : List CpInfo := es.foldr (fun e r => gap e.1 (e.2 :: r)) (gap last [])
def pool (es : List (Nat × CpInfo)) (last : Nat) : Array CpInfo := ⟨poolList es last⟩
def fileOf (pool : Array CpInfo) (this : Nat) (attrs : Array Attribute := #[]) (ms : Array MethodInfo := #[]) (fl : Nat := 33) (sup : Nat := 0) (ifs : Array Nat := #[]) (fds : Array FieldInfo := #[]) : ClassFile where
  minorVersion := 0
  majorVersion := 65
  constantPool := pool
  accessFlags := fl
  thisClass := this
  superClass := sup
  interfaces := ifs
  fields := fds
  methods := ms
  attributes := attrs
def plain (name : String) (sup : Option ClassId) : Class where
  name := name
  kind := .ordinary
  loader := none
  accessFlags := 33
  super := sup
  interfaces := #[]
  cf := none
  fields := #[]
  methods := #[]
  instanceTypes := #[]
  staticTypes := #[]
  resolved := #[]
  callSites := []
  init := .initialized
  statics := none
  mirror := none

def pool0 : Array CpInfo := pool [(5, u "<init>"), (0, u "()V"), (1, .class_ 10), (1, u "java/lang/Object")] 113

def k0m0 : Method := { name := "<init>", desc := "()V", sig := { parameters := [], returnType := none }, accessFlags := 1, code := none }
/-- java/lang/Object -/
def k0 : Class := { plain "java/lang/Object" none with
  accessFlags := 33
  interfaces := #[]
  cf := some (fileOf pool0 8 #[] #[{ accessFlags := 1, nameIndex := 5, descriptorIndex := 6, attributes := #[] }] 33 0 #[] #[])
  fields := #[]
  methods := #[k0m0]
  instanceTypes := #[]
  staticTypes := #[]
  resolved := Array.replicate 124 none
  statics := none }

def pool1 : Array CpInfo := pool [(2, .class_ 4), (1, u "java/lang/Object"), (0, u "<init>"), (0, u "()V"), (0, .fieldref 8 9), (0, .class_ 10), (0, .nameAndType 11 12), (0, u "com/example/seatledger/seatledger/billing/Source"), (0, u "COUNTED"), (0, u "Lcom/example/seatledger/seatledger/billing/Source;"), (0, .fieldref 8 14), (0, .nameAndType 15 12), (0, u "REPORTED"), (0, .fieldref 8 17), (0, .nameAndType 18 12), (0, u "PURCHASED"), (0, .fieldref 8 20), (0, .nameAndType 21 12), (0, u "DISPUTE"), (0, .methodref 8 23), (0, .nameAndType 24 25), (0, u "hasSeats"), (0, u "()Z"), (0, .class_ 27), (0, u "com/example/seatledger/seatledger/billing/SourceHasSeatsPinLaw"), (2, u "law"), (0, u "(I)Z")] 3

def k1m0 : Method := { name := "<init>", desc := "()V", sig := { parameters := [], returnType := none }, accessFlags := 1, code := none }
def k1c1 : Code := { maxStack := 2, maxLocals := 4, code := code, exceptionTable := #[], attributes := #[] }
def k1m1 : Method := { name := "law", desc := "(I)Z", sig := { parameters := [.int], returnType := some .boolean }, accessFlags := 9, code := some k1c1 }
/-- com/example/seatledger/seatledger/billing/SourceHasSeatsPinLaw -/
def k1 : Class := { plain "com/example/seatledger/seatledger/billing/SourceHasSeatsPinLaw" (some 0) with
  accessFlags := 49
  interfaces := #[]
  cf := some (fileOf pool1 26 #[] #[{ accessFlags := 1, nameIndex := 5, descriptorIndex := 6, attributes := #[] }, { accessFlags := 9, nameIndex := 30, descriptorIndex := 31, attributes := #[] }] 49 2 #[] #[])
  fields := #[]
  methods := #[k1m0, k1m1]
  instanceTypes := #[]
  staticTypes := #[]
  resolved := Array.replicate 35 none
  statics := none }

def pool2 : Array CpInfo := pool [(1, .class_ 2), (0, u "java/lang/constant/Constable"), (0, .class_ 4), (0, u "java/lang/Object")] 6

/-- java/lang/constant/Constable -/
def k2 : Class := { plain "java/lang/constant/Constable" (some 0) with
  accessFlags := 1537
  interfaces := #[]
  cf := some (fileOf pool2 1 #[] #[] 1537 3 #[] #[])
  fields := #[]
  methods := #[]
  instanceTypes := #[]
  staticTypes := #[]
  resolved := Array.replicate 11 none
  statics := none }

def pool3 : Array CpInfo := pool [(1, .class_ 2), (0, u "java/lang/Comparable"), (0, .class_ 4), (0, u "java/lang/Object")] 7

/-- java/lang/Comparable -/
def k3 : Class := { plain "java/lang/Comparable" (some 0) with
  accessFlags := 1537
  interfaces := #[]
  cf := some (fileOf pool3 1 #[] #[] 1537 3 #[] #[])
  fields := #[]
  methods := #[]
  instanceTypes := #[]
  staticTypes := #[]
  resolved := Array.replicate 12 none
  statics := none }

def pool4 : Array CpInfo := pool [(1, .class_ 2), (0, u "java/io/Serializable"), (0, .class_ 4), (0, u "java/lang/Object")] 2

/-- java/io/Serializable -/
def k4 : Class := { plain "java/io/Serializable" (some 0) with
  accessFlags := 1537
  interfaces := #[]
  cf := some (fileOf pool4 1 #[] #[] 1537 3 #[] #[])
  fields := #[]
  methods := #[]
  instanceTypes := #[]
  staticTypes := #[]
  resolved := Array.replicate 7 none
  statics := none }

def pool5 : Array CpInfo := pool [(2, .class_ 4), (1, u "java/lang/Enum"), (0, u "name"), (0, u "Ljava/lang/String;"), (2, u "ordinal"), (0, u "I"), (1, .class_ 14), (1, u "java/lang/Object"), (4, u "hash"), (86, .class_ 108), (1, u "java/lang/Enum$EnumDesc"), (2, .class_ 112), (0, u "java/lang/constant/Constable"), (0, .class_ 114), (0, u "java/lang/Comparable"), (0, .class_ 116), (0, u "java/io/Serializable")] 87

/-- java/lang/Enum -/
def k5 : Class := { plain "java/lang/Enum" (some 0) with
  accessFlags := 1057
  interfaces := #[2, 3, 4]
  cf := some (fileOf pool5 2 #[.nestMembers #[106]] #[] 1057 12 #[111, 113, 115] #[{ accessFlags := 18, nameIndex := 5, descriptorIndex := 6, attributes := #[] }, { accessFlags := 18, nameIndex := 9, descriptorIndex := 10, attributes := #[] }, { accessFlags := 2, nameIndex := 19, descriptorIndex := 10, attributes := #[] }])
  fields := #[{ name := "name", type := (.object "java/lang/String"), accessFlags := 18, slot := 0, constantValue := 0 }, { name := "ordinal", type := .int, accessFlags := 18, slot := 1, constantValue := 0 }, { name := "hash", type := .int, accessFlags := 2, slot := 2, constantValue := 0 }]
  methods := #[]
  instanceTypes := #[(.object "java/lang/String"), .int, .int]
  staticTypes := #[]
  resolved := Array.replicate 204 none
  statics := none }

def pool6 : Array CpInfo := pool [(8, .class_ 10), (1, u "com/example/seatledger/seatledger/input/Labelled"), (45, .class_ 57), (0, u "java/lang/Object")] 12

/-- com/example/seatledger/seatledger/input/Labelled -/
def k6 : Class := { plain "com/example/seatledger/seatledger/input/Labelled" (some 0) with
  accessFlags := 1537
  interfaces := #[]
  cf := some (fileOf pool6 8 #[] #[] 1537 56 #[] #[])
  fields := #[]
  methods := #[]
  instanceTypes := #[]
  staticTypes := #[]
  resolved := Array.replicate 70 none
  statics := none }

def pool7 : Array CpInfo := pool [(1, .class_ 2), (0, u "com/example/seatledger/seatledger/billing/Source"), (0, .fieldref 1 4), (0, .nameAndType 5 6), (0, u "COUNTED"), (0, u "Lcom/example/seatledger/seatledger/billing/Source;"), (2, u "REPORTED"), (2, u "PURCHASED"), (2, u "DISPUTE"), (2, u "$VALUES"), (0, u "[Lcom/example/seatledger/seatledger/billing/Source;"), (6, .class_ 28), (1, u "java/lang/Enum"), (8, u "label"), (0, u "Ljava/lang/String;"), (5, .class_ 46), (1, u "com/example/seatledger/seatledger/input/Labelled"), (27, u "hasSeats"), (0, u "()Z")] 6

def k7c0 : Code := { maxStack := 2, maxLocals := 1, code := prog_11_method_6_code, exceptionTable := #[], attributes := #[] }
def k7m0 : Method := { name := "hasSeats", desc := "()Z", sig := { parameters := [], returnType := some .boolean }, accessFlags := 1, code := some k7c0 }
/-- com/example/seatledger/seatledger/billing/Source -/
def k7 : Class := { plain "com/example/seatledger/seatledger/billing/Source" (some 5) with
  accessFlags := 16433
  interfaces := #[6]
  cf := some (fileOf pool7 1 #[] #[{ accessFlags := 1, nameIndex := 74, descriptorIndex := 75, attributes := #[] }] 16433 26 #[44] #[{ accessFlags := 16409, nameIndex := 5, descriptorIndex := 6, attributes := #[] }, { accessFlags := 16409, nameIndex := 9, descriptorIndex := 6, attributes := #[] }, { accessFlags := 16409, nameIndex := 12, descriptorIndex := 6, attributes := #[] }, { accessFlags := 16409, nameIndex := 15, descriptorIndex := 6, attributes := #[] }, { accessFlags := 18, nameIndex := 37, descriptorIndex := 38, attributes := #[] }, { accessFlags := 4122, nameIndex := 18, descriptorIndex := 19, attributes := #[] }])
  fields := #[{ name := "COUNTED", type := (.object "com/example/seatledger/seatledger/billing/Source"), accessFlags := 16409, slot := 0, constantValue := 0 }, { name := "REPORTED", type := (.object "com/example/seatledger/seatledger/billing/Source"), accessFlags := 16409, slot := 1, constantValue := 0 }, { name := "PURCHASED", type := (.object "com/example/seatledger/seatledger/billing/Source"), accessFlags := 16409, slot := 2, constantValue := 0 }, { name := "DISPUTE", type := (.object "com/example/seatledger/seatledger/billing/Source"), accessFlags := 16409, slot := 3, constantValue := 0 }, { name := "label", type := (.object "java/lang/String"), accessFlags := 18, slot := 3, constantValue := 0 }, { name := "$VALUES", type := (.array (.object "com/example/seatledger/seatledger/billing/Source")), accessFlags := 4122, slot := 4, constantValue := 0 }]
  methods := #[k7m0]
  instanceTypes := #[(.object "java/lang/String"), .int, .int, (.object "java/lang/String")]
  staticTypes := #[(.object "com/example/seatledger/seatledger/billing/Source"), (.object "com/example/seatledger/seatledger/billing/Source"), (.object "com/example/seatledger/seatledger/billing/Source"), (.object "com/example/seatledger/seatledger/billing/Source"), (.array (.object "com/example/seatledger/seatledger/billing/Source"))]
  resolved := Array.replicate 82 none
  statics := some 0 }

def pool8 : Array CpInfo := pool [(1, u "java/lang/Cloneable"), (0, .class_ 1), (0, u "java/lang/Object"), (0, .class_ 3)] 3

/-- java/lang/Cloneable -/
def k8 : Class := { plain "java/lang/Cloneable" (some 0) with
  accessFlags := 1537
  interfaces := #[]
  cf := some (fileOf pool8 2 #[] #[] 1537 4 #[] #[])
  fields := #[]
  methods := #[]
  instanceTypes := #[]
  staticTypes := #[]
  resolved := Array.replicate 8 none
  statics := none }

/-- the primitive byte -/
def k9 : Class := { plain "byte" none with kind := .primitive 'B', accessFlags := 0x411 }
/-- [B -/
def k10 : Class := { plain "[B" (some 0) with kind := .array 9 .byte, interfaces := #[8, 4], accessFlags := 1041 }

/-- the primitive int -/
def k11 : Class := { plain "int" none with kind := .primitive 'I', accessFlags := 0x411 }
/-- [I -/
def k12 : Class := { plain "[I" (some 0) with kind := .array 11 .int, interfaces := #[8, 4], accessFlags := 1041 }

def heap : Heap := #[{ cls := 7, slots := #[.ref 1, .ref 2, .ref 3, .ref 4, .null], vm := .statics 7 },
  { cls := 7, slots := #[.null, .int 0, .int 0, .null], vm := .none },
  { cls := 7, slots := #[.null, .int 1, .int 0, .null], vm := .none },
  { cls := 7, slots := #[.null, .int 2, .int 0, .null], vm := .none },
  { cls := 7, slots := #[.null, .int 3, .int 0, .null], vm := .none }]
def classes : Array Class := #[k0, k1, k2, k3, k4, k5, k6, k7, k8, k9, k10, k11, k12]
def interned : List (Array UInt16 × Addr) := []
def slotsUsed : Nat := 21
def theMethod : MethodId := ⟨1, 1⟩
def args0 : Array Value := #[.int 5]
def aboutOver (below : List Frame) : State where
  vm := { classes := classes, interned := interned.toArray }
  heap := heap
  slotsUsed := slotsUsed
  threads := #[{ frames := .invoking theMethod args0 :: below }]
def below0 : List Frame := [.native { method := ⟨0, 0⟩, args := #[] }]
def about1 : State := aboutOver below0
def p0 : Program := .bare "" "" ""
def e0 : Env := launch0.env 0 0 0
theorem w_frames : about1.frames = Frame.invoking theMethod args0 :: below0 := rfl
set_option maxRecDepth 65536 in
theorem w_args : argsFit about1.vm theMethod args0 = true := by decide +kernel
set_option maxRecDepth 65536 in
theorem w_heap : heapFits about1 = true := by decide +kernel
set_option maxRecDepth 65536 in
theorem w_runnable : about1.curStatus? = some .runnable := by decide +kernel
set_option maxRecDepth 65536 in
theorem w_alone : about1.alone = true := by decide +kernel
set_option maxRecDepth 65536 in
theorem w_named : about1.methodNamed? x = some theMethod := by decide +kernel
set_option maxRecDepth 65536 in
theorem w_hears : about1.hears theMethod below0 = true := by decide +kernel
set_option maxRecDepth 65536 in
theorem w_ripe : about1.ripe theMethod args0 below0 = true := by decide +kernel
theorem w_running : about1.status = .running := rfl
set_option maxRecDepth 65536 in
theorem w_room : about1.hasRoom e0.platform room_1 = true :=
  launch0.hasRoom_least _ room_1 (by decide +kernel) (by decide +kernel) (by decide +kernel) (by decide +kernel) (by decide +kernel) (by decide +kernel)
theorem allAtoms_all (ts : List Jvm.Cond) (a : Array Jvm.Value) (st : Jvm.State) : (allAtoms ts).before a st = ts.all (fun c => c.before a st) := by
  induction ts with
  | nil => rfl
  | cons c t ih =>
    show (Jvm.Cond.and c (allAtoms t)).before a st = _
    rw [Jvm.Cond.before_and, ih, List.all_cons]
def words1 : List Jvm.Cond := Jvm.Cond.code x code maxLocals ret :: tables_1
/-- a 'code' word, met by the world's own term for the bytes: nothing is compared byte by byte -/
theorem code_word {y : MethodName} {bytes : ByteArray} {mx : Nat} {rt : Option FieldType} {a : Array Value} {s : State} {m : MethodId} {meth : Method} {c : Code} (h1 : s.methodNamed? y = some m) (h2 : s.vm.method? m = some meth) (h3 : meth.code = some c) (h4 : c.code = bytes)
    (h5 : (c.maxLocals == mx && c.exceptionTable.isEmpty && decide (c.maxStack ≤ mostOperands) && decide (meth.sig.returnType = rt) && !meth.locks && decide (parseMethodDescriptor y.desc = some meth.sig)) = true) : (Jvm.Cond.code y bytes mx rt).before a s = true := by
  simp only [Bool.and_eq_true, beq_iff_eq, Bool.not_eq_true', decide_eq_true_eq] at h5
  obtain ⟨⟨⟨⟨⟨g1, g2⟩, g3⟩, g4⟩, g5⟩, g6⟩ := h5
  simp [Cond.before, Cond.holds, Cond.value, h1, h2, h3, h4, g1, g2, g3, g4, g5, g6]
def isCode : Jvm.Cond → Bool
  | .code _ _ _ _ => true
  | _ => false
theorem all_split {L : List Jvm.Cond} {P : Jvm.Cond → Bool} (h1 : L.all (fun c => isCode c || P c) = true) (h2 : ∀ c ∈ L.filter isCode, P c = true) : L.all P = true := by
  refine List.all_eq_true.mpr fun c hc => ?_
  have h := List.all_eq_true.mp h1 c hc
  rcases Bool.eq_false_or_eq_true (isCode c) with hi | hi
  · exact h2 c (List.mem_filter.mpr ⟨hc, hi⟩)
  · simpa [hi] using h
set_option maxRecDepth 65536 in
theorem w_c0 : (Jvm.Cond.code x code maxLocals ret).before args0 about1 = true := code_word (m := ⟨1, 1⟩) (meth := k1m1) (c := k1c1) (by decide +kernel) rfl rfl rfl (by decide +kernel)
set_option maxRecDepth 65536 in
theorem w_c1 : (Jvm.Cond.code ({ cls := "com/example/seatledger/seatledger/billing/Source", name := "hasSeats", desc := "()Z" } : Jvm.MethodName) prog_11_method_6_code (1 : Nat) (Option.some Jvm.ClassFile.FieldType.boolean)).before args0 about1 = true := code_word (m := ⟨7, 0⟩) (meth := k7m0) (c := k7c0) (by decide +kernel) rfl rfl rfl (by decide +kernel)
def codes1 : List Jvm.Cond := [Jvm.Cond.code x code maxLocals ret, Jvm.Cond.code ({ cls := "com/example/seatledger/seatledger/billing/Source", name := "hasSeats", desc := "()Z" } : Jvm.MethodName) prog_11_method_6_code (1 : Nat) (Option.some Jvm.ClassFile.FieldType.boolean)]
set_option maxRecDepth 65536 in
theorem codes_eq : words1.filter isCode = codes1 := rfl
theorem w_codes : ∀ c ∈ words1.filter isCode, c.before args0 about1 = true := by
  rw [codes_eq]
  intro c hc
  simp only [codes1, List.mem_cons, List.not_mem_nil, or_false] at hc
  rcases hc with rfl | rfl
  · exact w_c0
  · exact w_c1
set_option maxRecDepth 65536 in
theorem w_t1 : words1.all (fun c => isCode c || c.before args0 about1) = true := by decide +kernel
theorem w_tables : (allAtoms (Jvm.Cond.code x code maxLocals ret :: tables_1)).before args0 about1 = true := by
  rw [allAtoms_all]
  show words1.all (fun c => c.before args0 about1) = true
  refine all_split ?_ w_codes
  rw [w_t1]
set_option maxRecDepth 65536 in
theorem w_case : (Jvm.Cond.and given_1 narrow_1).before args0 about1 = true := by decide +kernel
theorem w_applies : (headSpec (Jvm.Cond.code x code maxLocals ret :: tables_1) room_1).applies x e0.platform about1 = true :=
  (Spec.applies_iff w_frames).mpr ⟨w_running, w_runnable, w_alone, w_named, w_hears, w_ripe, w_room, w_tables⟩
theorem atStart : AtStart classFile x code maxLocals ret World_1 tables_1 room_1 Calls_1 rest_1 Pre_1 launch0 p0 e0 about1 theMethod args0 below0 :=
  ⟨lists_1, trivial, launch0.admits_env _ _ _, launch0.least_env, fairChoices_fair.cas, fairChoices_fair.clock, w_frames, w_args, w_heap, w_applies, trivial, trivial, w_case⟩
end start1
theorem witness_1 : WitnessClaimed_1 := ⟨start1.p0, start1.e0, start1.about1, start1.theMethod, start1.args0, start1.below0, start1.atStart⟩
end Jvm.Pilot.@@N@@
