import JvmDerived
import JvmDerived.Pilot.@@N@@Statement
import JvmDerived.Pilot.@@N@@Code
set_option linter.unusedVariables false
set_option linter.unusedSimpArgs false
@@BLOCK:NumsL.lean.txt@@
namespace Jvm.RoadKit
open Sem ClassFile Op Lib Jvm.Stand Jvm.Free Jvm.LawKit
section New
variable {p : Program} {l : Launch} {e : Env} {R : Room} {s : State} {m : MethodId} {args : Array Value} {below : List Frame} {meth : Method} {c : Code} {T : State} {locs : List Loc} {cells slots : Nat}
theorem retI (X : Stand p l e R s m args below meth c T locs cells slots) (hx : p.tables.exec = Jvm.exec) {pc : Nat} {Ls : Array Slot} {z : Int32} {rest : List Value} (hret : meth.sig.returnType = some .int) (hd : decode c.code pc = .ok (.ireturn, 1)) {fs : List Frame}
    (hl : ∀ (f : JFrame) (acts : List Action), f.method = m → f.locked = none → f.entered = [] → (doReturn e (T.setTop f) acts (some (.int z))).1 = T.setFrames fs) : Steps p.tables e below (T.setTop (mkF m pc Ls (.int z :: rest))) (T.setFrames fs) := by
  have hm' : T.vm.method? m = some meth := X.method'
  have hn : narrow .int (.int z) = .int z := rfl
  show Steps p.tables e below (T.setTop { method := m, pc := pc, locals := Ls, stack := _ :: rest, locked := none }) _
  jvm_step X.here [X.here.top, hx, hd, hm', hret, hn]
  first | (intro acts; rw [hl _ acts rfl rfl rfl]) | rw [hl _ _ rfl rfl rfl]
  exact Steps.refl _
end New
end Jvm.RoadKit
namespace Jvm.Pilot.@@N@@
open Jvm Jvm.ClassFile Sem Op Lib Jvm.Free Jvm.Stand Jvm.LawKit Jvm.RoadKit Bundle Jvm.Pilot.@@N@@.Jvm.D
/-- from F on the run comes to the method's end, and K holds there -/
def own_Go (tb : Tables) (e : Env) (below : List Frame) (F : State) (K : Outcome → State → Prop) : Prop := ∃ t o, Steps tb e below F t ∧ t.status = .running ∧ Ended t below o ∧ K o t
theorem own_via {tb : Tables} {e : Env} {below : List Frame} {F G : State} {K : Outcome → State → Prop} (h : ∀ t, Steps tb e below G t → Steps tb e below F t) (k : own_Go tb e below G K) : own_Go tb e below F K := by
  obtain ⟨t, o, h1, h2⟩ := k
  exact ⟨t, o, h t h1, h2⟩
/-- what is asked at the end: it has returned, Q holds of the value, the heap and what was written -/
def own_K (s : State) (Q : Option Value → Heap → List Loc → Prop) (kc ks : Nat) (o : Outcome) (t : State) : Prop := ∃ v L, o = .returned v ∧ Q v t.heap L ∧ FrameEnd s o t L kc ks
/-- what a walk knows of its method all along -/
def own_C (p : Program) (s : State) (m : MethodId) (meth : Method) (c : Code) (Z : State) (a0 : Array Value) (bytes : ByteArray) (ml : Nat) (cls : String) (rt : Option FieldType) (nme : String) : Prop :=
  p.tables.exec = Jvm.exec ∧ Z.Warmed39 s.vm ∧ (∀ d ∈ tables_1, d.before a0 Z = true) ∧ c.code = bytes ∧ c.maxLocals = ml ∧ s.vm.findClass cls = some m.cls ∧ meth.sig.returnType = rt ∧ meth.locks = false ∧ meth.name = nme
theorem own_fin {p : Program} {l : Launch} {e : Env} {R : Room} {s : State} {m : MethodId} {args : Array Value} {below : List Frame} {meth : Method} {c : Code} {T : State} {locs : List Loc} {cells slots : Nat} (X : Stand p l e R s m args below meth c T locs cells slots) {F : State} {h : Heap} (eh : T.heap = h) {v : Option Value} {Q : Option Value → Heap → List Loc → Prop} {kc ks : Nat} (hv : meth.sig.returnType = none → v = none) (hlk : meth.locks = false)
    (hstep : ∀ fs, (∀ (f : JFrame) (acts : List Action), f.method = m → f.locked = none → f.entered = [] → (doReturn e (T.setTop f) acts v).1 = T.setFrames fs) → Steps p.tables e below F (T.setFrames fs)) (q : Q v h locs) (hc : cells ≤ kc) (hs : slots ≤ ks) : own_Go p.tables e below F (own_K s Q kc ks) := by
  obtain ⟨fs, hr, hrun, hended, hW, hsame⟩ := X.leave (v := v) hv hlk
  subst eh
  exact ⟨_, _, hstep fs hr, hrun, hended, _, _, rfl, q, ⟨_, rfl⟩, hW, hsame.mono hc hs⟩
theorem own_len {p : Program} {l : Launch} {e : Env} {R : Room} {s : State} {m : MethodId} {args : Array Value} {below : List Frame} {meth : Method} {c : Code} {T : State} {locs : List Loc} {cells slots : Nat} {Z : State} {h : Heap} (X : Stand p l e R s m args below meth c T locs cells slots) (hx : p.tables.exec = Jvm.exec) (hZ : Z.Warmed39 s.vm) (eT : T.heap = h) {a : Addr} {cl : Cell} {ty : FieldType} {n : Int32} (A : Arr Z h a cl ty) (S : cl.slots.size = n.toNatClampNeg) (N : ¬ n < 0)
    {g : JFrame} (hg : g.method = m) {rest : List Value} (hs : g.stack = .ref a :: rest) (hd : decode c.code g.pc = .ok (.arraylength, 1)) {t : State} (k : Steps p.tables e below (T.setTop { g with pc := g.pc + 1, stack := .int n :: rest }) t) : Steps p.tables e below (T.setTop g) t := by
  refine X.arraylength hx (by rw [eT]; exact A.1) (State.isArrayOf_alike hZ.alike A.2.1) hg hs hd _ ?_
  rw [len_of S N]
  exact k
def Q2 (Z : State) (o1 : Addr) (h0 : Heap) (n0 : Nat) (v : Option Value) (h : Heap) (L : List Loc) : Prop := v = none ∧ Fr n0 L ∧ h = h0
theorem d2_0 : decode jdk_30_method_1_code 0 = .ok (.aload_n 0, 1) := by decide +kernel
theorem d2_1 : decode jdk_30_method_1_code 1 = .ok (.invokespecial 1, 3) := by decide +kernel
theorem d2_4 : decode jdk_30_method_1_code 4 = .ok (.return_, 1) := by decide +kernel
set_option maxRecDepth 65536 in
set_option maxHeartbeats 40000000 in
theorem b2 {p : Program} {l : Launch} {e : Env} {s : State} {m : MethodId} {args : Array Value} {below : List Frame} {meth : Method} {c : Code} {T0 : State} {locs : List Loc} {Z : State} {a0 : Array Value} {h0 : Heap} {n0 : Nat} (o1 : Addr)
    (C : own_C p s m meth c Z a0 jdk_30_method_1_code 1 "java/lang/Record" none "<init>") (X0 : Stand p l e ({ frames := 1, cells := 0, slots := 0, locals := 12 } : Room) s m args below meth c T0 locs 0 0) (e0 : T0.heap = h0) (Z0 : n0 ≤ h0.size) (N0 : Fr n0 locs) :
    own_Go p.tables e below (T0.setTop (mkF m 0 #[.val (.ref o1)] [])) (own_K s (fun v h L => Q2 Z o1 h0 n0 v h L) ({ frames := 1, cells := 0, slots := 0, locals := 12 } : Room).cells ({ frames := 1, cells := 0, slots := 0, locals := 12 } : Room).slots) := by
  obtain ⟨hx, hZ, hw, hby, hml, hown, hret, hlk, hnm⟩ := C
  refine own_via (G := T0.setTop (mkF m 1 #[.val (.ref o1)] [(.ref o1)])) (fun t k => XS.aloadN X0.here hx rfl (hb hby d2_0) rfl rfl k) ?_
  obtain ⟨T1, X1, e1, st1⟩ := initO X0 hx hZ hown (hw _ (List.mem_of_getElem? (i := 11) rfl)) (hw _ (List.mem_of_getElem? (i := 12) rfl)) (hw _ (List.mem_of_getElem? (i := 13) rfl)) e0 (g := (mkF m 1 #[.val (.ref o1)] [(.ref o1)])) rfl (by rw [hml]; rfl) rfl (hb hby d2_1) (by decide) (W := 0) (by show 2 * 0 + _ ≤ _; exact Nat.le_of_eq rfl) (by decide)
  refine own_via (G := T1.setTop (mkF m 4 #[.val (.ref o1)] [])) (fun t k => st1 t k) ?_
  exact own_fin X1 e1 (v := none) (fun _ => rfl) hlk (fun fs hr => X1.returnOut hx hret (hb hby d2_4) hr) (show ((fun v h L => Q2 Z o1 h0 n0 v h L)) none h0 _ from ⟨rfl, N0, rfl⟩) (by decide) (by decide)
theorem pn_0 : plainName "java/lang/Record" = true := by first | (simp [plainName, overriddenIn]; done) | decide +kernel
theorem ef_2 (m : MethodId) (o1 : Addr) : entryFrame m #[(.ref o1)] 1 = mkF m 0 #[.val (.ref o1)] [] := by first | (simp [entryFrame, mkF, argsToLocals, Value.category, maxLocals]; done) | rfl
set_option maxRecDepth 65536 in
set_option maxHeartbeats 40000000 in
theorem rm2 (l : Launch) (Z : State) (a0 : Array Value) (hw : ∀ d ∈ tables_1, d.before a0 Z = true) (ws : List Jvm.Cond) (o1 : Addr) (h0 : Heap) (n0 : Nat) (Z0 : n0 ≤ h0.size) :
    MetFree l (⟨"java/lang/Record", "<init>", "()V"⟩ : MethodName) (head1 (Jvm.Cond.code (⟨"java/lang/Record", "<init>", "()V"⟩ : MethodName) jdk_30_method_1_code 1 none :: ws) ({ frames := 1, cells := 0, slots := 0, locals := 12 } : Room)) (fun a U => a = #[(.ref o1)] ∧ Z.Warmed39 U.vm ∧ U.heap = h0) (fun _ _ _ _ _ => True) (fun _ U o U' => ∃ v L, o = .returned v ∧ Q2 Z o1 h0 n0 v U'.heap L ∧ FrameEnd U o U' L ({ frames := 1, cells := 0, slots := 0, locals := 12 } : Room).cells ({ frames := 1, cells := 0, slots := 0, locals := 12 } : Room).slots) := by
  refine MetFree.of_bodySF (plainFor_of_name pn_0) hisR ?_
  intro p e s m args below meth c s₁ Bd hml0 hP hK
  obtain ⟨rfl, hZ, hh⟩ := hP
  have e0 : s₁.heap = h0 := by rw [← hh, Bd.state]; rfl
  rw [ef_2 m o1]
  exact b2 o1 ⟨Bd.exec, hZ, hw, Bd.bytes, hml0, findClass_of_methodNamed Bd.named, Bd.returns, Bd.notSynchronized, (name_of_methodNamed Bd.named Bd.method).1⟩ (Stand.of_body Bd) e0 Z0 (Fr.nil n0)
def Q1 (Z : State) (o1 : Addr) (q0 : Int64) (q1 : Int32) (u0 : Int64) (u1 : Int32) (h0 : Heap) (n0 : Nat) (v : Option Value) (h : Heap) (L : List Loc) : Prop := v = none ∧ Fr n0 L ∧ Keep h0 h [o1] ∧ Exa Z h o1 "com/example/if_unchanged/ifunchanged/Turns$HeldLease" ∧ Fld Z h o1 "com/example/if_unchanged/ifunchanged/Turns$HeldLease" "token" "J" (.long q0) ∧ Fld Z h o1 "com/example/if_unchanged/ifunchanged/Turns$HeldLease" "writes" "I" (.int q1)
theorem d1_0 : decode prog_14_method_1_code 0 = .ok (.aload_n 0, 1) := by decide +kernel
theorem d1_1 : decode prog_14_method_1_code 1 = .ok (.invokespecial 1, 3) := by decide +kernel
theorem pd_0 : parseMethodDescriptor "()V" = some ⟨[], none⟩ := by decide +kernel
theorem d1_4 : decode prog_14_method_1_code 4 = .ok (.aload_n 0, 1) := by decide +kernel
theorem d1_5 : decode prog_14_method_1_code 5 = .ok (.lload_n 1, 1) := by decide +kernel
theorem d1_6 : decode prog_14_method_1_code 6 = .ok (.putfield 7, 3) := by decide +kernel
theorem d1_9 : decode prog_14_method_1_code 9 = .ok (.aload_n 0, 1) := by decide +kernel
theorem d1_10 : decode prog_14_method_1_code 10 = .ok (.iload_n 3, 1) := by decide +kernel
theorem d1_11 : decode prog_14_method_1_code 11 = .ok (.putfield 13, 3) := by decide +kernel
theorem d1_14 : decode prog_14_method_1_code 14 = .ok (.return_, 1) := by decide +kernel
set_option maxRecDepth 65536 in
set_option maxHeartbeats 40000000 in
theorem b1 {p : Program} {l : Launch} {e : Env} {s : State} {m : MethodId} {args : Array Value} {below : List Frame} {meth : Method} {c : Code} {T0 : State} {locs : List Loc} {Z : State} {a0 : Array Value} {h0 : Heap} {n0 : Nat} (o1 : Addr) (q0 : Int64) (q1 : Int32) (u0 : Int64) (u1 : Int32)
    (C : own_C p s m meth c Z a0 prog_14_method_1_code 4 "com/example/if_unchanged/ifunchanged/Turns$HeldLease" none "<init>") (X0 : Stand p l e ({ frames := 2, cells := 0, slots := 0, locals := 24 } : Room) s m args below meth c T0 locs 0 0) (e0 : T0.heap = h0) (Z0 : n0 ≤ h0.size) (N0 : Fr n0 locs) (E1 : Exa Z h0 o1 "com/example/if_unchanged/ifunchanged/Turns$HeldLease") (F0 : Fld Z h0 o1 "com/example/if_unchanged/ifunchanged/Turns$HeldLease" "token" "J" (.long u0)) (F1 : Fld Z h0 o1 "com/example/if_unchanged/ifunchanged/Turns$HeldLease" "writes" "I" (.int u1)) (g_o1 : n0 ≤ o1) :
    own_Go p.tables e below (T0.setTop (mkF m 0 #[.val (.ref o1), .val (.long q0), .second, .val (.int q1)] [])) (own_K s (fun v h L => Q1 Z o1 q0 q1 u0 u1 h0 n0 v h L) ({ frames := 2, cells := 0, slots := 0, locals := 24 } : Room).cells ({ frames := 2, cells := 0, slots := 0, locals := 24 } : Room).slots) := by
  obtain ⟨hx, hZ, hw, hby, hml, hown, hret, hlk, hnm⟩ := C
  refine own_via (G := T0.setTop (mkF m 1 #[.val (.ref o1), .val (.long q0), .second, .val (.int q1)] [(.ref o1)])) (fun t k => XS.aloadN X0.here hx rfl (hb hby d1_0) rfl rfl k) ?_
  obtain ⟨_, _, ⟨T1, L1, k1, n1⟩, -, X1, ⟨Lc1, hQ1, l1, y1, z1⟩, st1⟩ := X0.specialBack hx (y := (⟨"java/lang/Record", "<init>", "()V"⟩ : MethodName)) rfl hown (mvT hZ (hw _ (List.mem_of_getElem? (i := 6) rfl))) (mvT hZ (hw _ (List.mem_of_getElem? (i := 7) rfl))) (mvT hZ (hw _ (List.mem_of_getElem? (i := 10) rfl))) (by decide) (backOf (W := 0) (rm2 l Z a0 hw [] o1 h0 n0 Z0) hZ (hw _ (List.mem_of_getElem? (i := 10) rfl)) (hw _ (List.mem_of_getElem? (i := 9) rfl)) (by decide) (by decide)) (g := (mkF m 1 #[.val (.ref o1), .val (.long q0), .second, .val (.int q1)] [(.ref o1)])) rfl (by rw [hml]; rfl) (Steps.refl _) (a := o1) (argsL := []) (rest := []) (lenOf pd_0 rfl) rfl (by show 2 * 0 + _ ≤ _; exact Nat.le_of_eq rfl) (hb hby d1_1) (fun _ _ => ⟨rfl, e0, (by decide : 0 + 0 ≤ _), (by decide : 0 + 0 ≤ _)⟩)
  dsimp only [Pt.U, Pt.locs, Pt.cells, Pt.slots] at X1 l1 y1 z1 st1 hQ1
  subst l1 y1 z1
  obtain ⟨rfl, Nq1, eh1⟩ := hQ1
  have N1 := Fr.app N0 Nq1
  refine own_via (G := T1.setTop (mkF m 4 #[.val (.ref o1), .val (.long q0), .second, .val (.int q1)] [])) (fun t k => st1.trans k) ?_
  refine own_via (G := T1.setTop (mkF m 5 #[.val (.ref o1), .val (.long q0), .second, .val (.int q1)] [(.ref o1)])) (fun t k => XS.aloadN X1.here hx rfl (hb hby d1_4) rfl rfl k) ?_
  refine own_via (G := T1.setTop (mkF m 6 #[.val (.ref o1), .val (.long q0), .second, .val (.int q1)] [(.long q0), (.ref o1)])) (fun t k => XT.lloadN X1.here hx rfl (hb hby d1_5) rfl k) ?_
  obtain ⟨T2, h2, X2, e2, W2, st2⟩ := putF X1 hx hZ hown (host := "") (Or.inl (hw _ (List.mem_of_getElem? (i := 14) rfl))) Via.refl eh1 F0 E1 (Or.inr ⟨(hw _ (List.mem_of_getElem? (i := 15) rfl)), rfl, hnm⟩) (hw _ (List.mem_of_getElem? (i := 1) rfl)) (ty := .long) (by decide) rfl rfl (g := (mkF m 6 #[.val (.ref o1), .val (.long q0), .second, .val (.int q1)] [(.long q0), (.ref o1)])) rfl rfl (hb hby d1_6)
  have F0'2 := F0.same W2
  have E1'2 := E1.wr W2
  have F1'2 := F1.other W2 (Or.inr (slot_ne (Or.inr (hw _ (List.mem_of_getElem? (i := 17) rfl))) (Or.inr (hw _ (List.mem_of_getElem? (i := 15) rfl))) (by decide) (t := .int) (t' := .long) (by decide) (by decide)))
  have N2 := Fr.snoc X2 N1 g_o1
  have Z2 : n0 ≤ h2.size := Nat.le_trans Z0 (Keep.of_wr W2).1
  have K2 := ((Keep.refl h0 [o1])).wr W2 (Or.inl (List.mem_of_getElem? (i := 0) rfl))
  refine own_via (G := T2.setTop (mkF m 9 #[.val (.ref o1), .val (.long q0), .second, .val (.int q1)] [])) (fun t k => st2 t k) ?_
  refine own_via (G := T2.setTop (mkF m 10 #[.val (.ref o1), .val (.long q0), .second, .val (.int q1)] [(.ref o1)])) (fun t k => XS.aloadN X2.here hx rfl (hb hby d1_9) rfl rfl k) ?_
  refine own_via (G := T2.setTop (mkF m 11 #[.val (.ref o1), .val (.long q0), .second, .val (.int q1)] [(.int q1), (.ref o1)])) (fun t k => XS.iloadN X2.here hx rfl (hb hby d1_10) rfl k) ?_
  obtain ⟨T3, h3, X3, e3, W3, st3⟩ := putF X2 hx hZ hown (host := "") (Or.inl (hw _ (List.mem_of_getElem? (i := 16) rfl))) Via.refl e2 F1'2 E1'2 (Or.inr ⟨(hw _ (List.mem_of_getElem? (i := 17) rfl)), rfl, hnm⟩) (hw _ (List.mem_of_getElem? (i := 1) rfl)) (ty := .int) (by decide) rfl rfl (g := (mkF m 11 #[.val (.ref o1), .val (.long q0), .second, .val (.int q1)] [(.int q1), (.ref o1)])) rfl rfl (hb hby d1_11)
  have F1'3 := F1'2.same W3
  have E1'3 := E1'2.wr W3
  have F0'3 := F0'2.other W3 (Or.inr (slot_ne (Or.inr (hw _ (List.mem_of_getElem? (i := 15) rfl))) (Or.inr (hw _ (List.mem_of_getElem? (i := 17) rfl))) (by decide) (t := .long) (t' := .int) (by decide) (by decide)))
  have N3 := Fr.snoc X3 N2 g_o1
  have Z3 : n0 ≤ h3.size := Nat.le_trans Z2 (Keep.of_wr W3).1
  have K3 := (K2).wr W3 (Or.inl (List.mem_of_getElem? (i := 0) rfl))
  refine own_via (G := T3.setTop (mkF m 14 #[.val (.ref o1), .val (.long q0), .second, .val (.int q1)] [])) (fun t k => st3 t k) ?_
  exact own_fin X3 e3 (v := none) (fun _ => rfl) hlk (fun fs hr => X3.returnOut hx hret (hb hby d1_14) hr) (show ((fun v h L => Q1 Z o1 q0 q1 u0 u1 h0 n0 v h L)) none h3 _ from ⟨rfl, N3, K3, (E1'3), (F0'3), (F1'3)⟩) (by decide) (by decide)
theorem pn_1 : plainName "com/example/if_unchanged/ifunchanged/Turns$HeldLease" = true := by first | (simp [plainName, overriddenIn]; done) | decide +kernel
theorem ef_1 (m : MethodId) (o1 : Addr) (q0 : Int64) (q1 : Int32) : entryFrame m #[(.ref o1), (.long q0), (.int q1)] 4 = mkF m 0 #[.val (.ref o1), .val (.long q0), .second, .val (.int q1)] [] := by first | (simp [entryFrame, mkF, argsToLocals, Value.category, maxLocals]; done) | rfl
set_option maxRecDepth 65536 in
set_option maxHeartbeats 40000000 in
theorem rm1 (l : Launch) (Z : State) (a0 : Array Value) (hw : ∀ d ∈ tables_1, d.before a0 Z = true) (ws : List Jvm.Cond) (o1 : Addr) (q0 : Int64) (q1 : Int32) (u0 : Int64) (u1 : Int32) (h0 : Heap) (n0 : Nat) (Z0 : n0 ≤ h0.size) (E1 : Exa Z h0 o1 "com/example/if_unchanged/ifunchanged/Turns$HeldLease") (F0 : Fld Z h0 o1 "com/example/if_unchanged/ifunchanged/Turns$HeldLease" "token" "J" (.long u0)) (F1 : Fld Z h0 o1 "com/example/if_unchanged/ifunchanged/Turns$HeldLease" "writes" "I" (.int u1)) (g_o1 : n0 ≤ o1) :
    MetFree l (⟨"com/example/if_unchanged/ifunchanged/Turns$HeldLease", "<init>", "(JI)V"⟩ : MethodName) (head1 (Jvm.Cond.code (⟨"com/example/if_unchanged/ifunchanged/Turns$HeldLease", "<init>", "(JI)V"⟩ : MethodName) prog_14_method_1_code 4 none :: ws) ({ frames := 2, cells := 0, slots := 0, locals := 24 } : Room)) (fun a U => a = #[(.ref o1), (.long q0), (.int q1)] ∧ Z.Warmed39 U.vm ∧ U.heap = h0) (fun _ _ _ _ _ => True) (fun _ U o U' => ∃ v L, o = .returned v ∧ Q1 Z o1 q0 q1 u0 u1 h0 n0 v U'.heap L ∧ FrameEnd U o U' L ({ frames := 2, cells := 0, slots := 0, locals := 24 } : Room).cells ({ frames := 2, cells := 0, slots := 0, locals := 24 } : Room).slots) := by
  refine MetFree.of_bodySF (plainFor_of_name pn_1) hisR ?_
  intro p e s m args below meth c s₁ Bd hml0 hP hK
  obtain ⟨rfl, hZ, hh⟩ := hP
  have e0 : s₁.heap = h0 := by rw [← hh, Bd.state]; rfl
  rw [ef_1 m o1 q0 q1]
  exact b1 o1 q0 q1 u0 u1 ⟨Bd.exec, hZ, hw, Bd.bytes, hml0, findClass_of_methodNamed Bd.named, Bd.returns, Bd.notSynchronized, (name_of_methodNamed Bd.named Bd.method).1⟩ (Stand.of_body Bd) e0 Z0 (Fr.nil n0) E1 F0 F1 g_o1
def Q5 (Z : State) (o1 : Addr) (u1 : Int64) (u2 : Int32) (h0 : Heap) (n0 : Nat) (v : Option Value) (h : Heap) (L : List Loc) : Prop := ∃ bz : Addr, v = some (.ref bz) ∧ Fr n0 L ∧ Keep h0 h [] ∧ h0.size ≤ bz ∧ Exa Z h bz "com/example/if_unchanged/ifunchanged/Turns$HeldLease" ∧ Fld Z h bz "com/example/if_unchanged/ifunchanged/Turns$HeldLease" "token" "J" (.long u1) ∧ Fld Z h bz "com/example/if_unchanged/ifunchanged/Turns$HeldLease" "writes" "I" (.int (u2 + (1 : Int32)))
theorem d5_0 : decode prog_14_method_2_code 0 = .ok (.new 8, 3) := by decide +kernel
theorem d5_3 : decode prog_14_method_2_code 3 = .ok (.dup, 1) := by decide +kernel
theorem d5_4 : decode prog_14_method_2_code 4 = .ok (.aload_n 0, 1) := by decide +kernel
theorem d5_5 : decode prog_14_method_2_code 5 = .ok (.getfield 7, 3) := by decide +kernel
theorem d5_8 : decode prog_14_method_2_code 8 = .ok (.aload_n 0, 1) := by decide +kernel
theorem d5_9 : decode prog_14_method_2_code 9 = .ok (.getfield 13, 3) := by decide +kernel
theorem d5_12 : decode prog_14_method_2_code 12 = .ok (.iconst 1, 1) := by decide +kernel
theorem d5_13 : decode prog_14_method_2_code 13 = .ok (.iadd, 1) := by decide +kernel
theorem d5_14 : decode prog_14_method_2_code 14 = .ok (.invokespecial 17, 3) := by decide +kernel
theorem pd_1 : parseMethodDescriptor "(JI)V" = some ⟨[.long, .int], none⟩ := by decide +kernel
theorem d5_17 : decode prog_14_method_2_code 17 = .ok (.areturn, 1) := by decide +kernel
set_option maxRecDepth 65536 in
set_option maxHeartbeats 40000000 in
theorem b5 {p : Program} {l : Launch} {e : Env} {s : State} {m : MethodId} {args : Array Value} {below : List Frame} {meth : Method} {c : Code} {T0 : State} {locs : List Loc} {Z : State} {a0 : Array Value} {h0 : Heap} {n0 : Nat} (o1 : Addr) (u1 : Int64) (u2 : Int32)
    (C : own_C p s m meth c Z a0 prog_14_method_2_code 1 "com/example/if_unchanged/ifunchanged/Turns$HeldLease" (some (.object "com/example/if_unchanged/ifunchanged/Turns$HeldLease")) "served") (X0 : Stand p l e ({ frames := 3, cells := 1, slots := 2, locals := 40 } : Room) s m args below meth c T0 locs 0 0) (e0 : T0.heap = h0) (Z0 : n0 ≤ h0.size) (N0 : Fr n0 locs) (F1 : Fld Z h0 o1 "com/example/if_unchanged/ifunchanged/Turns$HeldLease" "token" "J" (.long u1)) (F2 : Fld Z h0 o1 "com/example/if_unchanged/ifunchanged/Turns$HeldLease" "writes" "I" (.int u2)) :
    own_Go p.tables e below (T0.setTop (mkF m 0 #[.val (.ref o1)] [])) (own_K s (fun v h L => Q5 Z o1 u1 u2 h0 n0 v h L) ({ frames := 3, cells := 1, slots := 2, locals := 40 } : Room).cells ({ frames := 3, cells := 1, slots := 2, locals := 40 } : Room).slots) := by
  obtain ⟨hx, hZ, hw, hby, hml, hown, hret, hlk, hnm⟩ := C
  obtain ⟨T1, h1, X1, e1, E1, A1, D1, -, st1⟩ := newO X0 hx hZ hown (hw _ (List.mem_of_getElem? (i := 29) rfl)) (hw _ (List.mem_of_getElem? (i := 1) rfl)) (hw _ (List.mem_of_getElem? (i := 2) rfl)) e0 (g := (mkF m 0 #[.val (.ref o1)] [])) rfl (hb hby d5_0) (by decide) (by decide)
  obtain ⟨b1, g1⟩ : ∃ z, z = h0.size := ⟨_, rfl⟩
  rw [← g1] at A1 D1 st1
  have ne_o1_b1 : o1 ≠ b1 := Nat.ne_of_lt (Nat.lt_of_lt_of_le F1.lt (Nat.le_of_eq g1.symm))
  have g_b1 : n0 ≤ b1 := Nat.le_trans Z0 (Nat.le_of_eq g1.symm)
  have F1'1 := F1.ext E1
  have F2'1 := F2.ext E1
  have sz_b1 : h0.size ≤ b1 := Nat.le_trans ((Keep.refl h0 [])).1 (Nat.le_of_eq g1.symm)
  have K1 := ((Keep.refl h0 [])).ext E1
  have Z1 : n0 ≤ h1.size := Nat.le_trans Z0 E1.1
  have F_token_b1 : Fld Z h1 b1 "com/example/if_unchanged/ifunchanged/Turns$HeldLease" "token" "J" (.long (0 : Int64)) := D1 (Or.inr (hw _ (List.mem_of_getElem? (i := 15) rfl))) (ty := .long) (by decide)
  have F_writes_b1 : Fld Z h1 b1 "com/example/if_unchanged/ifunchanged/Turns$HeldLease" "writes" "I" (.int (0 : Int32)) := D1 (Or.inr (hw _ (List.mem_of_getElem? (i := 17) rfl))) (ty := .int) (by decide)
  refine own_via (G := T1.setTop (mkF m 3 #[.val (.ref o1)] [(.ref b1)])) (fun t k => st1 t k) ?_
  refine own_via (G := T1.setTop (mkF m 4 #[.val (.ref o1)] [(.ref b1), (.ref b1)])) (fun t k => XS.dup X1.here hx rfl (hb hby d5_3) rfl rfl k) ?_
  refine own_via (G := T1.setTop (mkF m 5 #[.val (.ref o1)] [(.ref o1), (.ref b1), (.ref b1)])) (fun t k => XS.aloadN X1.here hx rfl (hb hby d5_4) rfl rfl k) ?_
  obtain ⟨T2, X2, e2, st2⟩ := getF X1 hx hZ hown (host := "") (Or.inl (hw _ (List.mem_of_getElem? (i := 14) rfl))) Via.refl e1 F1'1 (g := (mkF m 5 #[.val (.ref o1)] [(.ref o1), (.ref b1), (.ref b1)])) rfl rfl (hb hby d5_5)
  refine own_via (G := T2.setTop (mkF m 8 #[.val (.ref o1)] [(.long u1), (.ref b1), (.ref b1)])) (fun t k => st2 t k) ?_
  refine own_via (G := T2.setTop (mkF m 9 #[.val (.ref o1)] [(.ref o1), (.long u1), (.ref b1), (.ref b1)])) (fun t k => XS.aloadN X2.here hx rfl (hb hby d5_8) rfl rfl k) ?_
  obtain ⟨T3, X3, e3, st3⟩ := getF X2 hx hZ hown (host := "") (Or.inl (hw _ (List.mem_of_getElem? (i := 16) rfl))) Via.refl e2 F2'1 (g := (mkF m 9 #[.val (.ref o1)] [(.ref o1), (.long u1), (.ref b1), (.ref b1)])) rfl rfl (hb hby d5_9)
  refine own_via (G := T3.setTop (mkF m 12 #[.val (.ref o1)] [(.int u2), (.long u1), (.ref b1), (.ref b1)])) (fun t k => st3 t k) ?_
  refine own_via (G := T3.setTop (mkF m 13 #[.val (.ref o1)] [(.int (1 : Int32)), (.int u2), (.long u1), (.ref b1), (.ref b1)])) (fun t k => XS.iconst X3.here hx rfl (hb hby d5_12) k) ?_
  refine own_via (G := T3.setTop (mkF m 14 #[.val (.ref o1)] [(.int (u2 + (1 : Int32))), (.long u1), (.ref b1), (.ref b1)])) (fun t k => XS.iadd X3.here hx rfl (hb hby d5_13) rfl k) ?_
  obtain ⟨_, _, ⟨T4, L4, k4, n4⟩, -, X4, ⟨Lc4, hQ4, l4, y4, z4⟩, st4⟩ := X3.specialBack hx (y := (⟨"com/example/if_unchanged/ifunchanged/Turns$HeldLease", "<init>", "(JI)V"⟩ : MethodName)) rfl hown (mvT hZ (hw _ (List.mem_of_getElem? (i := 30) rfl))) (mvT hZ (hw _ (List.mem_of_getElem? (i := 4) rfl))) (mvT hZ (hw _ (List.mem_of_getElem? (i := 5) rfl))) (by decide) (backOf (W := 1) (rm1 l Z a0 hw [] b1 u1 (u2 + (1 : Int32)) (0 : Int64) (0 : Int32) h1 n0 Z1 A1 F_token_b1 F_writes_b1 g_b1) hZ (hw _ (List.mem_of_getElem? (i := 5) rfl)) (hw _ (List.mem_of_getElem? (i := 2) rfl)) (by decide) (by decide)) (g := (mkF m 14 #[.val (.ref o1)] [(.int (u2 + (1 : Int32))), (.long u1), (.ref b1), (.ref b1)])) rfl (by rw [hml]; rfl) (Steps.refl _) (a := b1) (argsL := [(.long u1), (.int (u2 + (1 : Int32)))]) (rest := [(.ref b1)]) (lenOf pd_1 rfl) rfl (by show 2 * 0 + _ ≤ _; exact Nat.le_of_eq rfl) (hb hby d5_14) (fun _ _ => ⟨rfl, e3, (by decide : (0 + 1) + 0 ≤ _), (by decide : (0 + 2) + 0 ≤ _)⟩)
  dsimp only [Pt.U, Pt.locs, Pt.cells, Pt.slots] at X4 l4 y4 z4 st4 hQ4
  subst l4 y4 z4
  obtain ⟨rfl, Nq4, K4q, P0_4, P1_4, P2_4⟩ := hQ4
  have N4 := Fr.app N0 Nq4
  have F1'4 := F1'1.keep K4q (ninS ne_o1_b1 nin0)
  have F2'4 := F2'1.keep K4q (ninS ne_o1_b1 nin0)
  have A1'4 := A1.keep K4q
  have K4 := (K1).trans K4q (allS (Or.inr sz_b1) all0)
  have Z4 : n0 ≤ T4.heap.size := Nat.le_trans Z1 K4q.1
  refine own_via (G := T4.setTop (mkF m 17 #[.val (.ref o1)] [(.ref b1)])) (fun t k => st4.trans k) ?_
  exact own_fin X4 rfl (v := some (.ref b1)) (fun h => by rw [hret] at h; cases h) hlk (fun fs hr => X4.areturnOut hx rfl hret rfl (hb hby d5_17) hr) (show ((fun v h L => Q5 Z o1 u1 u2 h0 n0 v h L)) (some (.ref b1)) T4.heap _ from ⟨b1, rfl, N4, K4, sz_b1, (P0_4), (P1_4), (P2_4)⟩) (by decide) (by decide)
theorem ef_5 (m : MethodId) (o1 : Addr) : entryFrame m #[(.ref o1)] 1 = mkF m 0 #[.val (.ref o1)] [] := by first | (simp [entryFrame, mkF, argsToLocals, Value.category, maxLocals]; done) | rfl
set_option maxRecDepth 65536 in
set_option maxHeartbeats 40000000 in
theorem rm5 (l : Launch) (Z : State) (a0 : Array Value) (hw : ∀ d ∈ tables_1, d.before a0 Z = true) (ws : List Jvm.Cond) (o1 : Addr) (u1 : Int64) (u2 : Int32) (h0 : Heap) (n0 : Nat) (Z0 : n0 ≤ h0.size) (F1 : Fld Z h0 o1 "com/example/if_unchanged/ifunchanged/Turns$HeldLease" "token" "J" (.long u1)) (F2 : Fld Z h0 o1 "com/example/if_unchanged/ifunchanged/Turns$HeldLease" "writes" "I" (.int u2)) :
    MetFree l (⟨"com/example/if_unchanged/ifunchanged/Turns$HeldLease", "served", "()Lcom/example/if_unchanged/ifunchanged/Turns$HeldLease;"⟩ : MethodName) (head1 (Jvm.Cond.code (⟨"com/example/if_unchanged/ifunchanged/Turns$HeldLease", "served", "()Lcom/example/if_unchanged/ifunchanged/Turns$HeldLease;"⟩ : MethodName) prog_14_method_2_code 1 (some (.object "com/example/if_unchanged/ifunchanged/Turns$HeldLease")) :: ws) ({ frames := 3, cells := 1, slots := 2, locals := 40 } : Room)) (fun a U => a = #[(.ref o1)] ∧ Z.Warmed39 U.vm ∧ U.heap = h0) (fun _ _ _ _ _ => True) (fun _ U o U' => ∃ v L, o = .returned v ∧ Q5 Z o1 u1 u2 h0 n0 v U'.heap L ∧ FrameEnd U o U' L ({ frames := 3, cells := 1, slots := 2, locals := 40 } : Room).cells ({ frames := 3, cells := 1, slots := 2, locals := 40 } : Room).slots) := by
  refine MetFree.of_bodySF (plainFor_of_name pn_1) hisR ?_
  intro p e s m args below meth c s₁ Bd hml0 hP hK
  obtain ⟨rfl, hZ, hh⟩ := hP
  have e0 : s₁.heap = h0 := by rw [← hh, Bd.state]; rfl
  rw [ef_5 m o1]
  exact b5 o1 u1 u2 ⟨Bd.exec, hZ, hw, Bd.bytes, hml0, findClass_of_methodNamed Bd.named, Bd.returns, Bd.notSynchronized, (name_of_methodNamed Bd.named Bd.method).1⟩ (Stand.of_body Bd) e0 Z0 (Fr.nil n0) F1 F2
def own_ps (u2 : Int32) : Int32 := (if u2 < (16 : Int32) then (1 : Int32) else (0 : Int32))
def Q4 (Z : State) (o1 : Addr) (u2 : Int32) (h0 : Heap) (n0 : Nat) (v : Option Value) (h : Heap) (L : List Loc) : Prop := v = some (.int (own_ps u2)) ∧ Fr n0 L ∧ h = h0
theorem d4_0 : decode prog_14_method_3_code 0 = .ok (.aload_n 0, 1) := by decide +kernel
theorem d4_1 : decode prog_14_method_3_code 1 = .ok (.getfield 13, 3) := by decide +kernel
theorem d4_4 : decode prog_14_method_3_code 4 = .ok (.bipush 16, 2) := by decide +kernel
theorem d4_6 : decode prog_14_method_3_code 6 = .ok (.if_icmp .ge 7, 3) := by decide +kernel
theorem d4_9 : decode prog_14_method_3_code 9 = .ok (.iconst 1, 1) := by decide +kernel
theorem d4_10 : decode prog_14_method_3_code 10 = .ok (.goto 4, 3) := by decide +kernel
theorem d4_14 : decode prog_14_method_3_code 14 = .ok (.ireturn, 1) := by decide +kernel
theorem d4_13 : decode prog_14_method_3_code 13 = .ok (.iconst 0, 1) := by decide +kernel
set_option maxRecDepth 65536 in
set_option maxHeartbeats 40000000 in
theorem b4 {p : Program} {l : Launch} {e : Env} {s : State} {m : MethodId} {args : Array Value} {below : List Frame} {meth : Method} {c : Code} {T0 : State} {locs : List Loc} {Z : State} {a0 : Array Value} {h0 : Heap} {n0 : Nat} (o1 : Addr) (u2 : Int32)
    (C : own_C p s m meth c Z a0 prog_14_method_3_code 1 "com/example/if_unchanged/ifunchanged/Turns$HeldLease" (some .boolean) "passable") (X0 : Stand p l e ({ frames := 0, cells := 0, slots := 0, locals := 0 } : Room) s m args below meth c T0 locs 0 0) (e0 : T0.heap = h0) (Z0 : n0 ≤ h0.size) (N0 : Fr n0 locs) (F2 : Fld Z h0 o1 "com/example/if_unchanged/ifunchanged/Turns$HeldLease" "writes" "I" (.int u2)) :
    own_Go p.tables e below (T0.setTop (mkF m 0 #[.val (.ref o1)] [])) (own_K s (fun v h L => Q4 Z o1 u2 h0 n0 v h L) ({ frames := 0, cells := 0, slots := 0, locals := 0 } : Room).cells ({ frames := 0, cells := 0, slots := 0, locals := 0 } : Room).slots) := by
  obtain ⟨hx, hZ, hw, hby, hml, hown, hret, hlk, hnm⟩ := C
  refine own_via (G := T0.setTop (mkF m 1 #[.val (.ref o1)] [(.ref o1)])) (fun t k => XS.aloadN X0.here hx rfl (hb hby d4_0) rfl rfl k) ?_
  obtain ⟨T1, X1, e1, st1⟩ := getF X0 hx hZ hown (host := "") (Or.inl (hw _ (List.mem_of_getElem? (i := 16) rfl))) Via.refl e0 F2 (g := (mkF m 1 #[.val (.ref o1)] [(.ref o1)])) rfl rfl (hb hby d4_1)
  refine own_via (G := T1.setTop (mkF m 4 #[.val (.ref o1)] [(.int u2)])) (fun t k => st1 t k) ?_
  refine own_via (G := T1.setTop (mkF m 6 #[.val (.ref o1)] [(.int (16 : Int32)), (.int u2)])) (fun t k => XS.bipush X1.here hx rfl (hb hby d4_4) k) ?_
  by_cases hc2_6 : u2 < (16 : Int32)
  · refine own_via (G := T1.setTop (mkF m 9 #[.val (.ref o1)] [])) (fun t k => XS.icmpNo X1.here hx rfl (hb hby d4_6) rfl (XT.ii_ge_f hc2_6) k) ?_
    refine own_via (G := T1.setTop (mkF m 10 #[.val (.ref o1)] [(.int (1 : Int32))])) (fun t k => XS.iconst X1.here hx rfl (hb hby d4_9) k) ?_
    refine own_via (G := T1.setTop (mkF m 14 #[.val (.ref o1)] [(.int (1 : Int32))])) (fun t k => XS.goto X1.here hx rfl (pc0 := 10) (pc' := 14) rfl (hb hby d4_10) (by decide) (by decide) k) ?_
    exact own_fin X1 e1 (v := some (.int (1 : Int32))) (fun h => by rw [hret] at h; cases h) hlk (fun fs hr => retN X1 hx (t := .boolean) hret (by simp) (hb hby d4_14) hr) (show ((fun v h L => Q4 Z o1 u2 h0 n0 v h L)) (some (.int (1 : Int32))) h0 _ from ⟨(by unfold own_ps; rw [if_pos hc2_6]), N0, rfl⟩) (by decide) (by decide)
  · refine own_via (G := T1.setTop (mkF m 13 #[.val (.ref o1)] [])) (fun t k => XS.icmpYes X1.here hx rfl (pc0 := 6) (pc' := 13) rfl (hb hby d4_6) rfl (XT.ii_ge_t hc2_6) (by decide) (by decide) k) ?_
    refine own_via (G := T1.setTop (mkF m 14 #[.val (.ref o1)] [(.int (0 : Int32))])) (fun t k => XS.iconst X1.here hx rfl (hb hby d4_13) k) ?_
    exact own_fin X1 e1 (v := some (.int (0 : Int32))) (fun h => by rw [hret] at h; cases h) hlk (fun fs hr => retN X1 hx (t := .boolean) hret (by simp) (hb hby d4_14) hr) (show ((fun v h L => Q4 Z o1 u2 h0 n0 v h L)) (some (.int (0 : Int32))) h0 _ from ⟨(by unfold own_ps; rw [if_neg hc2_6]), N0, rfl⟩) (by decide) (by decide)
theorem ef_4 (m : MethodId) (o1 : Addr) : entryFrame m #[(.ref o1)] 1 = mkF m 0 #[.val (.ref o1)] [] := by first | (simp [entryFrame, mkF, argsToLocals, Value.category, maxLocals]; done) | rfl
set_option maxRecDepth 65536 in
set_option maxHeartbeats 40000000 in
theorem rm4 (l : Launch) (Z : State) (a0 : Array Value) (hw : ∀ d ∈ tables_1, d.before a0 Z = true) (ws : List Jvm.Cond) (o1 : Addr) (u2 : Int32) (h0 : Heap) (n0 : Nat) (Z0 : n0 ≤ h0.size) (F2 : Fld Z h0 o1 "com/example/if_unchanged/ifunchanged/Turns$HeldLease" "writes" "I" (.int u2)) :
    MetFree l (⟨"com/example/if_unchanged/ifunchanged/Turns$HeldLease", "passable", "()Z"⟩ : MethodName) (head1 (Jvm.Cond.code (⟨"com/example/if_unchanged/ifunchanged/Turns$HeldLease", "passable", "()Z"⟩ : MethodName) prog_14_method_3_code 1 (some .boolean) :: ws) ({ frames := 0, cells := 0, slots := 0, locals := 0 } : Room)) (fun a U => a = #[(.ref o1)] ∧ Z.Warmed39 U.vm ∧ U.heap = h0) (fun _ _ _ _ _ => True) (fun _ U o U' => ∃ v L, o = .returned v ∧ Q4 Z o1 u2 h0 n0 v U'.heap L ∧ FrameEnd U o U' L ({ frames := 0, cells := 0, slots := 0, locals := 0 } : Room).cells ({ frames := 0, cells := 0, slots := 0, locals := 0 } : Room).slots) := by
  refine MetFree.of_bodySF (plainFor_of_name pn_1) hisR ?_
  intro p e s m args below meth c s₁ Bd hml0 hP hK
  obtain ⟨rfl, hZ, hh⟩ := hP
  have e0 : s₁.heap = h0 := by rw [← hh, Bd.state]; rfl
  rw [ef_4 m o1]
  exact b4 o1 u2 ⟨Bd.exec, hZ, hw, Bd.bytes, hml0, findClass_of_methodNamed Bd.named, Bd.returns, Bd.notSynchronized, (name_of_methodNamed Bd.named Bd.method).1⟩ (Stand.of_body Bd) e0 Z0 (Fr.nil n0) F2
theorem own_ps_t {u : Int32} (h : u < (16 : Int32)) : own_ps u = 1 := by unfold own_ps; rw [if_pos h]
theorem own_ps_f {u : Int32} (h : ¬ u < (16 : Int32)) : own_ps u = 0 := by unfold own_ps; rw [if_neg h]
theorem own_up {u : Int32} (h : ¬ u < (16 : Int32)) (hm : ¬ u = (2147483647 : Int32)) : own_ps (u + (1 : Int32)) = 0 := by
  apply own_ps_f
  have k1 : (16 : Int32).toInt = 16 := rfl
  have k2 : (1 : Int32).toInt = 1 := rfl
  rw [Int32.lt_iff_toInt_lt] at h ⊢
  have hm' : u.toInt ≠ 2147483647 := fun q => hm (Int32.toInt_inj.mp q)
  have := Int32.toInt_lt u
  rw [Jvm.Kit.i32_add (by omega) (by omega)]; omega
theorem own_one : ¬ (1 : Int32) = 0 := by decide
def Q0 (Z : State) (it : Int64) (iw : Int32) (io : Int64) (h0 : Heap) (n0 : Nat) (v : Option Value) (h : Heap) (L : List Loc) : Prop := v = some (.int (1 : Int32)) ∧ Fr n0 L
theorem pd_2 : parseMethodDescriptor "()Z" = some ⟨[], some .boolean⟩ := by decide +kernel
theorem pd_3 : parseMethodDescriptor "()Lcom/example/if_unchanged/ifunchanged/Turns$HeldLease;" = some ⟨[], some (.object "com/example/if_unchanged/ifunchanged/Turns$HeldLease")⟩ := by decide +kernel
set_option maxRecDepth 65536 in
set_option maxHeartbeats 40000000 in
theorem b0 {p : Program} {l : Launch} {e : Env} {s : State} {m : MethodId} {args : Array Value} {below : List Frame} {meth : Method} {c : Code} {T0 : State} {locs : List Loc} {Z : State} {a0 : Array Value} {h0 : Heap} {n0 : Nat} (it : Int64) (iw : Int32) (io : Int64)
    (C : own_C p s m meth c Z a0 code maxLocals "com/example/if_unchanged/ifunchanged/HeldLeasePassablePinLaw" ret "law") (X0 : Stand p l e room_1 s m args below meth c T0 locs 0 0) (e0 : T0.heap = h0) (Z0 : n0 ≤ h0.size) (N0 : Fr n0 locs) :
    own_Go p.tables e below (T0.setTop (mkF m 0 #[.val (.long it), .second, .val (.int iw), .val (.long io), .second, .unset, .unset, .unset, .unset, .unset, .unset] [])) (own_K s (fun v h L => Q0 Z it iw io h0 n0 v h L) room_1.cells room_1.slots) := by
  obtain ⟨hx, hZ, hw, hby, hml, hown, hret, hlk, hnm⟩ := C
  obtain ⟨T1, h1, X1, e1, E1, A1, D1, -, st1⟩ := newO X0 hx hZ hown (hw _ (List.mem_of_getElem? (i := 0) rfl)) (hw _ (List.mem_of_getElem? (i := 1) rfl)) (hw _ (List.mem_of_getElem? (i := 2) rfl)) e0 (g := (mkF m 0 #[.val (.long it), .second, .val (.int iw), .val (.long io), .second, .unset, .unset, .unset, .unset, .unset, .unset] [])) rfl (hb hby at_0) (by decide) (by decide)
  obtain ⟨b1, g1⟩ : ∃ z, z = h0.size := ⟨_, rfl⟩
  rw [← g1] at A1 D1 st1
  have g_b1 : n0 ≤ b1 := Nat.le_trans Z0 (Nat.le_of_eq g1.symm)
  have Z1 : n0 ≤ h1.size := Nat.le_trans Z0 E1.1
  have F_token_b1 : Fld Z h1 b1 "com/example/if_unchanged/ifunchanged/Turns$HeldLease" "token" "J" (.long (0 : Int64)) := D1 (Or.inr (hw _ (List.mem_of_getElem? (i := 15) rfl))) (ty := .long) (by decide)
  have F_writes_b1 : Fld Z h1 b1 "com/example/if_unchanged/ifunchanged/Turns$HeldLease" "writes" "I" (.int (0 : Int32)) := D1 (Or.inr (hw _ (List.mem_of_getElem? (i := 17) rfl))) (ty := .int) (by decide)
  refine own_via (G := T1.setTop (mkF m 3 #[.val (.long it), .second, .val (.int iw), .val (.long io), .second, .unset, .unset, .unset, .unset, .unset, .unset] [(.ref b1)])) (fun t k => st1 t k) ?_
  refine own_via (G := T1.setTop (mkF m 4 #[.val (.long it), .second, .val (.int iw), .val (.long io), .second, .unset, .unset, .unset, .unset, .unset, .unset] [(.ref b1), (.ref b1)])) (fun t k => XS.dup X1.here hx rfl (hb hby at_3) rfl rfl k) ?_
  refine own_via (G := T1.setTop (mkF m 5 #[.val (.long it), .second, .val (.int iw), .val (.long io), .second, .unset, .unset, .unset, .unset, .unset, .unset] [(.long it), (.ref b1), (.ref b1)])) (fun t k => XT.lloadN X1.here hx rfl (hb hby at_4) rfl k) ?_
  refine own_via (G := T1.setTop (mkF m 6 #[.val (.long it), .second, .val (.int iw), .val (.long io), .second, .unset, .unset, .unset, .unset, .unset, .unset] [(.int iw), (.long it), (.ref b1), (.ref b1)])) (fun t k => XS.iloadN X1.here hx rfl (hb hby at_5) rfl k) ?_
  obtain ⟨_, _, ⟨T2, L2, k2, n2⟩, -, X2, ⟨Lc2, hQ2, l2, y2, z2⟩, st2⟩ := X1.specialBack hx (y := (⟨"com/example/if_unchanged/ifunchanged/Turns$HeldLease", "<init>", "(JI)V"⟩ : MethodName)) rfl hown (mvT hZ (hw _ (List.mem_of_getElem? (i := 3) rfl))) (mvT hZ (hw _ (List.mem_of_getElem? (i := 4) rfl))) (mvT hZ (hw _ (List.mem_of_getElem? (i := 5) rfl))) (by decide) (backOf (W := 1) (rm1 l Z a0 hw [] b1 it iw (0 : Int64) (0 : Int32) h1 n0 Z1 A1 F_token_b1 F_writes_b1 g_b1) hZ (hw _ (List.mem_of_getElem? (i := 5) rfl)) (hw _ (List.mem_of_getElem? (i := 2) rfl)) (by decide) (by decide)) (g := (mkF m 6 #[.val (.long it), .second, .val (.int iw), .val (.long io), .second, .unset, .unset, .unset, .unset, .unset, .unset] [(.int iw), (.long it), (.ref b1), (.ref b1)])) rfl (by rw [hml]; rfl) (Steps.refl _) (a := b1) (argsL := [(.long it), (.int iw)]) (rest := [(.ref b1)]) (lenOf pd_1 rfl) rfl (by show 2 * 0 + _ ≤ _; exact Nat.le_of_eq rfl) (hb hby at_6) (fun _ _ => ⟨rfl, e1, (by decide : (0 + 1) + 0 ≤ _), (by decide : (0 + 2) + 0 ≤ _)⟩)
  dsimp only [Pt.U, Pt.locs, Pt.cells, Pt.slots] at X2 l2 y2 z2 st2 hQ2
  subst l2 y2 z2
  obtain ⟨rfl, Nq2, K2q, P0_2, P1_2, P2_2⟩ := hQ2
  have N2 := Fr.app N0 Nq2
  have A1'2 := A1.keep K2q
  have Z2 : n0 ≤ T2.heap.size := Nat.le_trans Z1 K2q.1
  refine own_via (G := T2.setTop (mkF m 9 #[.val (.long it), .second, .val (.int iw), .val (.long io), .second, .unset, .unset, .unset, .unset, .unset, .unset] [(.ref b1)])) (fun t k => st2.trans k) ?_
  refine own_via (G := T2.setTop (mkF m 11 #[.val (.long it), .second, .val (.int iw), .val (.long io), .second, .val (.ref b1), .unset, .unset, .unset, .unset, .unset] [])) (fun t k => XS.astore X2.here hx rfl (hb hby at_9) rfl rfl (l' := #[.val (.long it), .second, .val (.int iw), .val (.long io), .second, .val (.ref b1), .unset, .unset, .unset, .unset, .unset]) rfl k) ?_
  obtain ⟨T3, h3, X3, e3, E3, A3, D3, -, st3⟩ := newO X2 hx hZ hown (hw _ (List.mem_of_getElem? (i := 0) rfl)) (hw _ (List.mem_of_getElem? (i := 1) rfl)) (hw _ (List.mem_of_getElem? (i := 2) rfl)) rfl (g := (mkF m 11 #[.val (.long it), .second, .val (.int iw), .val (.long io), .second, .val (.ref b1), .unset, .unset, .unset, .unset, .unset] [])) rfl (hb hby at_11) (by decide) (by decide)
  obtain ⟨b3, g3⟩ : ∃ z, z = T2.heap.size := ⟨_, rfl⟩
  rw [← g3] at A3 D3 st3
  have ne_b1_b3 : b1 ≠ b3 := Nat.ne_of_lt (Nat.lt_of_lt_of_le P0_2.lt (Nat.le_of_eq g3.symm))
  have g_b3 : n0 ≤ b3 := Nat.le_trans Z2 (Nat.le_of_eq g3.symm)
  have P0_2'3 := P0_2.ext E3
  have P1_2'3 := P1_2.ext E3
  have P2_2'3 := P2_2.ext E3
  have Z3 : n0 ≤ h3.size := Nat.le_trans Z2 E3.1
  have F_token_b3 : Fld Z h3 b3 "com/example/if_unchanged/ifunchanged/Turns$HeldLease" "token" "J" (.long (0 : Int64)) := D3 (Or.inr (hw _ (List.mem_of_getElem? (i := 15) rfl))) (ty := .long) (by decide)
  have F_writes_b3 : Fld Z h3 b3 "com/example/if_unchanged/ifunchanged/Turns$HeldLease" "writes" "I" (.int (0 : Int32)) := D3 (Or.inr (hw _ (List.mem_of_getElem? (i := 17) rfl))) (ty := .int) (by decide)
  refine own_via (G := T3.setTop (mkF m 14 #[.val (.long it), .second, .val (.int iw), .val (.long io), .second, .val (.ref b1), .unset, .unset, .unset, .unset, .unset] [(.ref b3)])) (fun t k => st3 t k) ?_
  refine own_via (G := T3.setTop (mkF m 15 #[.val (.long it), .second, .val (.int iw), .val (.long io), .second, .val (.ref b1), .unset, .unset, .unset, .unset, .unset] [(.ref b3), (.ref b3)])) (fun t k => XS.dup X3.here hx rfl (hb hby at_14) rfl rfl k) ?_
  refine own_via (G := T3.setTop (mkF m 16 #[.val (.long it), .second, .val (.int iw), .val (.long io), .second, .val (.ref b1), .unset, .unset, .unset, .unset, .unset] [(.long io), (.ref b3), (.ref b3)])) (fun t k => XT.lloadN X3.here hx rfl (hb hby at_15) rfl k) ?_
  refine own_via (G := T3.setTop (mkF m 17 #[.val (.long it), .second, .val (.int iw), .val (.long io), .second, .val (.ref b1), .unset, .unset, .unset, .unset, .unset] [(.int iw), (.long io), (.ref b3), (.ref b3)])) (fun t k => XS.iloadN X3.here hx rfl (hb hby at_16) rfl k) ?_
  obtain ⟨_, _, ⟨T4, L4, k4, n4⟩, -, X4, ⟨Lc4, hQ4, l4, y4, z4⟩, st4⟩ := X3.specialBack hx (y := (⟨"com/example/if_unchanged/ifunchanged/Turns$HeldLease", "<init>", "(JI)V"⟩ : MethodName)) rfl hown (mvT hZ (hw _ (List.mem_of_getElem? (i := 3) rfl))) (mvT hZ (hw _ (List.mem_of_getElem? (i := 4) rfl))) (mvT hZ (hw _ (List.mem_of_getElem? (i := 5) rfl))) (by decide) (backOf (W := 1) (rm1 l Z a0 hw [] b3 io iw (0 : Int64) (0 : Int32) h3 n0 Z3 A3 F_token_b3 F_writes_b3 g_b3) hZ (hw _ (List.mem_of_getElem? (i := 5) rfl)) (hw _ (List.mem_of_getElem? (i := 2) rfl)) (by decide) (by decide)) (g := (mkF m 17 #[.val (.long it), .second, .val (.int iw), .val (.long io), .second, .val (.ref b1), .unset, .unset, .unset, .unset, .unset] [(.int iw), (.long io), (.ref b3), (.ref b3)])) rfl (by rw [hml]; rfl) (Steps.refl _) (a := b3) (argsL := [(.long io), (.int iw)]) (rest := [(.ref b3)]) (lenOf pd_1 rfl) rfl (by show 2 * 0 + _ ≤ _; exact Nat.le_of_eq rfl) (hb hby at_17) (fun _ _ => ⟨rfl, e3, (by decide : (((0 + 1) + 0) + 1) + 0 ≤ _), (by decide : (((0 + 2) + 0) + 2) + 0 ≤ _)⟩)
  dsimp only [Pt.U, Pt.locs, Pt.cells, Pt.slots] at X4 l4 y4 z4 st4 hQ4
  subst l4 y4 z4
  obtain ⟨rfl, Nq4, K4q, P0_4, P1_4, P2_4⟩ := hQ4
  have N4 := Fr.app N2 Nq4
  have P0_2'4 := P0_2'3.keep K4q
  have P1_2'4 := P1_2'3.keep K4q (ninS ne_b1_b3 nin0)
  have P2_2'4 := P2_2'3.keep K4q (ninS ne_b1_b3 nin0)
  have A3'4 := A3.keep K4q
  have Z4 : n0 ≤ T4.heap.size := Nat.le_trans Z3 K4q.1
  refine own_via (G := T4.setTop (mkF m 20 #[.val (.long it), .second, .val (.int iw), .val (.long io), .second, .val (.ref b1), .unset, .unset, .unset, .unset, .unset] [(.ref b3)])) (fun t k => st4.trans k) ?_
  refine own_via (G := T4.setTop (mkF m 22 #[.val (.long it), .second, .val (.int iw), .val (.long io), .second, .val (.ref b1), .val (.ref b3), .unset, .unset, .unset, .unset] [])) (fun t k => XS.astore X4.here hx rfl (hb hby at_20) rfl rfl (l' := #[.val (.long it), .second, .val (.int iw), .val (.long io), .second, .val (.ref b1), .val (.ref b3), .unset, .unset, .unset, .unset]) rfl k) ?_
  refine own_via (G := T4.setTop (mkF m 23 #[.val (.long it), .second, .val (.int iw), .val (.long io), .second, .val (.ref b1), .val (.ref b3), .unset, .unset, .unset, .unset] [(.int iw)])) (fun t k => XS.iloadN X4.here hx rfl (hb hby at_22) rfl k) ?_
  refine own_via (G := T4.setTop (mkF m 25 #[.val (.long it), .second, .val (.int iw), .val (.long io), .second, .val (.ref b1), .val (.ref b3), .unset, .unset, .unset, .unset] [(.int (16 : Int32)), (.int iw)])) (fun t k => XS.bipush X4.here hx rfl (hb hby at_23) k) ?_
  by_cases hc5_25 : iw < (16 : Int32)
  · refine own_via (G := T4.setTop (mkF m 28 #[.val (.long it), .second, .val (.int iw), .val (.long io), .second, .val (.ref b1), .val (.ref b3), .unset, .unset, .unset, .unset] [])) (fun t k => XS.icmpNo X4.here hx rfl (hb hby at_25) rfl (XT.ii_ge_f hc5_25) k) ?_
    refine own_via (G := T4.setTop (mkF m 29 #[.val (.long it), .second, .val (.int iw), .val (.long io), .second, .val (.ref b1), .val (.ref b3), .unset, .unset, .unset, .unset] [(.int (1 : Int32))])) (fun t k => XS.iconst X4.here hx rfl (hb hby at_28) k) ?_
    refine own_via (G := T4.setTop (mkF m 33 #[.val (.long it), .second, .val (.int iw), .val (.long io), .second, .val (.ref b1), .val (.ref b3), .unset, .unset, .unset, .unset] [(.int (1 : Int32))])) (fun t k => XS.goto X4.here hx rfl (pc0 := 29) (pc' := 33) rfl (hb hby at_29) (by decide) (by decide) k) ?_
    refine own_via (G := T4.setTop (mkF m 35 #[.val (.long it), .second, .val (.int iw), .val (.long io), .second, .val (.ref b1), .val (.ref b3), .val (.int (1 : Int32)), .unset, .unset, .unset] [])) (fun t k => XS.istore X4.here hx rfl (hb hby at_33) rfl (l' := #[.val (.long it), .second, .val (.int iw), .val (.long io), .second, .val (.ref b1), .val (.ref b3), .val (.int (1 : Int32)), .unset, .unset, .unset]) rfl k) ?_
    refine own_via (G := T4.setTop (mkF m 37 #[.val (.long it), .second, .val (.int iw), .val (.long io), .second, .val (.ref b1), .val (.ref b3), .val (.int (1 : Int32)), .unset, .unset, .unset] [(.ref b1)])) (fun t k => XS.aload X4.here hx rfl (hb hby at_35) rfl rfl k) ?_
    obtain ⟨cq6, kq6, q6a, q6b, q6c⟩ := isOf hZ rfl P0_2'4
    obtain ⟨_, _, ⟨T6, L6, k6, n6⟩, -, X6, ⟨Lc6, hQ6, l6, y6, z6⟩, st6⟩ := X4.virtualBack hx (y := (⟨"com/example/if_unchanged/ifunchanged/Turns$HeldLease", "passable", "()Z"⟩ : MethodName)) (z := (⟨"com/example/if_unchanged/ifunchanged/Turns$HeldLease", "passable", "()Z"⟩ : MethodName)) hown (mvT hZ (hw _ (List.mem_of_getElem? (i := 18) rfl))) (mvT hZ (hw _ (List.mem_of_getElem? (i := 19) rfl))) (notFace_of_selects (args := #[]) (mvT hZ (hw _ (List.mem_of_getElem? (i := 21) rfl)))) (mvT hZ (hw _ (List.mem_of_getElem? (i := 21) rfl))) (mvT hZ (hw _ (List.mem_of_getElem? (i := 20) rfl))) (by decide) (backOf (W := 0) (rm4 l Z a0 hw [] b1 iw T4.heap n0 Z4 P2_2'4) hZ (hw _ (List.mem_of_getElem? (i := 22) rfl)) (hw _ (List.mem_of_getElem? (i := 2) rfl)) (by decide) (by decide)) q6a q6c (g := (mkF m 37 #[.val (.long it), .second, .val (.int iw), .val (.long io), .second, .val (.ref b1), .val (.ref b3), .val (.int (1 : Int32)), .unset, .unset, .unset] [(.ref b1)])) rfl (by rw [hml]; rfl) (Steps.refl _) (argsL := []) (rest := []) (lenOf pd_2 rfl) rfl (by show 2 * 0 + _ ≤ _; exact Nat.le_of_eq rfl) (hb hby at_37) (fun _ _ => ⟨rfl, rfl, (by decide : ((((0 + 1) + 0) + 1) + 0) + 0 ≤ _), (by decide : ((((0 + 2) + 0) + 2) + 0) + 0 ≤ _)⟩)
    dsimp only [Pt.U, Pt.locs, Pt.cells, Pt.slots] at X6 l6 y6 z6 st6 hQ6
    subst l6 y6 z6
    obtain ⟨rfl, Nq6, eh6⟩ := hQ6
    have N6 := Fr.app N4 Nq6
    refine own_via (G := T6.setTop (mkF m 40 #[.val (.long it), .second, .val (.int iw), .val (.long io), .second, .val (.ref b1), .val (.ref b3), .val (.int (1 : Int32)), .unset, .unset, .unset] [(.int (own_ps iw))])) (fun t k => st6.trans k) ?_
    refine own_via (G := T6.setTop (mkF m 42 #[.val (.long it), .second, .val (.int iw), .val (.long io), .second, .val (.ref b1), .val (.ref b3), .val (.int (1 : Int32)), .val (.int (own_ps iw)), .unset, .unset] [])) (fun t k => XS.istore X6.here hx rfl (hb hby at_40) rfl (l' := #[.val (.long it), .second, .val (.int iw), .val (.long io), .second, .val (.ref b1), .val (.ref b3), .val (.int (1 : Int32)), .val (.int (own_ps iw)), .unset, .unset]) rfl k) ?_
    refine own_via (G := T6.setTop (mkF m 44 #[.val (.long it), .second, .val (.int iw), .val (.long io), .second, .val (.ref b1), .val (.ref b3), .val (.int (1 : Int32)), .val (.int (own_ps iw)), .unset, .unset] [(.ref b3)])) (fun t k => XS.aload X6.here hx rfl (hb hby at_42) rfl rfl k) ?_
    obtain ⟨cq7, kq7, q7a, q7b, q7c⟩ := isOf hZ eh6 P0_4
    obtain ⟨_, _, ⟨T7, L7, k7, n7⟩, -, X7, ⟨Lc7, hQ7, l7, y7, z7⟩, st7⟩ := X6.virtualBack hx (y := (⟨"com/example/if_unchanged/ifunchanged/Turns$HeldLease", "passable", "()Z"⟩ : MethodName)) (z := (⟨"com/example/if_unchanged/ifunchanged/Turns$HeldLease", "passable", "()Z"⟩ : MethodName)) hown (mvT hZ (hw _ (List.mem_of_getElem? (i := 18) rfl))) (mvT hZ (hw _ (List.mem_of_getElem? (i := 19) rfl))) (notFace_of_selects (args := #[]) (mvT hZ (hw _ (List.mem_of_getElem? (i := 21) rfl)))) (mvT hZ (hw _ (List.mem_of_getElem? (i := 21) rfl))) (mvT hZ (hw _ (List.mem_of_getElem? (i := 20) rfl))) (by decide) (backOf (W := 0) (rm4 l Z a0 hw [] b3 iw T4.heap n0 Z4 P2_4) hZ (hw _ (List.mem_of_getElem? (i := 22) rfl)) (hw _ (List.mem_of_getElem? (i := 2) rfl)) (by decide) (by decide)) q7a q7c (g := (mkF m 44 #[.val (.long it), .second, .val (.int iw), .val (.long io), .second, .val (.ref b1), .val (.ref b3), .val (.int (1 : Int32)), .val (.int (own_ps iw)), .unset, .unset] [(.ref b3)])) rfl (by rw [hml]; rfl) (Steps.refl _) (argsL := []) (rest := []) (lenOf pd_2 rfl) rfl (by show 2 * 0 + _ ≤ _; exact Nat.le_of_eq rfl) (hb hby at_44) (fun _ _ => ⟨rfl, eh6, (by decide : (((((0 + 1) + 0) + 1) + 0) + 0) + 0 ≤ _), (by decide : (((((0 + 2) + 0) + 2) + 0) + 0) + 0 ≤ _)⟩)
    dsimp only [Pt.U, Pt.locs, Pt.cells, Pt.slots] at X7 l7 y7 z7 st7 hQ7
    subst l7 y7 z7
    obtain ⟨rfl, Nq7, eh7⟩ := hQ7
    have N7 := Fr.app N6 Nq7
    refine own_via (G := T7.setTop (mkF m 47 #[.val (.long it), .second, .val (.int iw), .val (.long io), .second, .val (.ref b1), .val (.ref b3), .val (.int (1 : Int32)), .val (.int (own_ps iw)), .unset, .unset] [(.int (own_ps iw))])) (fun t k => st7.trans k) ?_
    refine own_via (G := T7.setTop (mkF m 49 #[.val (.long it), .second, .val (.int iw), .val (.long io), .second, .val (.ref b1), .val (.ref b3), .val (.int (1 : Int32)), .val (.int (own_ps iw)), .val (.int (own_ps iw)), .unset] [])) (fun t k => XS.istore X7.here hx rfl (hb hby at_47) rfl (l' := #[.val (.long it), .second, .val (.int iw), .val (.long io), .second, .val (.ref b1), .val (.ref b3), .val (.int (1 : Int32)), .val (.int (own_ps iw)), .val (.int (own_ps iw)), .unset]) rfl k) ?_
    refine own_via (G := T7.setTop (mkF m 51 #[.val (.long it), .second, .val (.int iw), .val (.long io), .second, .val (.ref b1), .val (.ref b3), .val (.int (1 : Int32)), .val (.int (own_ps iw)), .val (.int (own_ps iw)), .unset] [(.int (own_ps iw))])) (fun t k => XS.iload X7.here hx rfl (hb hby at_49) rfl k) ?_
    refine own_via (G := T7.setTop (mkF m 53 #[.val (.long it), .second, .val (.int iw), .val (.long io), .second, .val (.ref b1), .val (.ref b3), .val (.int (1 : Int32)), .val (.int (own_ps iw)), .val (.int (own_ps iw)), .unset] [(.int (1 : Int32)), (.int (own_ps iw))])) (fun t k => XS.iload X7.here hx rfl (hb hby at_51) rfl k) ?_
    have hc8_53 : (own_ps iw) = (1 : Int32) := own_ps_t hc5_25
    refine own_via (G := T7.setTop (mkF m 56 #[.val (.long it), .second, .val (.int iw), .val (.long io), .second, .val (.ref b1), .val (.ref b3), .val (.int (1 : Int32)), .val (.int (own_ps iw)), .val (.int (own_ps iw)), .unset] [])) (fun t k => XS.icmpNo X7.here hx rfl (hb hby at_53) rfl (XT.ii_ne_f hc8_53) k) ?_
    refine own_via (G := T7.setTop (mkF m 58 #[.val (.long it), .second, .val (.int iw), .val (.long io), .second, .val (.ref b1), .val (.ref b3), .val (.int (1 : Int32)), .val (.int (own_ps iw)), .val (.int (own_ps iw)), .unset] [(.int (own_ps iw))])) (fun t k => XS.iload X7.here hx rfl (hb hby at_56) rfl k) ?_
    refine own_via (G := T7.setTop (mkF m 60 #[.val (.long it), .second, .val (.int iw), .val (.long io), .second, .val (.ref b1), .val (.ref b3), .val (.int (1 : Int32)), .val (.int (own_ps iw)), .val (.int (own_ps iw)), .unset] [(.int (1 : Int32)), (.int (own_ps iw))])) (fun t k => XS.iload X7.here hx rfl (hb hby at_58) rfl k) ?_
    have hc9_60 : (own_ps iw) = (1 : Int32) := own_ps_t hc5_25
    refine own_via (G := T7.setTop (mkF m 65 #[.val (.long it), .second, .val (.int iw), .val (.long io), .second, .val (.ref b1), .val (.ref b3), .val (.int (1 : Int32)), .val (.int (own_ps iw)), .val (.int (own_ps iw)), .unset] [])) (fun t k => XS.icmpYes X7.here hx rfl (pc0 := 60) (pc' := 65) rfl (hb hby at_60) rfl (XT.ii_eq_t hc9_60) (by decide) (by decide) k) ?_
    refine own_via (G := T7.setTop (mkF m 66 #[.val (.long it), .second, .val (.int iw), .val (.long io), .second, .val (.ref b1), .val (.ref b3), .val (.int (1 : Int32)), .val (.int (own_ps iw)), .val (.int (own_ps iw)), .unset] [(.int iw)])) (fun t k => XS.iloadN X7.here hx rfl (hb hby at_65) rfl k) ?_
    refine own_via (G := T7.setTop (mkF m 68 #[.val (.long it), .second, .val (.int iw), .val (.long io), .second, .val (.ref b1), .val (.ref b3), .val (.int (1 : Int32)), .val (.int (own_ps iw)), .val (.int (own_ps iw)), .unset] [(.int (2147483647 : Int32)), (.int iw)])) (fun t k => X7.ldcI hx hown (mvT hZ (hw _ (List.mem_of_getElem? (i := 23) rfl))) (g := (mkF m 66 #[.val (.long it), .second, .val (.int iw), .val (.long io), .second, .val (.ref b1), .val (.ref b3), .val (.int (1 : Int32)), .val (.int (own_ps iw)), .val (.int (own_ps iw)), .unset] [(.int iw)])) rfl (hb hby at_66) k) ?_
    by_cases hc10_68 : iw = (2147483647 : Int32)
    · refine own_via (G := T7.setTop (mkF m 93 #[.val (.long it), .second, .val (.int iw), .val (.long io), .second, .val (.ref b1), .val (.ref b3), .val (.int (1 : Int32)), .val (.int (own_ps iw)), .val (.int (own_ps iw)), .unset] [])) (fun t k => XS.icmpYes X7.here hx rfl (pc0 := 68) (pc' := 93) rfl (hb hby at_68) rfl (XT.ii_eq_t hc10_68) (by decide) (by decide) k) ?_
      refine own_via (G := T7.setTop (mkF m 94 #[.val (.long it), .second, .val (.int iw), .val (.long io), .second, .val (.ref b1), .val (.ref b3), .val (.int (1 : Int32)), .val (.int (own_ps iw)), .val (.int (own_ps iw)), .unset] [(.int (1 : Int32))])) (fun t k => XS.iconst X7.here hx rfl (hb hby at_93) k) ?_
      exact own_fin X7 eh7 (v := some (.int (1 : Int32))) (fun h => by rw [hret] at h; cases h) hlk (fun fs hr => retN X7 hx (t := .boolean) hret (by simp) (hb hby at_94) hr) (show ((fun v h L => Q0 Z it iw io h0 n0 v h L)) (some (.int (1 : Int32))) T4.heap _ from ⟨rfl, N7⟩) (by decide) (by decide)
    · refine own_via (G := T7.setTop (mkF m 71 #[.val (.long it), .second, .val (.int iw), .val (.long io), .second, .val (.ref b1), .val (.ref b3), .val (.int (1 : Int32)), .val (.int (own_ps iw)), .val (.int (own_ps iw)), .unset] [])) (fun t k => XS.icmpNo X7.here hx rfl (hb hby at_68) rfl (XT.ii_eq_f hc10_68) k) ?_
      refine own_via (G := T7.setTop (mkF m 73 #[.val (.long it), .second, .val (.int iw), .val (.long io), .second, .val (.ref b1), .val (.ref b3), .val (.int (1 : Int32)), .val (.int (own_ps iw)), .val (.int (own_ps iw)), .unset] [(.ref b1)])) (fun t k => XS.aload X7.here hx rfl (hb hby at_71) rfl rfl k) ?_
      obtain ⟨cq11, kq11, q11a, q11b, q11c⟩ := isOf hZ eh7 P0_2'4
      obtain ⟨_, _, ⟨T11, L11, k11, n11⟩, -, X11, ⟨Lc11, hQ11, l11, y11, z11⟩, st11⟩ := X7.virtualBack hx (y := (⟨"com/example/if_unchanged/ifunchanged/Turns$HeldLease", "served", "()Lcom/example/if_unchanged/ifunchanged/Turns$HeldLease;"⟩ : MethodName)) (z := (⟨"com/example/if_unchanged/ifunchanged/Turns$HeldLease", "served", "()Lcom/example/if_unchanged/ifunchanged/Turns$HeldLease;"⟩ : MethodName)) hown (mvT hZ (hw _ (List.mem_of_getElem? (i := 24) rfl))) (mvT hZ (hw _ (List.mem_of_getElem? (i := 25) rfl))) (notFace_of_selects (args := #[]) (mvT hZ (hw _ (List.mem_of_getElem? (i := 27) rfl)))) (mvT hZ (hw _ (List.mem_of_getElem? (i := 27) rfl))) (mvT hZ (hw _ (List.mem_of_getElem? (i := 26) rfl))) (by decide) (backOf (W := 0) (rm5 l Z a0 hw [] b1 it iw T4.heap n0 Z4 P1_2'4 P2_2'4) hZ (hw _ (List.mem_of_getElem? (i := 28) rfl)) (hw _ (List.mem_of_getElem? (i := 2) rfl)) (by decide) (by decide)) q11a q11c (g := (mkF m 73 #[.val (.long it), .second, .val (.int iw), .val (.long io), .second, .val (.ref b1), .val (.ref b3), .val (.int (1 : Int32)), .val (.int (own_ps iw)), .val (.int (own_ps iw)), .unset] [(.ref b1)])) rfl (by rw [hml]; rfl) (Steps.refl _) (argsL := []) (rest := []) (lenOf pd_3 rfl) rfl (by show 2 * 0 + _ ≤ _; exact Nat.le_of_eq rfl) (hb hby at_73) (fun _ _ => ⟨rfl, eh7, (by decide : ((((((0 + 1) + 0) + 1) + 0) + 0) + 0) + 1 ≤ _), (by decide : ((((((0 + 2) + 0) + 2) + 0) + 0) + 0) + 2 ≤ _)⟩)
      dsimp only [Pt.U, Pt.locs, Pt.cells, Pt.slots] at X11 l11 y11 z11 st11 hQ11
      subst l11 y11 z11
      obtain ⟨bz_11, rfl, Nq11, K11q, fz_bz_11, P0_11, P1_11, P2_11⟩ := hQ11
      have N11 := Fr.app N7 Nq11
      have P0_2'11 := P0_2'4.keep K11q
      have P1_2'11 := P1_2'4.keep K11q nin0
      have P2_2'11 := P2_2'4.keep K11q nin0
      have P0_4'11 := P0_4.keep K11q
      have P1_4'11 := P1_4.keep K11q nin0
      have P2_4'11 := P2_4.keep K11q nin0
      have g_bz_11 : n0 ≤ bz_11 := Nat.le_trans Z4 fz_bz_11
      have ne_b1_bz_11 : b1 ≠ bz_11 := Nat.ne_of_lt (Nat.lt_of_lt_of_le P0_2'4.lt fz_bz_11)
      have ne_b3_bz_11 : b3 ≠ bz_11 := Nat.ne_of_lt (Nat.lt_of_lt_of_le P0_4.lt fz_bz_11)
      have Z11 : n0 ≤ T11.heap.size := Nat.le_trans Z4 K11q.1
      refine own_via (G := T11.setTop (mkF m 76 #[.val (.long it), .second, .val (.int iw), .val (.long io), .second, .val (.ref b1), .val (.ref b3), .val (.int (1 : Int32)), .val (.int (own_ps iw)), .val (.int (own_ps iw)), .unset] [(.ref bz_11)])) (fun t k => st11.trans k) ?_
      obtain ⟨cq12, kq12, q12a, q12b, q12c⟩ := isOf hZ rfl P0_11
      obtain ⟨_, _, ⟨T12, L12, k12, n12⟩, -, X12, ⟨Lc12, hQ12, l12, y12, z12⟩, st12⟩ := X11.virtualBack hx (y := (⟨"com/example/if_unchanged/ifunchanged/Turns$HeldLease", "passable", "()Z"⟩ : MethodName)) (z := (⟨"com/example/if_unchanged/ifunchanged/Turns$HeldLease", "passable", "()Z"⟩ : MethodName)) hown (mvT hZ (hw _ (List.mem_of_getElem? (i := 18) rfl))) (mvT hZ (hw _ (List.mem_of_getElem? (i := 19) rfl))) (notFace_of_selects (args := #[]) (mvT hZ (hw _ (List.mem_of_getElem? (i := 21) rfl)))) (mvT hZ (hw _ (List.mem_of_getElem? (i := 21) rfl))) (mvT hZ (hw _ (List.mem_of_getElem? (i := 20) rfl))) (by decide) (backOf (W := 0) (rm4 l Z a0 hw [] bz_11 (iw + (1 : Int32)) T11.heap n0 Z11 P2_11) hZ (hw _ (List.mem_of_getElem? (i := 22) rfl)) (hw _ (List.mem_of_getElem? (i := 2) rfl)) (by decide) (by decide)) q12a q12c (g := (mkF m 76 #[.val (.long it), .second, .val (.int iw), .val (.long io), .second, .val (.ref b1), .val (.ref b3), .val (.int (1 : Int32)), .val (.int (own_ps iw)), .val (.int (own_ps iw)), .unset] [(.ref bz_11)])) rfl (by rw [hml]; rfl) (Steps.refl _) (argsL := []) (rest := []) (lenOf pd_2 rfl) rfl (by show 2 * 0 + _ ≤ _; exact Nat.le_of_eq rfl) (hb hby at_76) (fun _ _ => ⟨rfl, rfl, (by decide : (((((((0 + 1) + 0) + 1) + 0) + 0) + 0) + 1) + 0 ≤ _), (by decide : (((((((0 + 2) + 0) + 2) + 0) + 0) + 0) + 2) + 0 ≤ _)⟩)
      dsimp only [Pt.U, Pt.locs, Pt.cells, Pt.slots] at X12 l12 y12 z12 st12 hQ12
      subst l12 y12 z12
      obtain ⟨rfl, Nq12, eh12⟩ := hQ12
      have N12 := Fr.app N11 Nq12
      refine own_via (G := T12.setTop (mkF m 79 #[.val (.long it), .second, .val (.int iw), .val (.long io), .second, .val (.ref b1), .val (.ref b3), .val (.int (1 : Int32)), .val (.int (own_ps iw)), .val (.int (own_ps iw)), .unset] [(.int (own_ps (iw + (1 : Int32))))])) (fun t k => st12.trans k) ?_
      refine own_via (G := T12.setTop (mkF m 81 #[.val (.long it), .second, .val (.int iw), .val (.long io), .second, .val (.ref b1), .val (.ref b3), .val (.int (1 : Int32)), .val (.int (own_ps iw)), .val (.int (own_ps iw)), .val (.int (own_ps (iw + (1 : Int32))))] [])) (fun t k => XS.istore X12.here hx rfl (hb hby at_79) rfl (l' := #[.val (.long it), .second, .val (.int iw), .val (.long io), .second, .val (.ref b1), .val (.ref b3), .val (.int (1 : Int32)), .val (.int (own_ps iw)), .val (.int (own_ps iw)), .val (.int (own_ps (iw + (1 : Int32))))]) rfl k) ?_
      refine own_via (G := T12.setTop (mkF m 83 #[.val (.long it), .second, .val (.int iw), .val (.long io), .second, .val (.ref b1), .val (.ref b3), .val (.int (1 : Int32)), .val (.int (own_ps iw)), .val (.int (own_ps iw)), .val (.int (own_ps (iw + (1 : Int32))))] [(.int (own_ps (iw + (1 : Int32))))])) (fun t k => XS.iload X12.here hx rfl (hb hby at_81) rfl k) ?_
      by_cases hc13_83 : (own_ps (iw + (1 : Int32))) = (0 : Int32)
      · refine own_via (G := T12.setTop (mkF m 93 #[.val (.long it), .second, .val (.int iw), .val (.long io), .second, .val (.ref b1), .val (.ref b3), .val (.int (1 : Int32)), .val (.int (own_ps iw)), .val (.int (own_ps iw)), .val (.int (own_ps (iw + (1 : Int32))))] [])) (fun t k => XS.ifYes X12.here hx rfl (pc0 := 83) (pc' := 93) rfl (hb hby at_83) rfl (XT.i0_eq_t hc13_83) (by decide) (by decide) k) ?_
        refine own_via (G := T12.setTop (mkF m 94 #[.val (.long it), .second, .val (.int iw), .val (.long io), .second, .val (.ref b1), .val (.ref b3), .val (.int (1 : Int32)), .val (.int (own_ps iw)), .val (.int (own_ps iw)), .val (.int (own_ps (iw + (1 : Int32))))] [(.int (1 : Int32))])) (fun t k => XS.iconst X12.here hx rfl (hb hby at_93) k) ?_
        exact own_fin X12 eh12 (v := some (.int (1 : Int32))) (fun h => by rw [hret] at h; cases h) hlk (fun fs hr => retN X12 hx (t := .boolean) hret (by simp) (hb hby at_94) hr) (show ((fun v h L => Q0 Z it iw io h0 n0 v h L)) (some (.int (1 : Int32))) T11.heap _ from ⟨rfl, N12⟩) (by decide) (by decide)
      · refine own_via (G := T12.setTop (mkF m 86 #[.val (.long it), .second, .val (.int iw), .val (.long io), .second, .val (.ref b1), .val (.ref b3), .val (.int (1 : Int32)), .val (.int (own_ps iw)), .val (.int (own_ps iw)), .val (.int (own_ps (iw + (1 : Int32))))] [])) (fun t k => XS.ifNo X12.here hx rfl (hb hby at_83) rfl (XT.i0_eq_f hc13_83) k) ?_
        refine own_via (G := T12.setTop (mkF m 88 #[.val (.long it), .second, .val (.int iw), .val (.long io), .second, .val (.ref b1), .val (.ref b3), .val (.int (1 : Int32)), .val (.int (own_ps iw)), .val (.int (own_ps iw)), .val (.int (own_ps (iw + (1 : Int32))))] [(.int (own_ps iw))])) (fun t k => XS.iload X12.here hx rfl (hb hby at_86) rfl k) ?_
        have hc14_88 : ¬ ((own_ps iw) = (0 : Int32)) := fun q => absurd ((own_ps_t hc5_25).symm.trans q) (by decide)
        refine own_via (G := T12.setTop (mkF m 93 #[.val (.long it), .second, .val (.int iw), .val (.long io), .second, .val (.ref b1), .val (.ref b3), .val (.int (1 : Int32)), .val (.int (own_ps iw)), .val (.int (own_ps iw)), .val (.int (own_ps (iw + (1 : Int32))))] [])) (fun t k => XS.ifYes X12.here hx rfl (pc0 := 88) (pc' := 93) rfl (hb hby at_88) rfl (XT.i0_ne_t hc14_88) (by decide) (by decide) k) ?_
        refine own_via (G := T12.setTop (mkF m 94 #[.val (.long it), .second, .val (.int iw), .val (.long io), .second, .val (.ref b1), .val (.ref b3), .val (.int (1 : Int32)), .val (.int (own_ps iw)), .val (.int (own_ps iw)), .val (.int (own_ps (iw + (1 : Int32))))] [(.int (1 : Int32))])) (fun t k => XS.iconst X12.here hx rfl (hb hby at_93) k) ?_
        exact own_fin X12 eh12 (v := some (.int (1 : Int32))) (fun h => by rw [hret] at h; cases h) hlk (fun fs hr => retN X12 hx (t := .boolean) hret (by simp) (hb hby at_94) hr) (show ((fun v h L => Q0 Z it iw io h0 n0 v h L)) (some (.int (1 : Int32))) T11.heap _ from ⟨rfl, N12⟩) (by decide) (by decide)
  · refine own_via (G := T4.setTop (mkF m 32 #[.val (.long it), .second, .val (.int iw), .val (.long io), .second, .val (.ref b1), .val (.ref b3), .unset, .unset, .unset, .unset] [])) (fun t k => XS.icmpYes X4.here hx rfl (pc0 := 25) (pc' := 32) rfl (hb hby at_25) rfl (XT.ii_ge_t hc5_25) (by decide) (by decide) k) ?_
    refine own_via (G := T4.setTop (mkF m 33 #[.val (.long it), .second, .val (.int iw), .val (.long io), .second, .val (.ref b1), .val (.ref b3), .unset, .unset, .unset, .unset] [(.int (0 : Int32))])) (fun t k => XS.iconst X4.here hx rfl (hb hby at_32) k) ?_
    refine own_via (G := T4.setTop (mkF m 35 #[.val (.long it), .second, .val (.int iw), .val (.long io), .second, .val (.ref b1), .val (.ref b3), .val (.int (0 : Int32)), .unset, .unset, .unset] [])) (fun t k => XS.istore X4.here hx rfl (hb hby at_33) rfl (l' := #[.val (.long it), .second, .val (.int iw), .val (.long io), .second, .val (.ref b1), .val (.ref b3), .val (.int (0 : Int32)), .unset, .unset, .unset]) rfl k) ?_
    refine own_via (G := T4.setTop (mkF m 37 #[.val (.long it), .second, .val (.int iw), .val (.long io), .second, .val (.ref b1), .val (.ref b3), .val (.int (0 : Int32)), .unset, .unset, .unset] [(.ref b1)])) (fun t k => XS.aload X4.here hx rfl (hb hby at_35) rfl rfl k) ?_
    obtain ⟨cq15, kq15, q15a, q15b, q15c⟩ := isOf hZ rfl P0_2'4
    obtain ⟨_, _, ⟨T15, L15, k15, n15⟩, -, X15, ⟨Lc15, hQ15, l15, y15, z15⟩, st15⟩ := X4.virtualBack hx (y := (⟨"com/example/if_unchanged/ifunchanged/Turns$HeldLease", "passable", "()Z"⟩ : MethodName)) (z := (⟨"com/example/if_unchanged/ifunchanged/Turns$HeldLease", "passable", "()Z"⟩ : MethodName)) hown (mvT hZ (hw _ (List.mem_of_getElem? (i := 18) rfl))) (mvT hZ (hw _ (List.mem_of_getElem? (i := 19) rfl))) (notFace_of_selects (args := #[]) (mvT hZ (hw _ (List.mem_of_getElem? (i := 21) rfl)))) (mvT hZ (hw _ (List.mem_of_getElem? (i := 21) rfl))) (mvT hZ (hw _ (List.mem_of_getElem? (i := 20) rfl))) (by decide) (backOf (W := 0) (rm4 l Z a0 hw [] b1 iw T4.heap n0 Z4 P2_2'4) hZ (hw _ (List.mem_of_getElem? (i := 22) rfl)) (hw _ (List.mem_of_getElem? (i := 2) rfl)) (by decide) (by decide)) q15a q15c (g := (mkF m 37 #[.val (.long it), .second, .val (.int iw), .val (.long io), .second, .val (.ref b1), .val (.ref b3), .val (.int (0 : Int32)), .unset, .unset, .unset] [(.ref b1)])) rfl (by rw [hml]; rfl) (Steps.refl _) (argsL := []) (rest := []) (lenOf pd_2 rfl) rfl (by show 2 * 0 + _ ≤ _; exact Nat.le_of_eq rfl) (hb hby at_37) (fun _ _ => ⟨rfl, rfl, (by decide : ((((0 + 1) + 0) + 1) + 0) + 0 ≤ _), (by decide : ((((0 + 2) + 0) + 2) + 0) + 0 ≤ _)⟩)
    dsimp only [Pt.U, Pt.locs, Pt.cells, Pt.slots] at X15 l15 y15 z15 st15 hQ15
    subst l15 y15 z15
    obtain ⟨rfl, Nq15, eh15⟩ := hQ15
    have N15 := Fr.app N4 Nq15
    refine own_via (G := T15.setTop (mkF m 40 #[.val (.long it), .second, .val (.int iw), .val (.long io), .second, .val (.ref b1), .val (.ref b3), .val (.int (0 : Int32)), .unset, .unset, .unset] [(.int (own_ps iw))])) (fun t k => st15.trans k) ?_
    refine own_via (G := T15.setTop (mkF m 42 #[.val (.long it), .second, .val (.int iw), .val (.long io), .second, .val (.ref b1), .val (.ref b3), .val (.int (0 : Int32)), .val (.int (own_ps iw)), .unset, .unset] [])) (fun t k => XS.istore X15.here hx rfl (hb hby at_40) rfl (l' := #[.val (.long it), .second, .val (.int iw), .val (.long io), .second, .val (.ref b1), .val (.ref b3), .val (.int (0 : Int32)), .val (.int (own_ps iw)), .unset, .unset]) rfl k) ?_
    refine own_via (G := T15.setTop (mkF m 44 #[.val (.long it), .second, .val (.int iw), .val (.long io), .second, .val (.ref b1), .val (.ref b3), .val (.int (0 : Int32)), .val (.int (own_ps iw)), .unset, .unset] [(.ref b3)])) (fun t k => XS.aload X15.here hx rfl (hb hby at_42) rfl rfl k) ?_
    obtain ⟨cq16, kq16, q16a, q16b, q16c⟩ := isOf hZ eh15 P0_4
    obtain ⟨_, _, ⟨T16, L16, k16, n16⟩, -, X16, ⟨Lc16, hQ16, l16, y16, z16⟩, st16⟩ := X15.virtualBack hx (y := (⟨"com/example/if_unchanged/ifunchanged/Turns$HeldLease", "passable", "()Z"⟩ : MethodName)) (z := (⟨"com/example/if_unchanged/ifunchanged/Turns$HeldLease", "passable", "()Z"⟩ : MethodName)) hown (mvT hZ (hw _ (List.mem_of_getElem? (i := 18) rfl))) (mvT hZ (hw _ (List.mem_of_getElem? (i := 19) rfl))) (notFace_of_selects (args := #[]) (mvT hZ (hw _ (List.mem_of_getElem? (i := 21) rfl)))) (mvT hZ (hw _ (List.mem_of_getElem? (i := 21) rfl))) (mvT hZ (hw _ (List.mem_of_getElem? (i := 20) rfl))) (by decide) (backOf (W := 0) (rm4 l Z a0 hw [] b3 iw T4.heap n0 Z4 P2_4) hZ (hw _ (List.mem_of_getElem? (i := 22) rfl)) (hw _ (List.mem_of_getElem? (i := 2) rfl)) (by decide) (by decide)) q16a q16c (g := (mkF m 44 #[.val (.long it), .second, .val (.int iw), .val (.long io), .second, .val (.ref b1), .val (.ref b3), .val (.int (0 : Int32)), .val (.int (own_ps iw)), .unset, .unset] [(.ref b3)])) rfl (by rw [hml]; rfl) (Steps.refl _) (argsL := []) (rest := []) (lenOf pd_2 rfl) rfl (by show 2 * 0 + _ ≤ _; exact Nat.le_of_eq rfl) (hb hby at_44) (fun _ _ => ⟨rfl, eh15, (by decide : (((((0 + 1) + 0) + 1) + 0) + 0) + 0 ≤ _), (by decide : (((((0 + 2) + 0) + 2) + 0) + 0) + 0 ≤ _)⟩)
    dsimp only [Pt.U, Pt.locs, Pt.cells, Pt.slots] at X16 l16 y16 z16 st16 hQ16
    subst l16 y16 z16
    obtain ⟨rfl, Nq16, eh16⟩ := hQ16
    have N16 := Fr.app N15 Nq16
    refine own_via (G := T16.setTop (mkF m 47 #[.val (.long it), .second, .val (.int iw), .val (.long io), .second, .val (.ref b1), .val (.ref b3), .val (.int (0 : Int32)), .val (.int (own_ps iw)), .unset, .unset] [(.int (own_ps iw))])) (fun t k => st16.trans k) ?_
    refine own_via (G := T16.setTop (mkF m 49 #[.val (.long it), .second, .val (.int iw), .val (.long io), .second, .val (.ref b1), .val (.ref b3), .val (.int (0 : Int32)), .val (.int (own_ps iw)), .val (.int (own_ps iw)), .unset] [])) (fun t k => XS.istore X16.here hx rfl (hb hby at_47) rfl (l' := #[.val (.long it), .second, .val (.int iw), .val (.long io), .second, .val (.ref b1), .val (.ref b3), .val (.int (0 : Int32)), .val (.int (own_ps iw)), .val (.int (own_ps iw)), .unset]) rfl k) ?_
    refine own_via (G := T16.setTop (mkF m 51 #[.val (.long it), .second, .val (.int iw), .val (.long io), .second, .val (.ref b1), .val (.ref b3), .val (.int (0 : Int32)), .val (.int (own_ps iw)), .val (.int (own_ps iw)), .unset] [(.int (own_ps iw))])) (fun t k => XS.iload X16.here hx rfl (hb hby at_49) rfl k) ?_
    refine own_via (G := T16.setTop (mkF m 53 #[.val (.long it), .second, .val (.int iw), .val (.long io), .second, .val (.ref b1), .val (.ref b3), .val (.int (0 : Int32)), .val (.int (own_ps iw)), .val (.int (own_ps iw)), .unset] [(.int (0 : Int32)), (.int (own_ps iw))])) (fun t k => XS.iload X16.here hx rfl (hb hby at_51) rfl k) ?_
    have hc17_53 : (own_ps iw) = (0 : Int32) := own_ps_f hc5_25
    refine own_via (G := T16.setTop (mkF m 56 #[.val (.long it), .second, .val (.int iw), .val (.long io), .second, .val (.ref b1), .val (.ref b3), .val (.int (0 : Int32)), .val (.int (own_ps iw)), .val (.int (own_ps iw)), .unset] [])) (fun t k => XS.icmpNo X16.here hx rfl (hb hby at_53) rfl (XT.ii_ne_f hc17_53) k) ?_
    refine own_via (G := T16.setTop (mkF m 58 #[.val (.long it), .second, .val (.int iw), .val (.long io), .second, .val (.ref b1), .val (.ref b3), .val (.int (0 : Int32)), .val (.int (own_ps iw)), .val (.int (own_ps iw)), .unset] [(.int (own_ps iw))])) (fun t k => XS.iload X16.here hx rfl (hb hby at_56) rfl k) ?_
    refine own_via (G := T16.setTop (mkF m 60 #[.val (.long it), .second, .val (.int iw), .val (.long io), .second, .val (.ref b1), .val (.ref b3), .val (.int (0 : Int32)), .val (.int (own_ps iw)), .val (.int (own_ps iw)), .unset] [(.int (0 : Int32)), (.int (own_ps iw))])) (fun t k => XS.iload X16.here hx rfl (hb hby at_58) rfl k) ?_
    have hc18_60 : (own_ps iw) = (0 : Int32) := own_ps_f hc5_25
    refine own_via (G := T16.setTop (mkF m 65 #[.val (.long it), .second, .val (.int iw), .val (.long io), .second, .val (.ref b1), .val (.ref b3), .val (.int (0 : Int32)), .val (.int (own_ps iw)), .val (.int (own_ps iw)), .unset] [])) (fun t k => XS.icmpYes X16.here hx rfl (pc0 := 60) (pc' := 65) rfl (hb hby at_60) rfl (XT.ii_eq_t hc18_60) (by decide) (by decide) k) ?_
    refine own_via (G := T16.setTop (mkF m 66 #[.val (.long it), .second, .val (.int iw), .val (.long io), .second, .val (.ref b1), .val (.ref b3), .val (.int (0 : Int32)), .val (.int (own_ps iw)), .val (.int (own_ps iw)), .unset] [(.int iw)])) (fun t k => XS.iloadN X16.here hx rfl (hb hby at_65) rfl k) ?_
    refine own_via (G := T16.setTop (mkF m 68 #[.val (.long it), .second, .val (.int iw), .val (.long io), .second, .val (.ref b1), .val (.ref b3), .val (.int (0 : Int32)), .val (.int (own_ps iw)), .val (.int (own_ps iw)), .unset] [(.int (2147483647 : Int32)), (.int iw)])) (fun t k => X16.ldcI hx hown (mvT hZ (hw _ (List.mem_of_getElem? (i := 23) rfl))) (g := (mkF m 66 #[.val (.long it), .second, .val (.int iw), .val (.long io), .second, .val (.ref b1), .val (.ref b3), .val (.int (0 : Int32)), .val (.int (own_ps iw)), .val (.int (own_ps iw)), .unset] [(.int iw)])) rfl (hb hby at_66) k) ?_
    by_cases hc19_68 : iw = (2147483647 : Int32)
    · refine own_via (G := T16.setTop (mkF m 93 #[.val (.long it), .second, .val (.int iw), .val (.long io), .second, .val (.ref b1), .val (.ref b3), .val (.int (0 : Int32)), .val (.int (own_ps iw)), .val (.int (own_ps iw)), .unset] [])) (fun t k => XS.icmpYes X16.here hx rfl (pc0 := 68) (pc' := 93) rfl (hb hby at_68) rfl (XT.ii_eq_t hc19_68) (by decide) (by decide) k) ?_
      refine own_via (G := T16.setTop (mkF m 94 #[.val (.long it), .second, .val (.int iw), .val (.long io), .second, .val (.ref b1), .val (.ref b3), .val (.int (0 : Int32)), .val (.int (own_ps iw)), .val (.int (own_ps iw)), .unset] [(.int (1 : Int32))])) (fun t k => XS.iconst X16.here hx rfl (hb hby at_93) k) ?_
      exact own_fin X16 eh16 (v := some (.int (1 : Int32))) (fun h => by rw [hret] at h; cases h) hlk (fun fs hr => retN X16 hx (t := .boolean) hret (by simp) (hb hby at_94) hr) (show ((fun v h L => Q0 Z it iw io h0 n0 v h L)) (some (.int (1 : Int32))) T4.heap _ from ⟨rfl, N16⟩) (by decide) (by decide)
    · refine own_via (G := T16.setTop (mkF m 71 #[.val (.long it), .second, .val (.int iw), .val (.long io), .second, .val (.ref b1), .val (.ref b3), .val (.int (0 : Int32)), .val (.int (own_ps iw)), .val (.int (own_ps iw)), .unset] [])) (fun t k => XS.icmpNo X16.here hx rfl (hb hby at_68) rfl (XT.ii_eq_f hc19_68) k) ?_
      refine own_via (G := T16.setTop (mkF m 73 #[.val (.long it), .second, .val (.int iw), .val (.long io), .second, .val (.ref b1), .val (.ref b3), .val (.int (0 : Int32)), .val (.int (own_ps iw)), .val (.int (own_ps iw)), .unset] [(.ref b1)])) (fun t k => XS.aload X16.here hx rfl (hb hby at_71) rfl rfl k) ?_
      obtain ⟨cq20, kq20, q20a, q20b, q20c⟩ := isOf hZ eh16 P0_2'4
      obtain ⟨_, _, ⟨T20, L20, k20, n20⟩, -, X20, ⟨Lc20, hQ20, l20, y20, z20⟩, st20⟩ := X16.virtualBack hx (y := (⟨"com/example/if_unchanged/ifunchanged/Turns$HeldLease", "served", "()Lcom/example/if_unchanged/ifunchanged/Turns$HeldLease;"⟩ : MethodName)) (z := (⟨"com/example/if_unchanged/ifunchanged/Turns$HeldLease", "served", "()Lcom/example/if_unchanged/ifunchanged/Turns$HeldLease;"⟩ : MethodName)) hown (mvT hZ (hw _ (List.mem_of_getElem? (i := 24) rfl))) (mvT hZ (hw _ (List.mem_of_getElem? (i := 25) rfl))) (notFace_of_selects (args := #[]) (mvT hZ (hw _ (List.mem_of_getElem? (i := 27) rfl)))) (mvT hZ (hw _ (List.mem_of_getElem? (i := 27) rfl))) (mvT hZ (hw _ (List.mem_of_getElem? (i := 26) rfl))) (by decide) (backOf (W := 0) (rm5 l Z a0 hw [] b1 it iw T4.heap n0 Z4 P1_2'4 P2_2'4) hZ (hw _ (List.mem_of_getElem? (i := 28) rfl)) (hw _ (List.mem_of_getElem? (i := 2) rfl)) (by decide) (by decide)) q20a q20c (g := (mkF m 73 #[.val (.long it), .second, .val (.int iw), .val (.long io), .second, .val (.ref b1), .val (.ref b3), .val (.int (0 : Int32)), .val (.int (own_ps iw)), .val (.int (own_ps iw)), .unset] [(.ref b1)])) rfl (by rw [hml]; rfl) (Steps.refl _) (argsL := []) (rest := []) (lenOf pd_3 rfl) rfl (by show 2 * 0 + _ ≤ _; exact Nat.le_of_eq rfl) (hb hby at_73) (fun _ _ => ⟨rfl, eh16, (by decide : ((((((0 + 1) + 0) + 1) + 0) + 0) + 0) + 1 ≤ _), (by decide : ((((((0 + 2) + 0) + 2) + 0) + 0) + 0) + 2 ≤ _)⟩)
      dsimp only [Pt.U, Pt.locs, Pt.cells, Pt.slots] at X20 l20 y20 z20 st20 hQ20
      subst l20 y20 z20
      obtain ⟨bz_20, rfl, Nq20, K20q, fz_bz_20, P0_20, P1_20, P2_20⟩ := hQ20
      have N20 := Fr.app N16 Nq20
      have P0_2'20 := P0_2'4.keep K20q
      have P1_2'20 := P1_2'4.keep K20q nin0
      have P2_2'20 := P2_2'4.keep K20q nin0
      have P0_4'20 := P0_4.keep K20q
      have P1_4'20 := P1_4.keep K20q nin0
      have P2_4'20 := P2_4.keep K20q nin0
      have g_bz_20 : n0 ≤ bz_20 := Nat.le_trans Z4 fz_bz_20
      have ne_b1_bz_20 : b1 ≠ bz_20 := Nat.ne_of_lt (Nat.lt_of_lt_of_le P0_2'4.lt fz_bz_20)
      have ne_b3_bz_20 : b3 ≠ bz_20 := Nat.ne_of_lt (Nat.lt_of_lt_of_le P0_4.lt fz_bz_20)
      have Z20 : n0 ≤ T20.heap.size := Nat.le_trans Z4 K20q.1
      refine own_via (G := T20.setTop (mkF m 76 #[.val (.long it), .second, .val (.int iw), .val (.long io), .second, .val (.ref b1), .val (.ref b3), .val (.int (0 : Int32)), .val (.int (own_ps iw)), .val (.int (own_ps iw)), .unset] [(.ref bz_20)])) (fun t k => st20.trans k) ?_
      obtain ⟨cq21, kq21, q21a, q21b, q21c⟩ := isOf hZ rfl P0_20
      obtain ⟨_, _, ⟨T21, L21, k21, n21⟩, -, X21, ⟨Lc21, hQ21, l21, y21, z21⟩, st21⟩ := X20.virtualBack hx (y := (⟨"com/example/if_unchanged/ifunchanged/Turns$HeldLease", "passable", "()Z"⟩ : MethodName)) (z := (⟨"com/example/if_unchanged/ifunchanged/Turns$HeldLease", "passable", "()Z"⟩ : MethodName)) hown (mvT hZ (hw _ (List.mem_of_getElem? (i := 18) rfl))) (mvT hZ (hw _ (List.mem_of_getElem? (i := 19) rfl))) (notFace_of_selects (args := #[]) (mvT hZ (hw _ (List.mem_of_getElem? (i := 21) rfl)))) (mvT hZ (hw _ (List.mem_of_getElem? (i := 21) rfl))) (mvT hZ (hw _ (List.mem_of_getElem? (i := 20) rfl))) (by decide) (backOf (W := 0) (rm4 l Z a0 hw [] bz_20 (iw + (1 : Int32)) T20.heap n0 Z20 P2_20) hZ (hw _ (List.mem_of_getElem? (i := 22) rfl)) (hw _ (List.mem_of_getElem? (i := 2) rfl)) (by decide) (by decide)) q21a q21c (g := (mkF m 76 #[.val (.long it), .second, .val (.int iw), .val (.long io), .second, .val (.ref b1), .val (.ref b3), .val (.int (0 : Int32)), .val (.int (own_ps iw)), .val (.int (own_ps iw)), .unset] [(.ref bz_20)])) rfl (by rw [hml]; rfl) (Steps.refl _) (argsL := []) (rest := []) (lenOf pd_2 rfl) rfl (by show 2 * 0 + _ ≤ _; exact Nat.le_of_eq rfl) (hb hby at_76) (fun _ _ => ⟨rfl, rfl, (by decide : (((((((0 + 1) + 0) + 1) + 0) + 0) + 0) + 1) + 0 ≤ _), (by decide : (((((((0 + 2) + 0) + 2) + 0) + 0) + 0) + 2) + 0 ≤ _)⟩)
      dsimp only [Pt.U, Pt.locs, Pt.cells, Pt.slots] at X21 l21 y21 z21 st21 hQ21
      subst l21 y21 z21
      obtain ⟨rfl, Nq21, eh21⟩ := hQ21
      have N21 := Fr.app N20 Nq21
      refine own_via (G := T21.setTop (mkF m 79 #[.val (.long it), .second, .val (.int iw), .val (.long io), .second, .val (.ref b1), .val (.ref b3), .val (.int (0 : Int32)), .val (.int (own_ps iw)), .val (.int (own_ps iw)), .unset] [(.int (own_ps (iw + (1 : Int32))))])) (fun t k => st21.trans k) ?_
      refine own_via (G := T21.setTop (mkF m 81 #[.val (.long it), .second, .val (.int iw), .val (.long io), .second, .val (.ref b1), .val (.ref b3), .val (.int (0 : Int32)), .val (.int (own_ps iw)), .val (.int (own_ps iw)), .val (.int (own_ps (iw + (1 : Int32))))] [])) (fun t k => XS.istore X21.here hx rfl (hb hby at_79) rfl (l' := #[.val (.long it), .second, .val (.int iw), .val (.long io), .second, .val (.ref b1), .val (.ref b3), .val (.int (0 : Int32)), .val (.int (own_ps iw)), .val (.int (own_ps iw)), .val (.int (own_ps (iw + (1 : Int32))))]) rfl k) ?_
      refine own_via (G := T21.setTop (mkF m 83 #[.val (.long it), .second, .val (.int iw), .val (.long io), .second, .val (.ref b1), .val (.ref b3), .val (.int (0 : Int32)), .val (.int (own_ps iw)), .val (.int (own_ps iw)), .val (.int (own_ps (iw + (1 : Int32))))] [(.int (own_ps (iw + (1 : Int32))))])) (fun t k => XS.iload X21.here hx rfl (hb hby at_81) rfl k) ?_
      have hc22_83 : (own_ps (iw + (1 : Int32))) = (0 : Int32) := own_up hc5_25 hc19_68
      refine own_via (G := T21.setTop (mkF m 93 #[.val (.long it), .second, .val (.int iw), .val (.long io), .second, .val (.ref b1), .val (.ref b3), .val (.int (0 : Int32)), .val (.int (own_ps iw)), .val (.int (own_ps iw)), .val (.int (own_ps (iw + (1 : Int32))))] [])) (fun t k => XS.ifYes X21.here hx rfl (pc0 := 83) (pc' := 93) rfl (hb hby at_83) rfl (XT.i0_eq_t hc22_83) (by decide) (by decide) k) ?_
      refine own_via (G := T21.setTop (mkF m 94 #[.val (.long it), .second, .val (.int iw), .val (.long io), .second, .val (.ref b1), .val (.ref b3), .val (.int (0 : Int32)), .val (.int (own_ps iw)), .val (.int (own_ps iw)), .val (.int (own_ps (iw + (1 : Int32))))] [(.int (1 : Int32))])) (fun t k => XS.iconst X21.here hx rfl (hb hby at_93) k) ?_
      exact own_fin X21 eh21 (v := some (.int (1 : Int32))) (fun h => by rw [hret] at h; cases h) hlk (fun fs hr => retN X21 hx (t := .boolean) hret (by simp) (hb hby at_94) hr) (show ((fun v h L => Q0 Z it iw io h0 n0 v h L)) (some (.int (1 : Int32))) T20.heap _ from ⟨rfl, N21⟩) (by decide) (by decide)
theorem pn_2 : plainName "com/example/if_unchanged/ifunchanged/HeldLeasePassablePinLaw" = true := by first | (simp [plainName, overriddenIn]; done) | decide +kernel
theorem ef_0 (m : MethodId) (it : Int64) (iw : Int32) (io : Int64) : entryFrame m #[(.long it), (.int iw), (.long io)] maxLocals = mkF m 0 #[.val (.long it), .second, .val (.int iw), .val (.long io), .second, .unset, .unset, .unset, .unset, .unset, .unset] [] := by first | (simp [entryFrame, mkF, argsToLocals, Value.category, maxLocals]; done) | rfl
set_option maxRecDepth 65536 in
set_option maxHeartbeats 40000000 in
theorem rm0 (l : Launch) (Z : State) (a0 : Array Value) (hw : ∀ d ∈ tables_1, d.before a0 Z = true) (ws : List Jvm.Cond) (it : Int64) (iw : Int32) (io : Int64) (h0 : Heap) (n0 : Nat) (Z0 : n0 ≤ h0.size) :
    MetFree l x (head1 (Jvm.Cond.code x code maxLocals ret :: ws) room_1) (fun a U => a = #[(.long it), (.int iw), (.long io)] ∧ Z.Warmed39 U.vm ∧ U.heap = h0) (fun _ _ _ _ _ => True) (fun _ U o U' => ∃ v L, o = .returned v ∧ Q0 Z it iw io h0 n0 v U'.heap L ∧ FrameEnd U o U' L room_1.cells room_1.slots) := by
  refine MetFree.of_bodySF (plainFor_of_name pn_2) hisR ?_
  intro p e s m args below meth c s₁ Bd hml0 hP hK
  obtain ⟨rfl, hZ, hh⟩ := hP
  have e0 : s₁.heap = h0 := by rw [← hh, Bd.state]; rfl
  rw [ef_0 m it iw io]
  exact b0 it iw io ⟨Bd.exec, hZ, hw, Bd.bytes, hml0, findClass_of_methodNamed Bd.named, Bd.returns, Bd.notSynchronized, (name_of_methodNamed Bd.named Bd.method).1⟩ (Stand.of_body Bd) e0 Z0 (Fr.nil n0)
set_option maxRecDepth 65536 in
set_option maxHeartbeats 40000000 in
theorem comes_1 {Post : Tables → Env → Array Value → State → Outcome → State → Prop} (hpost : ∀ tb e args s v u, (limb_1_1.after args s (.returned v) u = true ∧ limb_1_2.after args s (.returned v) u = true ∧ True) → FrameEnd s (.returned v) u (Jvm.fieldLocs frame_1_writes args s ++ Jvm.arrayLocs frame_1_arrays args s ++ Jvm.staticLocs frame_1_statics s) 16 128 → Post tb e args s (.returned v) u) :
    ArmFor flags0 classFile x code maxLocals ret World_1 tables_1 room_1 Calls_1 rest_1 Pre_1 Post := by
  intro l hfl _ _ p e ha hc hk s m args below hf hA hF happ hP
  obtain ⟨hcalls, hrest, hpre⟩ := hP
  obtain ⟨-, -, -, hnamed, -, -, -, hat⟩ := (Spec.applies_iff hf).mp happ
  obtain ⟨hg, hn⟩ := and_e (Cond.before_iff.mp (show (Jvm.Cond.and given_1 narrow_1).before args s = true from hpre))
  obtain ⟨hcount, r0⟩ := and_e hg
  obtain ⟨ha0, r1⟩ := and_e r0
  obtain ⟨ha1, r2⟩ := and_e r1
  obtain ⟨w0, w1, w2, rfl⟩ : ∃ w0 w1 w2 : Value, args = #[w0, w1, w2] := by
    have hs : args.size = 3 := by simpa [Cond.value, given_1] using hcount
    obtain ⟨L⟩ := args
    match L, hs with
    | [w0, w1, w2], _ => exact ⟨w0, w1, w2, rfl⟩
  have hw := fun d (hd : d ∈ tables_1) => atoms_spec (ws := Jvm.Cond.code x code maxLocals ret :: tables_1) hat d (List.mem_cons_of_mem _ hd)
  obtain ⟨i0, ei0⟩ := isL_v ha0
  obtain rfl : w0 = (.long i0) := Option.some.inj ei0
  obtain ⟨i1, ei1⟩ := is_v ha1
  obtain rfl : w1 = (.int i1) := Option.some.inj ei1
  obtain ⟨i2, ei2⟩ := isL_v r2
  obtain rfl : w2 = (.long i2) := Option.some.inj ei2
  obtain ⟨n, o, h1, h2, h3, _, L, rfl, ⟨rfl, N⟩, hq⟩ := rm0 l s _ hw tables_1 i0 i1 i2 s.heap s.heap.size (Nat.le_refl _) p e ha hc hk s m _ below hf ((Spec.applies_iff_loose hf).mp happ).1 ⟨rfl, State.Warmed39.refl s, rfl⟩ trivial
  refine ⟨n, _, h1, h2, h3, hpost _ _ _ _ _ _ ⟨Cond.after_iff.mpr rfl, Cond.after_iff.mpr (eq_i res_at (Term.int_eval (1)) rfl), trivial⟩ ⟨hq.1, hq.2.1, (hq.2.2.sift fun y hy => Or.inr (N y hy)).mono (by decide) (by decide)⟩⟩
theorem main_1_1 : Claimed_1_1 := comes_1 fun _ _ _ _ _ _ h hF => ⟨h.1, hF⟩
theorem main_1_2 : Claimed_1_2 := comes_1 fun _ _ _ _ _ _ h hF => ⟨h.2.1, hF⟩
end Jvm.Pilot.@@N@@
namespace Jvm.Pilot.@@N@@
open Jvm Jvm.ClassFile Sem Op Lib Jvm.Free Jvm.Stand Jvm.Pilot.@@N@@.Jvm.D
/-! MADE BY PROGRAM (witnessworld.py) out of the Statement's table words and the real class files: 10 classes; the members and pool entries that the words name. The judged class is class 1, her method 1. -/
namespace start1
open Jvm.ClassFile
def u (s : String) : CpInfo := .utf8 (stringToUtf16 s)
/-- a pool by its gaps: so many unusable entries, then the entry; so many at the end -/
def gap : Nat → List CpInfo → List CpInfo
  | 0, r => r
  | n + 1, r => .unusable :: gap n r
def poolList (es : List (Nat × CpInfo)) (last : Nat) : List CpInfo := es.foldr (fun e r => gap e.1 (e.2 :: r)) (gap last [])
def pool (es : List (Nat × CpInfo)) (last : Nat) : Array CpInfo := ⟨poolList es last⟩
def fileOf (pool : Array CpInfo) (this : Nat) (attrs : Array Attribute := #[]) (ms : Array MethodInfo := #[]) (fl : Nat := 33) (sup : Nat := 0) (ifs : Array Nat := #[]) (fds : Array FieldInfo := #[]) : ClassFile where
  minorVersion := 0
  majorVersion := 65
  constantPool := pool
  accessFlags := fl
  thisClass := this
  superClass := sup
  interfaces := ifs
  fields := fds
  methods := ms
  attributes := attrs
def plain (name : String) (sup : Option ClassId) : Class where
  name := name
  kind := .ordinary
  loader := none
  accessFlags := 33
  super := sup
  interfaces := #[]
  cf := none
  fields := #[]
  methods := #[]
  instanceTypes := #[]
  staticTypes := #[]
  resolved := #[]
  callSites := []
  init := .initialized
  statics := none
  mirror := none

def pool0 : Array CpInfo := pool [(5, u "<init>"), (0, u "()V"), (1, .class_ 10), (1, u "java/lang/Object")] 113

def k0c0 : Code := { maxStack := 0, maxLocals := 1, code := object_method_1_code, exceptionTable := #[], attributes := #[] }
def k0m0 : Method := { name := "<init>", desc := "()V", sig := { parameters := [], returnType := none }, accessFlags := 1, code := some k0c0 }
/-- java/lang/Object -/
def k0 : Class := { plain "java/lang/Object" none with
  accessFlags := 33
  interfaces := #[]
  cf := some (fileOf pool0 8 #[] #[{ accessFlags := 1, nameIndex := 5, descriptorIndex := 6, attributes := #[] }] 33 0 #[] #[])
  fields := #[]
  methods := #[k0m0]
  instanceTypes := #[]
  staticTypes := #[]
  resolved := Array.replicate 124 none
  statics := none }

def pool1 : Array CpInfo := pool [(2, .class_ 4), (1, u "java/lang/Object"), (0, u "<init>"), (0, u "()V"), (0, .class_ 8), (0, u "com/example/if_unchanged/ifunchanged/Turns$HeldLease"), (0, .methodref 7 10), (0, .nameAndType 5 11), (0, u "(JI)V"), (0, .methodref 7 13), (0, .nameAndType 14 15), (0, u "passable"), (0, u "()Z"), (2, .integer 2147483647), (0, .methodref 7 20), (0, .nameAndType 21 22), (0, u "served"), (0, u "()Lcom/example/if_unchanged/ifunchanged/Turns$HeldLease;"), (0, .class_ 24), (0, u "com/example/if_unchanged/ifunchanged/HeldLeasePassablePinLaw"), (2, u "law"), (0, u "(JIJ)Z")] 7

def k1m0 : Method := { name := "<init>", desc := "()V", sig := { parameters := [], returnType := none }, accessFlags := 1, code := none }
def k1c1 : Code := { maxStack := 5, maxLocals := 11, code := code, exceptionTable := #[], attributes := #[] }
def k1m1 : Method := { name := "law", desc := "(JIJ)Z", sig := { parameters := [.long, .int, .long], returnType := some .boolean }, accessFlags := 9, code := some k1c1 }
/-- com/example/if_unchanged/ifunchanged/HeldLeasePassablePinLaw -/
def k1 : Class := { plain "com/example/if_unchanged/ifunchanged/HeldLeasePassablePinLaw" (some 0) with
  accessFlags := 49
  interfaces := #[]
  cf := some (fileOf pool1 23 #[] #[{ accessFlags := 1, nameIndex := 5, descriptorIndex := 6, attributes := #[] }, { accessFlags := 9, nameIndex := 27, descriptorIndex := 28, attributes := #[] }] 49 2 #[] #[])
  fields := #[]
  methods := #[k1m0, k1m1]
  instanceTypes := #[]
  staticTypes := #[]
  resolved := Array.replicate 36 none
  statics := none }

def pool2 : Array CpInfo := pool [(1, .methodref 2 3), (0, .class_ 4), (0, .nameAndType 5 6), (0, u "java/lang/Object"), (0, u "<init>"), (0, u "()V"), (0, .class_ 8), (0, u "java/lang/Record")] 13

def k2c0 : Code := { maxStack := 1, maxLocals := 1, code := jdk_30_method_1_code, exceptionTable := #[], attributes := #[] }
def k2m0 : Method := { name := "<init>", desc := "()V", sig := { parameters := [], returnType := none }, accessFlags := 4, code := some k2c0 }
/-- java/lang/Record -/
def k2 : Class := { plain "java/lang/Record" (some 0) with
  accessFlags := 1057
  interfaces := #[]
  cf := some (fileOf pool2 7 #[] #[{ accessFlags := 4, nameIndex := 5, descriptorIndex := 6, attributes := #[] }] 1057 2 #[] #[])
  fields := #[]
  methods := #[k2m0]
  instanceTypes := #[]
  staticTypes := #[]
  resolved := Array.replicate 22 none
  statics := none }

def pool3 : Array CpInfo := pool [(1, .methodref 2 3), (0, .class_ 4), (0, .nameAndType 5 6), (0, u "java/lang/Record"), (0, u "<init>"), (0, u "()V"), (0, .fieldref 8 9), (0, .class_ 10), (0, .nameAndType 11 12), (0, u "com/example/if_unchanged/ifunchanged/Turns$HeldLease"), (0, u "token"), (0, u "J"), (0, .fieldref 8 14), (0, .nameAndType 15 16), (0, u "writes"), (0, u "I"), (0, .methodref 8 18), (0, .nameAndType 5 19), (0, u "(JI)V"), (17, u "served"), (0, u "()Lcom/example/if_unchanged/ifunchanged/Turns$HeldLease;"), (0, u "passable"), (0, u "()Z"), (8, .class_ 50), (0, u "com/example/if_unchanged/ifunchanged/Turns")] 20

def k3c0 : Code := { maxStack := 3, maxLocals := 4, code := prog_14_method_1_code, exceptionTable := #[], attributes := #[] }
def k3m0 : Method := { name := "<init>", desc := "(JI)V", sig := { parameters := [.long, .int], returnType := none }, accessFlags := 0, code := some k3c0 }
def k3c1 : Code := { maxStack := 6, maxLocals := 1, code := prog_14_method_2_code, exceptionTable := #[], attributes := #[] }
def k3m1 : Method := { name := "served", desc := "()Lcom/example/if_unchanged/ifunchanged/Turns$HeldLease;", sig := { parameters := [], returnType := some (.object "com/example/if_unchanged/ifunchanged/Turns$HeldLease") }, accessFlags := 0, code := some k3c1 }
def k3c2 : Code := { maxStack := 2, maxLocals := 1, code := prog_14_method_3_code, exceptionTable := #[], attributes := #[] }
def k3m2 : Method := { name := "passable", desc := "()Z", sig := { parameters := [], returnType := some .boolean }, accessFlags := 0, code := some k3c2 }
/-- com/example/if_unchanged/ifunchanged/Turns$HeldLease -/
def k3 : Class := { plain "com/example/if_unchanged/ifunchanged/Turns$HeldLease" (some 2) with
  accessFlags := 48
  interfaces := #[]
  cf := some (fileOf pool3 8 #[.nestHost 49] #[{ accessFlags := 0, nameIndex := 5, descriptorIndex := 19, attributes := #[] }, { accessFlags := 0, nameIndex := 37, descriptorIndex := 38, attributes := #[] }, { accessFlags := 0, nameIndex := 39, descriptorIndex := 40, attributes := #[] }] 48 2 #[] #[{ accessFlags := 18, nameIndex := 11, descriptorIndex := 12, attributes := #[] }, { accessFlags := 18, nameIndex := 15, descriptorIndex := 16, attributes := #[] }])
  fields := #[{ name := "token", type := .long, accessFlags := 18, slot := 0, constantValue := 0 }, { name := "writes", type := .int, accessFlags := 18, slot := 1, constantValue := 0 }]
  methods := #[k3m0, k3m1, k3m2]
  instanceTypes := #[.long, .int]
  staticTypes := #[]
  resolved := Array.replicate 71 none
  statics := none }

def pool4 : Array CpInfo := pool [(1, u "java/lang/Cloneable"), (0, .class_ 1), (0, u "java/lang/Object"), (0, .class_ 3)] 3

/-- java/lang/Cloneable -/
def k4 : Class := { plain "java/lang/Cloneable" (some 0) with
  accessFlags := 1537
  interfaces := #[]
  cf := some (fileOf pool4 2 #[] #[] 1537 4 #[] #[])
  fields := #[]
  methods := #[]
  instanceTypes := #[]
  staticTypes := #[]
  resolved := Array.replicate 8 none
  statics := none }

def pool5 : Array CpInfo := pool [(1, u "java/io/Serializable"), (0, .class_ 1), (0, u "java/lang/Object"), (0, .class_ 3)] 3

/-- java/io/Serializable -/
def k5 : Class := { plain "java/io/Serializable" (some 0) with
  accessFlags := 1537
  interfaces := #[]
  cf := some (fileOf pool5 2 #[] #[] 1537 4 #[] #[])
  fields := #[]
  methods := #[]
  instanceTypes := #[]
  staticTypes := #[]
  resolved := Array.replicate 8 none
  statics := none }

/-- the primitive byte -/
def k6 : Class := { plain "byte" none with kind := .primitive 'B', accessFlags := 0x411 }
/-- [B -/
def k7 : Class := { plain "[B" (some 0) with kind := .array 6 .byte, interfaces := #[4, 5], accessFlags := 1041 }

/-- the primitive int -/
def k8 : Class := { plain "int" none with kind := .primitive 'I', accessFlags := 0x411 }
/-- [I -/
def k9 : Class := { plain "[I" (some 0) with kind := .array 8 .int, interfaces := #[4, 5], accessFlags := 1041 }

def heap : Heap := #[]
def classes : Array Class := #[k0, k1, k2, k3, k4, k5, k6, k7, k8, k9]
def interned : List (Array UInt16 × Addr) := []
def slotsUsed : Nat := 0
def theMethod : MethodId := ⟨1, 1⟩
def args0 : Array Value := #[.long 5, .int 6, .long 7]
def aboutOver (below : List Frame) : State where
  vm := { classes := classes, interned := interned.toArray }
  heap := heap
  slotsUsed := slotsUsed
  threads := #[{ frames := .invoking theMethod args0 :: below }]
def below0 : List Frame := [.native { method := ⟨0, 0⟩, args := #[] }]
def about1 : State := aboutOver below0
def p0 : Program := .bare "" "" ""
def e0 : Env := launch0.env 0 0 0
theorem w_frames : about1.frames = Frame.invoking theMethod args0 :: below0 := rfl
set_option maxRecDepth 65536 in
theorem w_args : argsFit about1.vm theMethod args0 = true := by decide +kernel
set_option maxRecDepth 65536 in
theorem w_heap : heapFits about1 = true := by decide +kernel
set_option maxRecDepth 65536 in
theorem w_runnable : about1.curStatus? = some .runnable := by decide +kernel
set_option maxRecDepth 65536 in
theorem w_alone : about1.alone = true := by decide +kernel
set_option maxRecDepth 65536 in
theorem w_named : about1.methodNamed? x = some theMethod := by decide +kernel
set_option maxRecDepth 65536 in
theorem w_hears : about1.hears theMethod below0 = true := by decide +kernel
set_option maxRecDepth 65536 in
theorem w_ripe : about1.ripe theMethod args0 below0 = true := by decide +kernel
theorem w_running : about1.status = .running := rfl
set_option maxRecDepth 65536 in
theorem w_room : about1.hasRoom e0.platform room_1 = true :=
  launch0.hasRoom_least _ room_1 (by decide +kernel) (by decide +kernel) (by decide +kernel) (by decide +kernel) (by decide +kernel) (by decide +kernel)
theorem allAtoms_all (ts : List Jvm.Cond) (a : Array Jvm.Value) (st : Jvm.State) : (allAtoms ts).before a st = ts.all (fun c => c.before a st) := by
  induction ts with
  | nil => rfl
  | cons c t ih =>
    show (Jvm.Cond.and c (allAtoms t)).before a st = _
    rw [Jvm.Cond.before_and, ih, List.all_cons]
def words1 : List Jvm.Cond := Jvm.Cond.code x code maxLocals ret :: tables_1
/-- a 'code' word, met by the world's own term for the bytes: nothing is compared byte by byte -/
theorem code_word {y : MethodName} {bytes : ByteArray} {mx : Nat} {rt : Option FieldType} {a : Array Value} {s : State} {m : MethodId} {meth : Method} {c : Code} (h1 : s.methodNamed? y = some m) (h2 : s.vm.method? m = some meth) (h3 : meth.code = some c) (h4 : c.code = bytes)
    (h5 : (c.maxLocals == mx && c.exceptionTable.isEmpty && decide (c.maxStack ≤ mostOperands) && decide (meth.sig.returnType = rt) && !meth.locks && decide (parseMethodDescriptor y.desc = some meth.sig)) = true) : (Jvm.Cond.code y bytes mx rt).before a s = true := by
  simp only [Bool.and_eq_true, beq_iff_eq, Bool.not_eq_true', decide_eq_true_eq] at h5
  obtain ⟨⟨⟨⟨⟨g1, g2⟩, g3⟩, g4⟩, g5⟩, g6⟩ := h5
  simp [Cond.before, Cond.holds, Cond.value, h1, h2, h3, h4, g1, g2, g3, g4, g5, g6]
def isCode : Jvm.Cond → Bool
  | .code _ _ _ _ => true
  | _ => false
theorem all_split {L : List Jvm.Cond} {P : Jvm.Cond → Bool} (h1 : L.all (fun c => isCode c || P c) = true) (h2 : ∀ c ∈ L.filter isCode, P c = true) : L.all P = true := by
  refine List.all_eq_true.mpr fun c hc => ?_
  have h := List.all_eq_true.mp h1 c hc
  rcases Bool.eq_false_or_eq_true (isCode c) with hi | hi
  · exact h2 c (List.mem_filter.mpr ⟨hc, hi⟩)
  · simpa [hi] using h
set_option maxRecDepth 65536 in
theorem w_c0 : (Jvm.Cond.code x code maxLocals ret).before args0 about1 = true := code_word (m := ⟨1, 1⟩) (meth := k1m1) (c := k1c1) (by decide +kernel) rfl rfl rfl (by decide +kernel)
set_option maxRecDepth 65536 in
theorem w_c1 : (Jvm.Cond.code ({ cls := "com/example/if_unchanged/ifunchanged/Turns$HeldLease", name := "<init>", desc := "(JI)V" } : Jvm.MethodName) prog_14_method_1_code (4 : Nat) (Option.none : Option Jvm.ClassFile.FieldType)).before args0 about1 = true := code_word (m := ⟨3, 0⟩) (meth := k3m0) (c := k3c0) (by decide +kernel) rfl rfl rfl (by decide +kernel)
set_option maxRecDepth 65536 in
theorem w_c2 : (Jvm.Cond.code ({ cls := "java/lang/Record", name := "<init>", desc := "()V" } : Jvm.MethodName) jdk_30_method_1_code (1 : Nat) (Option.none : Option Jvm.ClassFile.FieldType)).before args0 about1 = true := code_word (m := ⟨2, 0⟩) (meth := k2m0) (c := k2c0) (by decide +kernel) rfl rfl rfl (by decide +kernel)
set_option maxRecDepth 65536 in
theorem w_c3 : (Jvm.Cond.code ({ cls := "java/lang/Object", name := "<init>", desc := "()V" } : Jvm.MethodName) object_method_1_code (1 : Nat) (Option.none : Option Jvm.ClassFile.FieldType)).before args0 about1 = true := code_word (m := ⟨0, 0⟩) (meth := k0m0) (c := k0c0) (by decide +kernel) rfl rfl rfl (by decide +kernel)
set_option maxRecDepth 65536 in
theorem w_c4 : (Jvm.Cond.code ({ cls := "com/example/if_unchanged/ifunchanged/Turns$HeldLease", name := "passable", desc := "()Z" } : Jvm.MethodName) prog_14_method_3_code (1 : Nat) (Option.some Jvm.ClassFile.FieldType.boolean)).before args0 about1 = true := code_word (m := ⟨3, 2⟩) (meth := k3m2) (c := k3c2) (by decide +kernel) rfl rfl rfl (by decide +kernel)
set_option maxRecDepth 65536 in
theorem w_c5 : (Jvm.Cond.code ({ cls := "com/example/if_unchanged/ifunchanged/Turns$HeldLease", name := "served", desc := "()Lcom/example/if_unchanged/ifunchanged/Turns$HeldLease;" } : Jvm.MethodName) prog_14_method_2_code (1 : Nat) (Option.some (Jvm.ClassFile.FieldType.object "com/example/if_unchanged/ifunchanged/Turns$HeldLease"))).before args0 about1 = true := code_word (m := ⟨3, 1⟩) (meth := k3m1) (c := k3c1) (by decide +kernel) rfl rfl rfl (by decide +kernel)
def codes1 : List Jvm.Cond := [Jvm.Cond.code x code maxLocals ret, Jvm.Cond.code ({ cls := "com/example/if_unchanged/ifunchanged/Turns$HeldLease", name := "<init>", desc := "(JI)V" } : Jvm.MethodName) prog_14_method_1_code (4 : Nat) (Option.none : Option Jvm.ClassFile.FieldType), Jvm.Cond.code ({ cls := "java/lang/Record", name := "<init>", desc := "()V" } : Jvm.MethodName) jdk_30_method_1_code (1 : Nat) (Option.none : Option Jvm.ClassFile.FieldType), Jvm.Cond.code ({ cls := "java/lang/Object", name := "<init>", desc := "()V" } : Jvm.MethodName) object_method_1_code (1 : Nat) (Option.none : Option Jvm.ClassFile.FieldType), Jvm.Cond.code ({ cls := "com/example/if_unchanged/ifunchanged/Turns$HeldLease", name := "passable", desc := "()Z" } : Jvm.MethodName) prog_14_method_3_code (1 : Nat) (Option.some Jvm.ClassFile.FieldType.boolean), Jvm.Cond.code ({ cls := "com/example/if_unchanged/ifunchanged/Turns$HeldLease", name := "served", desc := "()Lcom/example/if_unchanged/ifunchanged/Turns$HeldLease;" } : Jvm.MethodName) prog_14_method_2_code (1 : Nat) (Option.some (Jvm.ClassFile.FieldType.object "com/example/if_unchanged/ifunchanged/Turns$HeldLease"))]
set_option maxRecDepth 65536 in
theorem codes_eq : words1.filter isCode = codes1 := rfl
theorem w_codes : ∀ c ∈ words1.filter isCode, c.before args0 about1 = true := by
  rw [codes_eq]
  intro c hc
  simp only [codes1, List.mem_cons, List.not_mem_nil, or_false] at hc
  rcases hc with rfl | rfl | rfl | rfl | rfl | rfl
  · exact w_c0
  · exact w_c1
  · exact w_c2
  · exact w_c3
  · exact w_c4
  · exact w_c5
set_option maxRecDepth 65536 in
theorem w_t1 : (words1.take 24).all (fun c => isCode c || c.before args0 about1) = true := by decide +kernel
set_option maxRecDepth 65536 in
theorem w_t2 : (words1.drop 24).all (fun c => isCode c || c.before args0 about1) = true := by decide +kernel
theorem w_tables : (allAtoms (Jvm.Cond.code x code maxLocals ret :: tables_1)).before args0 about1 = true := by
  rw [allAtoms_all]
  show words1.all (fun c => c.before args0 about1) = true
  refine all_split ?_ w_codes
  rw [← List.take_append_drop 24 words1, List.all_append, w_t1, w_t2]
  rfl
set_option maxRecDepth 65536 in
theorem w_case : (Jvm.Cond.and given_1 narrow_1).before args0 about1 = true := by decide +kernel
theorem w_applies : (headSpec (Jvm.Cond.code x code maxLocals ret :: tables_1) room_1).applies x e0.platform about1 = true :=
  (Spec.applies_iff w_frames).mpr ⟨w_running, w_runnable, w_alone, w_named, w_hears, w_ripe, w_room, w_tables⟩
theorem atStart : AtStart classFile x code maxLocals ret World_1 tables_1 room_1 Calls_1 rest_1 Pre_1 launch0 p0 e0 about1 theMethod args0 below0 :=
  ⟨lists_1, trivial, launch0.admits_env _ _ _, launch0.least_env, fairChoices_fair.cas, fairChoices_fair.clock, w_frames, w_args, w_heap, w_applies, trivial, trivial, w_case⟩
end start1
theorem witness_1 : WitnessClaimed_1 := ⟨start1.p0, start1.e0, start1.about1, start1.theMethod, start1.args0, start1.below0, start1.atStart⟩
end Jvm.Pilot.@@N@@
