import JvmDerived
import JvmDerived.Pilot.@@N@@Statement
import JvmDerived.Pilot.@@N@@Code
set_option linter.unusedVariables false
set_option linter.unusedSimpArgs false
@@BLOCK:NumsL.lean.txt@@
namespace Jvm.RoadKit
open Sem ClassFile Op Lib Jvm.Stand Jvm.Free Jvm.LawKit
section New
variable {p : Program} {l : Launch} {e : Env} {R : Room} {s : State} {m : MethodId} {args : Array Value} {below : List Frame} {meth : Method} {c : Code} {T : State} {locs : List Loc} {cells slots : Nat}
theorem retI (X : Stand p l e R s m args below meth c T locs cells slots) (hx : p.tables.exec = Jvm.exec) {pc : Nat} {Ls : Array Slot} {z : Int32} {rest : List Value} (hret : meth.sig.returnType = some .int) (hd : decode c.code pc = .ok (.ireturn, 1)) {fs : List Frame}
    (hl : ∀ (f : JFrame) (acts : List Action), f.method = m → f.locked = none → f.entered = [] → (doReturn e (T.setTop f) acts (some (.int z))).1 = T.setFrames fs) : Steps p.tables e below (T.setTop (mkF m pc Ls (.int z :: rest))) (T.setFrames fs) := by
  have hm' : T.vm.method? m = some meth := X.method'
  have hn : narrow .int (.int z) = .int z := rfl
  show Steps p.tables e below (T.setTop { method := m, pc := pc, locals := Ls, stack := _ :: rest, locked := none }) _
  jvm_step X.here [X.here.top, hx, hd, hm', hret, hn]
  first | (intro acts; rw [hl _ acts rfl rfl rfl]) | rw [hl _ _ rfl rfl rfl]
  exact Steps.refl _
end New
end Jvm.RoadKit
namespace Jvm.Pilot.@@N@@
open Jvm Jvm.ClassFile Sem Op Lib Jvm.Free Jvm.Stand Jvm.LawKit Jvm.RoadKit Bundle Jvm.Pilot.@@N@@.Jvm.D
/-- from F on the run comes to the method's end, and K holds there -/
def own_Go (tb : Tables) (e : Env) (below : List Frame) (F : State) (K : Outcome → State → Prop) : Prop := ∃ t o, Steps tb e below F t ∧ t.status = .running ∧ Ended t below o ∧ K o t
theorem own_via {tb : Tables} {e : Env} {below : List Frame} {F G : State} {K : Outcome → State → Prop} (h : ∀ t, Steps tb e below G t → Steps tb e below F t) (k : own_Go tb e below G K) : own_Go tb e below F K := by
  obtain ⟨t, o, h1, h2⟩ := k
  exact ⟨t, o, h t h1, h2⟩
/-- what is asked at the end: it has returned, Q holds of the value, the heap and what was written -/
def own_K (s : State) (Q : Option Value → Heap → List Loc → Prop) (kc ks : Nat) (o : Outcome) (t : State) : Prop := ∃ v L, o = .returned v ∧ Q v t.heap L ∧ FrameEnd s o t L kc ks
/-- what a walk knows of its method all along -/
def own_C (p : Program) (s : State) (m : MethodId) (meth : Method) (c : Code) (Z : State) (a0 : Array Value) (bytes : ByteArray) (ml : Nat) (cls : String) (rt : Option FieldType) (nme : String) : Prop :=
  p.tables.exec = Jvm.exec ∧ Z.Warmed39 s.vm ∧ (∀ d ∈ tables_1, d.before a0 Z = true) ∧ c.code = bytes ∧ c.maxLocals = ml ∧ s.vm.findClass cls = some m.cls ∧ meth.sig.returnType = rt ∧ meth.locks = false ∧ meth.name = nme
theorem own_fin {p : Program} {l : Launch} {e : Env} {R : Room} {s : State} {m : MethodId} {args : Array Value} {below : List Frame} {meth : Method} {c : Code} {T : State} {locs : List Loc} {cells slots : Nat} (X : Stand p l e R s m args below meth c T locs cells slots) {F : State} {h : Heap} (eh : T.heap = h) {v : Option Value} {Q : Option Value → Heap → List Loc → Prop} {kc ks : Nat} (hv : meth.sig.returnType = none → v = none) (hlk : meth.locks = false)
    (hstep : ∀ fs, (∀ (f : JFrame) (acts : List Action), f.method = m → f.locked = none → f.entered = [] → (doReturn e (T.setTop f) acts v).1 = T.setFrames fs) → Steps p.tables e below F (T.setFrames fs)) (q : Q v h locs) (hc : cells ≤ kc) (hs : slots ≤ ks) : own_Go p.tables e below F (own_K s Q kc ks) := by
  obtain ⟨fs, hr, hrun, hended, hW, hsame⟩ := X.leave (v := v) hv hlk
  subst eh
  exact ⟨_, _, hstep fs hr, hrun, hended, _, _, rfl, q, ⟨_, rfl⟩, hW, hsame.mono hc hs⟩
theorem own_len {p : Program} {l : Launch} {e : Env} {R : Room} {s : State} {m : MethodId} {args : Array Value} {below : List Frame} {meth : Method} {c : Code} {T : State} {locs : List Loc} {cells slots : Nat} {Z : State} {h : Heap} (X : Stand p l e R s m args below meth c T locs cells slots) (hx : p.tables.exec = Jvm.exec) (hZ : Z.Warmed39 s.vm) (eT : T.heap = h) {a : Addr} {cl : Cell} {ty : FieldType} {n : Int32} (A : Arr Z h a cl ty) (S : cl.slots.size = n.toNatClampNeg) (N : ¬ n < 0)
    {g : JFrame} (hg : g.method = m) {rest : List Value} (hs : g.stack = .ref a :: rest) (hd : decode c.code g.pc = .ok (.arraylength, 1)) {t : State} (k : Steps p.tables e below (T.setTop { g with pc := g.pc + 1, stack := .int n :: rest }) t) : Steps p.tables e below (T.setTop g) t := by
  refine X.arraylength hx (by rw [eT]; exact A.1) (State.isArrayOf_alike hZ.alike A.2.1) hg hs hd _ ?_
  rw [len_of S N]
  exact k
def own_sh (z : Int64) (k : Int32) : Int64 := z ^^^ XT.ushrL z k
def own_un (z : Int64) (k j : Int32) : Int64 := (z ^^^ XT.ushrL z k) ^^^ XT.ushrL z j
def own_nw (c x : Int64) : Int64 := x * ((2 : Int64) - c * x)
def own_inv (c : Int64) : Int64 := own_nw c (own_nw c (own_nw c (own_nw c (own_nw c c))))
def own_mix (z : Int64) : Int64 := own_sh (own_sh (own_sh z 30 * (-4658895280553007687 : Int64)) 27 * (-7723592293110705685 : Int64)) 31
def own_unmix (z : Int64) : Int64 := own_un (own_un (own_un z 31 62 * own_inv (-7723592293110705685 : Int64)) 27 54 * own_inv (-4658895280553007687 : Int64)) 30 60
theorem own_bits (z : Int64) (k : Int32) (n : Nat) (h : (k.toInt64.toUInt64 &&& Int64.toUInt64 63).toBitVec % 64 = BitVec.ofNat 64 n) (hn : n < 64) : (XT.ushrL z k).toBitVec = z.toBitVec >>> n := by
  show z.toBitVec >>> ((k.toInt64.toUInt64 &&& Int64.toUInt64 63).toBitVec % 64) = _
  rw [h, BitVec.ushiftRight_eq']
  congr 1
  simp; omega
theorem own_undo (z : Int64) (k j : Int32) (n : Nat) (hk : (k.toInt64.toUInt64 &&& Int64.toUInt64 63).toBitVec % 64 = BitVec.ofNat 64 n) (hj : (j.toInt64.toUInt64 &&& Int64.toUInt64 63).toBitVec % 64 = BitVec.ofNat 64 (2 * n)) (h1 : 2 * n < 64) (h2 : 64 ≤ 3 * n) : own_un (own_sh z k) k j = z := by
  apply Int64.toBitVec_inj.mp
  unfold own_un own_sh
  rw [Int64.toBitVec_xor, Int64.toBitVec_xor, own_bits _ k n hk (by omega), own_bits _ j (2 * n) hj (by omega), Int64.toBitVec_xor, own_bits _ k n hk (by omega)]
  apply BitVec.eq_of_getLsbD_eq
  intro i hi
  simp only [BitVec.getLsbD_xor, BitVec.getLsbD_ushiftRight]
  have e1 : n + (n + i) = 2 * n + i := by omega
  have e2 : z.toBitVec.getLsbD (n + (2 * n + i)) = false := BitVec.getLsbD_of_ge _ _ (by omega)
  rw [e1, e2]
  cases z.toBitVec.getLsbD i <;> cases z.toBitVec.getLsbD (n + i) <;> cases z.toBitVec.getLsbD (2 * n + i) <;> rfl
theorem own_back (z : Int64) : own_unmix (own_mix z) = z := by
  have i1 : (-4658895280553007687 : Int64) * own_inv (-4658895280553007687 : Int64) = 1 := by decide +kernel
  have i2 : (-7723592293110705685 : Int64) * own_inv (-7723592293110705685 : Int64) = 1 := by decide +kernel
  unfold own_unmix own_mix
  rw [own_undo _ 31 62 31 (by decide +kernel) (by decide +kernel) (by decide) (by decide), Int64.mul_assoc, i2, Int64.mul_one, own_undo _ 27 54 27 (by decide +kernel) (by decide +kernel) (by decide) (by decide), Int64.mul_assoc, i1, Int64.mul_one, own_undo _ 30 60 30 (by decide +kernel) (by decide +kernel) (by decide) (by decide)]
def Q1 (Z : State) (o1 : Addr) (q1 : Int64) (u1 : Int64) (h0 : Heap) (n0 : Nat) (v : Option Value) (h : Heap) (L : List Loc) : Prop := v = none ∧ Fr n0 L ∧ Keep h0 h [o1] ∧ Exa Z h o1 "com/example/glar/glar/generator/SplitMix" ∧ Fld Z h o1 "com/example/glar/glar/generator/SplitMix" "state" "J" (.long q1)
theorem d1_0 : decode prog_17_method_1_code 0 = .ok (.aload_n 0, 1) := by decide +kernel
theorem d1_1 : decode prog_17_method_1_code 1 = .ok (.invokespecial 1, 3) := by decide +kernel
theorem d1_4 : decode prog_17_method_1_code 4 = .ok (.aload_n 0, 1) := by decide +kernel
theorem d1_5 : decode prog_17_method_1_code 5 = .ok (.lload_n 1, 1) := by decide +kernel
theorem d1_6 : decode prog_17_method_1_code 6 = .ok (.putfield 7, 3) := by decide +kernel
theorem d1_9 : decode prog_17_method_1_code 9 = .ok (.return_, 1) := by decide +kernel
set_option maxRecDepth 65536 in
set_option maxHeartbeats 40000000 in
theorem b1 {p : Program} {l : Launch} {e : Env} {s : State} {m : MethodId} {args : Array Value} {below : List Frame} {meth : Method} {c : Code} {T0 : State} {locs : List Loc} {Z : State} {a0 : Array Value} {h0 : Heap} {n0 : Nat} (o1 : Addr) (q1 : Int64) (u1 : Int64)
    (C : own_C p s m meth c Z a0 prog_17_method_1_code 3 "com/example/glar/glar/generator/SplitMix" none "<init>") (X0 : Stand p l e ({ frames := 1, cells := 0, slots := 0, locals := 12 } : Room) s m args below meth c T0 locs 0 0) (e0 : T0.heap = h0) (Z0 : n0 ≤ h0.size) (N0 : Fr n0 locs) (F1 : Fld Z h0 o1 "com/example/glar/glar/generator/SplitMix" "state" "J" (.long u1)) (E1 : Exa Z h0 o1 "com/example/glar/glar/generator/SplitMix") (g_o1 : n0 ≤ o1) :
    own_Go p.tables e below (T0.setTop (mkF m 0 #[.val (.ref o1), .val (.long q1), .second] [])) (own_K s (fun v h L => Q1 Z o1 q1 u1 h0 n0 v h L) ({ frames := 1, cells := 0, slots := 0, locals := 12 } : Room).cells ({ frames := 1, cells := 0, slots := 0, locals := 12 } : Room).slots) := by
  obtain ⟨hx, hZ, hw, hby, hml, hown, hret, hlk, hnm⟩ := C
  refine own_via (G := T0.setTop (mkF m 1 #[.val (.ref o1), .val (.long q1), .second] [(.ref o1)])) (fun t k => XS.aloadN X0.here hx rfl (hb hby d1_0) rfl rfl k) ?_
  obtain ⟨T1, X1, e1, st1⟩ := initO X0 hx hZ hown (hw _ (List.mem_of_getElem? (i := 6) rfl)) (hw _ (List.mem_of_getElem? (i := 7) rfl)) (hw _ (List.mem_of_getElem? (i := 8) rfl)) e0 (g := (mkF m 1 #[.val (.ref o1), .val (.long q1), .second] [(.ref o1)])) rfl (by rw [hml]; rfl) rfl (hb hby d1_1) (by decide) (W := 0) (by show 2 * 0 + _ ≤ _; exact Nat.le_of_eq rfl) (by decide)
  refine own_via (G := T1.setTop (mkF m 4 #[.val (.ref o1), .val (.long q1), .second] [])) (fun t k => st1 t k) ?_
  refine own_via (G := T1.setTop (mkF m 5 #[.val (.ref o1), .val (.long q1), .second] [(.ref o1)])) (fun t k => XS.aloadN X1.here hx rfl (hb hby d1_4) rfl rfl k) ?_
  refine own_via (G := T1.setTop (mkF m 6 #[.val (.ref o1), .val (.long q1), .second] [(.long q1), (.ref o1)])) (fun t k => XT.lloadN X1.here hx rfl (hb hby d1_5) rfl k) ?_
  obtain ⟨T2, h2, X2, e2, W2, st2⟩ := putF X1 hx hZ hown (host := "") (Or.inl (hw _ (List.mem_of_getElem? (i := 9) rfl))) Via.refl e1 F1 E1 (Or.inl (hw _ (List.mem_of_getElem? (i := 10) rfl))) (hw _ (List.mem_of_getElem? (i := 1) rfl)) (ty := .long) (by decide) rfl rfl (g := (mkF m 6 #[.val (.ref o1), .val (.long q1), .second] [(.long q1), (.ref o1)])) rfl rfl (hb hby d1_6)
  have F1'2 := F1.same W2
  have E1'2 := E1.wr W2
  have N2 := Fr.snoc X2 N0 g_o1
  have Z2 : n0 ≤ h2.size := Nat.le_trans Z0 (Keep.of_wr W2).1
  have K2 := ((Keep.refl h0 [o1])).wr W2 (Or.inl (List.mem_of_getElem? (i := 0) rfl))
  refine own_via (G := T2.setTop (mkF m 9 #[.val (.ref o1), .val (.long q1), .second] [])) (fun t k => st2 t k) ?_
  exact own_fin X2 e2 (v := none) (fun _ => rfl) hlk (fun fs hr => X2.returnOut hx hret (hb hby d1_9) hr) (show ((fun v h L => Q1 Z o1 q1 u1 h0 n0 v h L)) none h2 _ from ⟨rfl, N2, K2, (E1'2), (F1'2)⟩) (by decide) (by decide)
theorem pn_0 : plainName "com/example/glar/glar/generator/SplitMix" = true := by first | (simp [plainName, overriddenIn]; done) | decide +kernel
theorem ef_1 (m : MethodId) (o1 : Addr) (q1 : Int64) : entryFrame m #[(.ref o1), (.long q1)] 3 = mkF m 0 #[.val (.ref o1), .val (.long q1), .second] [] := by first | (simp [entryFrame, mkF, argsToLocals, Value.category, maxLocals]; done) | rfl
set_option maxRecDepth 65536 in
set_option maxHeartbeats 40000000 in
theorem rm1 (l : Launch) (Z : State) (a0 : Array Value) (hw : ∀ d ∈ tables_1, d.before a0 Z = true) (ws : List Jvm.Cond) (o1 : Addr) (q1 : Int64) (u1 : Int64) (h0 : Heap) (n0 : Nat) (Z0 : n0 ≤ h0.size) (F1 : Fld Z h0 o1 "com/example/glar/glar/generator/SplitMix" "state" "J" (.long u1)) (E1 : Exa Z h0 o1 "com/example/glar/glar/generator/SplitMix") (g_o1 : n0 ≤ o1) :
    MetFree l (⟨"com/example/glar/glar/generator/SplitMix", "<init>", "(J)V"⟩ : MethodName) (head1 (Jvm.Cond.code (⟨"com/example/glar/glar/generator/SplitMix", "<init>", "(J)V"⟩ : MethodName) prog_17_method_1_code 3 none :: ws) ({ frames := 1, cells := 0, slots := 0, locals := 12 } : Room)) (fun a U => a = #[(.ref o1), (.long q1)] ∧ Z.Warmed39 U.vm ∧ U.heap = h0) (fun _ _ _ _ _ => True) (fun _ U o U' => ∃ v L, o = .returned v ∧ Q1 Z o1 q1 u1 h0 n0 v U'.heap L ∧ FrameEnd U o U' L ({ frames := 1, cells := 0, slots := 0, locals := 12 } : Room).cells ({ frames := 1, cells := 0, slots := 0, locals := 12 } : Room).slots) := by
  refine MetFree.of_bodySF (plainFor_of_name pn_0) hisR ?_
  intro p e s m args below meth c s₁ Bd hml0 hP hK
  obtain ⟨rfl, hZ, hh⟩ := hP
  have e0 : s₁.heap = h0 := by rw [← hh, Bd.state]; rfl
  rw [ef_1 m o1 q1]
  exact b1 o1 q1 u1 ⟨Bd.exec, hZ, hw, Bd.bytes, hml0, findClass_of_methodNamed Bd.named, Bd.returns, Bd.notSynchronized, (name_of_methodNamed Bd.named Bd.method).1⟩ (Stand.of_body Bd) e0 Z0 (Fr.nil n0) F1 E1 g_o1
def Q3 (Z : State) (o1 : Addr) (u1 : Int64) (h0 : Heap) (n0 : Nat) (v : Option Value) (h : Heap) (L : List Loc) : Prop := v = some (.long (own_mix (u1 + (-7046029254386353131 : Int64)))) ∧ Fr n0 L ∧ Keep h0 h [o1] ∧ Exa Z h o1 "com/example/glar/glar/generator/SplitMix" ∧ Fld Z h o1 "com/example/glar/glar/generator/SplitMix" "state" "J" (.long (u1 + (-7046029254386353131 : Int64)))
theorem d3_0 : decode prog_17_method_2_code 0 = .ok (.aload_n 0, 1) := by decide +kernel
theorem d3_1 : decode prog_17_method_2_code 1 = .ok (.dup, 1) := by decide +kernel
theorem d3_2 : decode prog_17_method_2_code 2 = .ok (.getfield 7, 3) := by decide +kernel
theorem d3_5 : decode prog_17_method_2_code 5 = .ok (.ldc2_w 13, 3) := by decide +kernel
theorem d3_8 : decode prog_17_method_2_code 8 = .ok (.ladd, 1) := by decide +kernel
theorem d3_9 : decode prog_17_method_2_code 9 = .ok (.putfield 7, 3) := by decide +kernel
theorem d3_12 : decode prog_17_method_2_code 12 = .ok (.aload_n 0, 1) := by decide +kernel
theorem d3_13 : decode prog_17_method_2_code 13 = .ok (.getfield 7, 3) := by decide +kernel
theorem d3_16 : decode prog_17_method_2_code 16 = .ok (.lstore_n 1, 1) := by decide +kernel
theorem d3_17 : decode prog_17_method_2_code 17 = .ok (.lload_n 1, 1) := by decide +kernel
theorem d3_18 : decode prog_17_method_2_code 18 = .ok (.lload_n 1, 1) := by decide +kernel
theorem d3_19 : decode prog_17_method_2_code 19 = .ok (.bipush 30, 2) := by decide +kernel
theorem d3_21 : decode prog_17_method_2_code 21 = .ok (.lushr, 1) := by decide +kernel
theorem d3_22 : decode prog_17_method_2_code 22 = .ok (.lxor, 1) := by decide +kernel
theorem d3_23 : decode prog_17_method_2_code 23 = .ok (.ldc2_w 15, 3) := by decide +kernel
theorem d3_26 : decode prog_17_method_2_code 26 = .ok (.lmul, 1) := by decide +kernel
theorem d3_27 : decode prog_17_method_2_code 27 = .ok (.lstore_n 1, 1) := by decide +kernel
theorem d3_28 : decode prog_17_method_2_code 28 = .ok (.lload_n 1, 1) := by decide +kernel
theorem d3_29 : decode prog_17_method_2_code 29 = .ok (.lload_n 1, 1) := by decide +kernel
theorem d3_30 : decode prog_17_method_2_code 30 = .ok (.bipush 27, 2) := by decide +kernel
theorem d3_32 : decode prog_17_method_2_code 32 = .ok (.lushr, 1) := by decide +kernel
theorem d3_33 : decode prog_17_method_2_code 33 = .ok (.lxor, 1) := by decide +kernel
theorem d3_34 : decode prog_17_method_2_code 34 = .ok (.ldc2_w 17, 3) := by decide +kernel
theorem d3_37 : decode prog_17_method_2_code 37 = .ok (.lmul, 1) := by decide +kernel
theorem d3_38 : decode prog_17_method_2_code 38 = .ok (.lstore_n 1, 1) := by decide +kernel
theorem d3_39 : decode prog_17_method_2_code 39 = .ok (.lload_n 1, 1) := by decide +kernel
theorem d3_40 : decode prog_17_method_2_code 40 = .ok (.lload_n 1, 1) := by decide +kernel
theorem d3_41 : decode prog_17_method_2_code 41 = .ok (.bipush 31, 2) := by decide +kernel
theorem d3_43 : decode prog_17_method_2_code 43 = .ok (.lushr, 1) := by decide +kernel
theorem d3_44 : decode prog_17_method_2_code 44 = .ok (.lxor, 1) := by decide +kernel
theorem d3_45 : decode prog_17_method_2_code 45 = .ok (.lreturn, 1) := by decide +kernel
set_option maxRecDepth 65536 in
set_option maxHeartbeats 40000000 in
theorem b3 {p : Program} {l : Launch} {e : Env} {s : State} {m : MethodId} {args : Array Value} {below : List Frame} {meth : Method} {c : Code} {T0 : State} {locs : List Loc} {Z : State} {a0 : Array Value} {h0 : Heap} {n0 : Nat} (o1 : Addr) (u1 : Int64)
    (C : own_C p s m meth c Z a0 prog_17_method_2_code 3 "com/example/glar/glar/generator/SplitMix" (some .long) "next") (X0 : Stand p l e ({ frames := 0, cells := 0, slots := 0, locals := 0 } : Room) s m args below meth c T0 locs 0 0) (e0 : T0.heap = h0) (Z0 : n0 ≤ h0.size) (N0 : Fr n0 locs) (F1 : Fld Z h0 o1 "com/example/glar/glar/generator/SplitMix" "state" "J" (.long u1)) (E1 : Exa Z h0 o1 "com/example/glar/glar/generator/SplitMix") (g_o1 : n0 ≤ o1) :
    own_Go p.tables e below (T0.setTop (mkF m 0 #[.val (.ref o1), .unset, .unset] [])) (own_K s (fun v h L => Q3 Z o1 u1 h0 n0 v h L) ({ frames := 0, cells := 0, slots := 0, locals := 0 } : Room).cells ({ frames := 0, cells := 0, slots := 0, locals := 0 } : Room).slots) := by
  obtain ⟨hx, hZ, hw, hby, hml, hown, hret, hlk, hnm⟩ := C
  refine own_via (G := T0.setTop (mkF m 1 #[.val (.ref o1), .unset, .unset] [(.ref o1)])) (fun t k => XS.aloadN X0.here hx rfl (hb hby d3_0) rfl rfl k) ?_
  refine own_via (G := T0.setTop (mkF m 2 #[.val (.ref o1), .unset, .unset] [(.ref o1), (.ref o1)])) (fun t k => XS.dup X0.here hx rfl (hb hby d3_1) rfl rfl k) ?_
  obtain ⟨T1, X1, e1, st1⟩ := getF X0 hx hZ hown (host := "") (Or.inl (hw _ (List.mem_of_getElem? (i := 9) rfl))) Via.refl e0 F1 (g := (mkF m 2 #[.val (.ref o1), .unset, .unset] [(.ref o1), (.ref o1)])) rfl rfl (hb hby d3_2)
  refine own_via (G := T1.setTop (mkF m 5 #[.val (.ref o1), .unset, .unset] [(.long u1), (.ref o1)])) (fun t k => st1 t k) ?_
  refine own_via (G := T1.setTop (mkF m 8 #[.val (.ref o1), .unset, .unset] [(.long (-7046029254386353131 : Int64)), (.long u1), (.ref o1)])) (fun t k => X1.ldc2J hx hown (mvT hZ (hw _ (List.mem_of_getElem? (i := 16) rfl))) (g := (mkF m 5 #[.val (.ref o1), .unset, .unset] [(.long u1), (.ref o1)])) rfl (hb hby d3_5) k) ?_
  refine own_via (G := T1.setTop (mkF m 9 #[.val (.ref o1), .unset, .unset] [(.long (u1 + (-7046029254386353131 : Int64))), (.ref o1)])) (fun t k => XT.ladd X1.here hx rfl (hb hby d3_8) rfl k) ?_
  obtain ⟨T2, h2, X2, e2, W2, st2⟩ := putF X1 hx hZ hown (host := "") (Or.inl (hw _ (List.mem_of_getElem? (i := 9) rfl))) Via.refl e1 F1 E1 (Or.inl (hw _ (List.mem_of_getElem? (i := 10) rfl))) (hw _ (List.mem_of_getElem? (i := 1) rfl)) (ty := .long) (by decide) rfl rfl (g := (mkF m 9 #[.val (.ref o1), .unset, .unset] [(.long (u1 + (-7046029254386353131 : Int64))), (.ref o1)])) rfl rfl (hb hby d3_9)
  have F1'2 := F1.same W2
  have E1'2 := E1.wr W2
  have N2 := Fr.snoc X2 N0 g_o1
  have Z2 : n0 ≤ h2.size := Nat.le_trans Z0 (Keep.of_wr W2).1
  have K2 := ((Keep.refl h0 [o1])).wr W2 (Or.inl (List.mem_of_getElem? (i := 0) rfl))
  refine own_via (G := T2.setTop (mkF m 12 #[.val (.ref o1), .unset, .unset] [])) (fun t k => st2 t k) ?_
  refine own_via (G := T2.setTop (mkF m 13 #[.val (.ref o1), .unset, .unset] [(.ref o1)])) (fun t k => XS.aloadN X2.here hx rfl (hb hby d3_12) rfl rfl k) ?_
  obtain ⟨T3, X3, e3, st3⟩ := getF X2 hx hZ hown (host := "") (Or.inl (hw _ (List.mem_of_getElem? (i := 9) rfl))) Via.refl e2 F1'2 (g := (mkF m 13 #[.val (.ref o1), .unset, .unset] [(.ref o1)])) rfl rfl (hb hby d3_13)
  refine own_via (G := T3.setTop (mkF m 16 #[.val (.ref o1), .unset, .unset] [(.long (u1 + (-7046029254386353131 : Int64)))])) (fun t k => st3 t k) ?_
  refine own_via (G := T3.setTop (mkF m 17 #[.val (.ref o1), .val (.long (u1 + (-7046029254386353131 : Int64))), .second] [])) (fun t k => XT.lstoreN X3.here hx rfl (hb hby d3_16) rfl (l' := #[.val (.ref o1), .val (.long (u1 + (-7046029254386353131 : Int64))), .second]) rfl k) ?_
  refine own_via (G := T3.setTop (mkF m 18 #[.val (.ref o1), .val (.long (u1 + (-7046029254386353131 : Int64))), .second] [(.long (u1 + (-7046029254386353131 : Int64)))])) (fun t k => XT.lloadN X3.here hx rfl (hb hby d3_17) rfl k) ?_
  refine own_via (G := T3.setTop (mkF m 19 #[.val (.ref o1), .val (.long (u1 + (-7046029254386353131 : Int64))), .second] [(.long (u1 + (-7046029254386353131 : Int64))), (.long (u1 + (-7046029254386353131 : Int64)))])) (fun t k => XT.lloadN X3.here hx rfl (hb hby d3_18) rfl k) ?_
  refine own_via (G := T3.setTop (mkF m 21 #[.val (.ref o1), .val (.long (u1 + (-7046029254386353131 : Int64))), .second] [(.int (30 : Int32)), (.long (u1 + (-7046029254386353131 : Int64))), (.long (u1 + (-7046029254386353131 : Int64)))])) (fun t k => XS.bipush X3.here hx rfl (hb hby d3_19) k) ?_
  refine own_via (G := T3.setTop (mkF m 22 #[.val (.ref o1), .val (.long (u1 + (-7046029254386353131 : Int64))), .second] [(.long (XT.ushrL (u1 + (-7046029254386353131 : Int64)) (30 : Int32))), (.long (u1 + (-7046029254386353131 : Int64)))])) (fun t k => XT.lushr X3.here hx rfl (hb hby d3_21) rfl k) ?_
  refine own_via (G := T3.setTop (mkF m 23 #[.val (.ref o1), .val (.long (u1 + (-7046029254386353131 : Int64))), .second] [(.long (own_sh (u1 + (-7046029254386353131 : Int64)) (30 : Int32)))])) (fun t k => XT.lxor X3.here hx rfl (hb hby d3_22) rfl k) ?_
  refine own_via (G := T3.setTop (mkF m 26 #[.val (.ref o1), .val (.long (u1 + (-7046029254386353131 : Int64))), .second] [(.long (-4658895280553007687 : Int64)), (.long (own_sh (u1 + (-7046029254386353131 : Int64)) (30 : Int32)))])) (fun t k => X3.ldc2J hx hown (mvT hZ (hw _ (List.mem_of_getElem? (i := 17) rfl))) (g := (mkF m 23 #[.val (.ref o1), .val (.long (u1 + (-7046029254386353131 : Int64))), .second] [(.long (own_sh (u1 + (-7046029254386353131 : Int64)) (30 : Int32)))])) rfl (hb hby d3_23) k) ?_
  refine own_via (G := T3.setTop (mkF m 27 #[.val (.ref o1), .val (.long (u1 + (-7046029254386353131 : Int64))), .second] [(.long ((own_sh (u1 + (-7046029254386353131 : Int64)) (30 : Int32)) * (-4658895280553007687 : Int64)))])) (fun t k => XT.lmul X3.here hx rfl (hb hby d3_26) rfl k) ?_
  refine own_via (G := T3.setTop (mkF m 28 #[.val (.ref o1), .val (.long ((own_sh (u1 + (-7046029254386353131 : Int64)) (30 : Int32)) * (-4658895280553007687 : Int64))), .second] [])) (fun t k => XT.lstoreN X3.here hx rfl (hb hby d3_27) rfl (l' := #[.val (.ref o1), .val (.long ((own_sh (u1 + (-7046029254386353131 : Int64)) (30 : Int32)) * (-4658895280553007687 : Int64))), .second]) rfl k) ?_
  refine own_via (G := T3.setTop (mkF m 29 #[.val (.ref o1), .val (.long ((own_sh (u1 + (-7046029254386353131 : Int64)) (30 : Int32)) * (-4658895280553007687 : Int64))), .second] [(.long ((own_sh (u1 + (-7046029254386353131 : Int64)) (30 : Int32)) * (-4658895280553007687 : Int64)))])) (fun t k => XT.lloadN X3.here hx rfl (hb hby d3_28) rfl k) ?_
  refine own_via (G := T3.setTop (mkF m 30 #[.val (.ref o1), .val (.long ((own_sh (u1 + (-7046029254386353131 : Int64)) (30 : Int32)) * (-4658895280553007687 : Int64))), .second] [(.long ((own_sh (u1 + (-7046029254386353131 : Int64)) (30 : Int32)) * (-4658895280553007687 : Int64))), (.long ((own_sh (u1 + (-7046029254386353131 : Int64)) (30 : Int32)) * (-4658895280553007687 : Int64)))])) (fun t k => XT.lloadN X3.here hx rfl (hb hby d3_29) rfl k) ?_
  refine own_via (G := T3.setTop (mkF m 32 #[.val (.ref o1), .val (.long ((own_sh (u1 + (-7046029254386353131 : Int64)) (30 : Int32)) * (-4658895280553007687 : Int64))), .second] [(.int (27 : Int32)), (.long ((own_sh (u1 + (-7046029254386353131 : Int64)) (30 : Int32)) * (-4658895280553007687 : Int64))), (.long ((own_sh (u1 + (-7046029254386353131 : Int64)) (30 : Int32)) * (-4658895280553007687 : Int64)))])) (fun t k => XS.bipush X3.here hx rfl (hb hby d3_30) k) ?_
  refine own_via (G := T3.setTop (mkF m 33 #[.val (.ref o1), .val (.long ((own_sh (u1 + (-7046029254386353131 : Int64)) (30 : Int32)) * (-4658895280553007687 : Int64))), .second] [(.long (XT.ushrL ((own_sh (u1 + (-7046029254386353131 : Int64)) (30 : Int32)) * (-4658895280553007687 : Int64)) (27 : Int32))), (.long ((own_sh (u1 + (-7046029254386353131 : Int64)) (30 : Int32)) * (-4658895280553007687 : Int64)))])) (fun t k => XT.lushr X3.here hx rfl (hb hby d3_32) rfl k) ?_
  refine own_via (G := T3.setTop (mkF m 34 #[.val (.ref o1), .val (.long ((own_sh (u1 + (-7046029254386353131 : Int64)) (30 : Int32)) * (-4658895280553007687 : Int64))), .second] [(.long (own_sh ((own_sh (u1 + (-7046029254386353131 : Int64)) (30 : Int32)) * (-4658895280553007687 : Int64)) (27 : Int32)))])) (fun t k => XT.lxor X3.here hx rfl (hb hby d3_33) rfl k) ?_
  refine own_via (G := T3.setTop (mkF m 37 #[.val (.ref o1), .val (.long ((own_sh (u1 + (-7046029254386353131 : Int64)) (30 : Int32)) * (-4658895280553007687 : Int64))), .second] [(.long (-7723592293110705685 : Int64)), (.long (own_sh ((own_sh (u1 + (-7046029254386353131 : Int64)) (30 : Int32)) * (-4658895280553007687 : Int64)) (27 : Int32)))])) (fun t k => X3.ldc2J hx hown (mvT hZ (hw _ (List.mem_of_getElem? (i := 18) rfl))) (g := (mkF m 34 #[.val (.ref o1), .val (.long ((own_sh (u1 + (-7046029254386353131 : Int64)) (30 : Int32)) * (-4658895280553007687 : Int64))), .second] [(.long (own_sh ((own_sh (u1 + (-7046029254386353131 : Int64)) (30 : Int32)) * (-4658895280553007687 : Int64)) (27 : Int32)))])) rfl (hb hby d3_34) k) ?_
  refine own_via (G := T3.setTop (mkF m 38 #[.val (.ref o1), .val (.long ((own_sh (u1 + (-7046029254386353131 : Int64)) (30 : Int32)) * (-4658895280553007687 : Int64))), .second] [(.long ((own_sh ((own_sh (u1 + (-7046029254386353131 : Int64)) (30 : Int32)) * (-4658895280553007687 : Int64)) (27 : Int32)) * (-7723592293110705685 : Int64)))])) (fun t k => XT.lmul X3.here hx rfl (hb hby d3_37) rfl k) ?_
  refine own_via (G := T3.setTop (mkF m 39 #[.val (.ref o1), .val (.long ((own_sh ((own_sh (u1 + (-7046029254386353131 : Int64)) (30 : Int32)) * (-4658895280553007687 : Int64)) (27 : Int32)) * (-7723592293110705685 : Int64))), .second] [])) (fun t k => XT.lstoreN X3.here hx rfl (hb hby d3_38) rfl (l' := #[.val (.ref o1), .val (.long ((own_sh ((own_sh (u1 + (-7046029254386353131 : Int64)) (30 : Int32)) * (-4658895280553007687 : Int64)) (27 : Int32)) * (-7723592293110705685 : Int64))), .second]) rfl k) ?_
  refine own_via (G := T3.setTop (mkF m 40 #[.val (.ref o1), .val (.long ((own_sh ((own_sh (u1 + (-7046029254386353131 : Int64)) (30 : Int32)) * (-4658895280553007687 : Int64)) (27 : Int32)) * (-7723592293110705685 : Int64))), .second] [(.long ((own_sh ((own_sh (u1 + (-7046029254386353131 : Int64)) (30 : Int32)) * (-4658895280553007687 : Int64)) (27 : Int32)) * (-7723592293110705685 : Int64)))])) (fun t k => XT.lloadN X3.here hx rfl (hb hby d3_39) rfl k) ?_
  refine own_via (G := T3.setTop (mkF m 41 #[.val (.ref o1), .val (.long ((own_sh ((own_sh (u1 + (-7046029254386353131 : Int64)) (30 : Int32)) * (-4658895280553007687 : Int64)) (27 : Int32)) * (-7723592293110705685 : Int64))), .second] [(.long ((own_sh ((own_sh (u1 + (-7046029254386353131 : Int64)) (30 : Int32)) * (-4658895280553007687 : Int64)) (27 : Int32)) * (-7723592293110705685 : Int64))), (.long ((own_sh ((own_sh (u1 + (-7046029254386353131 : Int64)) (30 : Int32)) * (-4658895280553007687 : Int64)) (27 : Int32)) * (-7723592293110705685 : Int64)))])) (fun t k => XT.lloadN X3.here hx rfl (hb hby d3_40) rfl k) ?_
  refine own_via (G := T3.setTop (mkF m 43 #[.val (.ref o1), .val (.long ((own_sh ((own_sh (u1 + (-7046029254386353131 : Int64)) (30 : Int32)) * (-4658895280553007687 : Int64)) (27 : Int32)) * (-7723592293110705685 : Int64))), .second] [(.int (31 : Int32)), (.long ((own_sh ((own_sh (u1 + (-7046029254386353131 : Int64)) (30 : Int32)) * (-4658895280553007687 : Int64)) (27 : Int32)) * (-7723592293110705685 : Int64))), (.long ((own_sh ((own_sh (u1 + (-7046029254386353131 : Int64)) (30 : Int32)) * (-4658895280553007687 : Int64)) (27 : Int32)) * (-7723592293110705685 : Int64)))])) (fun t k => XS.bipush X3.here hx rfl (hb hby d3_41) k) ?_
  refine own_via (G := T3.setTop (mkF m 44 #[.val (.ref o1), .val (.long ((own_sh ((own_sh (u1 + (-7046029254386353131 : Int64)) (30 : Int32)) * (-4658895280553007687 : Int64)) (27 : Int32)) * (-7723592293110705685 : Int64))), .second] [(.long (XT.ushrL ((own_sh ((own_sh (u1 + (-7046029254386353131 : Int64)) (30 : Int32)) * (-4658895280553007687 : Int64)) (27 : Int32)) * (-7723592293110705685 : Int64)) (31 : Int32))), (.long ((own_sh ((own_sh (u1 + (-7046029254386353131 : Int64)) (30 : Int32)) * (-4658895280553007687 : Int64)) (27 : Int32)) * (-7723592293110705685 : Int64)))])) (fun t k => XT.lushr X3.here hx rfl (hb hby d3_43) rfl k) ?_
  refine own_via (G := T3.setTop (mkF m 45 #[.val (.ref o1), .val (.long ((own_sh ((own_sh (u1 + (-7046029254386353131 : Int64)) (30 : Int32)) * (-4658895280553007687 : Int64)) (27 : Int32)) * (-7723592293110705685 : Int64))), .second] [(.long (own_sh ((own_sh ((own_sh (u1 + (-7046029254386353131 : Int64)) (30 : Int32)) * (-4658895280553007687 : Int64)) (27 : Int32)) * (-7723592293110705685 : Int64)) (31 : Int32)))])) (fun t k => XT.lxor X3.here hx rfl (hb hby d3_44) rfl k) ?_
  exact own_fin X3 e3 (v := some (.long (own_sh ((own_sh ((own_sh (u1 + (-7046029254386353131 : Int64)) (30 : Int32)) * (-4658895280553007687 : Int64)) (27 : Int32)) * (-7723592293110705685 : Int64)) (31 : Int32)))) (fun h => by rw [hret] at h; cases h) hlk (fun fs hr => X3.lreturnOut hx hret (hb hby d3_45) hr) (show ((fun v h L => Q3 Z o1 u1 h0 n0 v h L)) (some (.long (own_sh ((own_sh ((own_sh (u1 + (-7046029254386353131 : Int64)) (30 : Int32)) * (-4658895280553007687 : Int64)) (27 : Int32)) * (-7723592293110705685 : Int64)) (31 : Int32)))) h2 _ from ⟨rfl, N2, K2, (E1'2), (F1'2)⟩) (by decide) (by decide)
theorem ef_3 (m : MethodId) (o1 : Addr) : entryFrame m #[(.ref o1)] 3 = mkF m 0 #[.val (.ref o1), .unset, .unset] [] := by first | (simp [entryFrame, mkF, argsToLocals, Value.category, maxLocals]; done) | rfl
set_option maxRecDepth 65536 in
set_option maxHeartbeats 40000000 in
theorem rm3 (l : Launch) (Z : State) (a0 : Array Value) (hw : ∀ d ∈ tables_1, d.before a0 Z = true) (ws : List Jvm.Cond) (o1 : Addr) (u1 : Int64) (h0 : Heap) (n0 : Nat) (Z0 : n0 ≤ h0.size) (F1 : Fld Z h0 o1 "com/example/glar/glar/generator/SplitMix" "state" "J" (.long u1)) (E1 : Exa Z h0 o1 "com/example/glar/glar/generator/SplitMix") (g_o1 : n0 ≤ o1) :
    MetFree l (⟨"com/example/glar/glar/generator/SplitMix", "next", "()J"⟩ : MethodName) (head1 (Jvm.Cond.code (⟨"com/example/glar/glar/generator/SplitMix", "next", "()J"⟩ : MethodName) prog_17_method_2_code 3 (some .long) :: ws) ({ frames := 0, cells := 0, slots := 0, locals := 0 } : Room)) (fun a U => a = #[(.ref o1)] ∧ Z.Warmed39 U.vm ∧ U.heap = h0) (fun _ _ _ _ _ => True) (fun _ U o U' => ∃ v L, o = .returned v ∧ Q3 Z o1 u1 h0 n0 v U'.heap L ∧ FrameEnd U o U' L ({ frames := 0, cells := 0, slots := 0, locals := 0 } : Room).cells ({ frames := 0, cells := 0, slots := 0, locals := 0 } : Room).slots) := by
  refine MetFree.of_bodySF (plainFor_of_name pn_0) hisR ?_
  intro p e s m args below meth c s₁ Bd hml0 hP hK
  obtain ⟨rfl, hZ, hh⟩ := hP
  have e0 : s₁.heap = h0 := by rw [← hh, Bd.state]; rfl
  rw [ef_3 m o1]
  exact b3 o1 u1 ⟨Bd.exec, hZ, hw, Bd.bytes, hml0, findClass_of_methodNamed Bd.named, Bd.returns, Bd.notSynchronized, (name_of_methodNamed Bd.named Bd.method).1⟩ (Stand.of_body Bd) e0 Z0 (Fr.nil n0) F1 E1 g_o1
def Q5 (Z : State) (q1 : Int64) (h0 : Heap) (n0 : Nat) (v : Option Value) (h : Heap) (L : List Loc) : Prop := v = some (.long (own_inv q1)) ∧ Fr n0 L ∧ h = h0
theorem d5_0 : decode method_2_code 0 = .ok (.lload_n 0, 1) := by decide +kernel
theorem d5_1 : decode method_2_code 1 = .ok (.lstore_n 2, 1) := by decide +kernel
theorem d5_2 : decode method_2_code 2 = .ok (.lload_n 2, 1) := by decide +kernel
theorem d5_3 : decode method_2_code 3 = .ok (.ldc2_w 7, 3) := by decide +kernel
theorem d5_6 : decode method_2_code 6 = .ok (.lload_n 0, 1) := by decide +kernel
theorem d5_7 : decode method_2_code 7 = .ok (.lload_n 2, 1) := by decide +kernel
theorem d5_8 : decode method_2_code 8 = .ok (.lmul, 1) := by decide +kernel
theorem d5_9 : decode method_2_code 9 = .ok (.lsub, 1) := by decide +kernel
theorem d5_10 : decode method_2_code 10 = .ok (.lmul, 1) := by decide +kernel
theorem d5_11 : decode method_2_code 11 = .ok (.lstore_n 2, 1) := by decide +kernel
theorem d5_12 : decode method_2_code 12 = .ok (.lload_n 2, 1) := by decide +kernel
theorem d5_13 : decode method_2_code 13 = .ok (.ldc2_w 7, 3) := by decide +kernel
theorem d5_16 : decode method_2_code 16 = .ok (.lload_n 0, 1) := by decide +kernel
theorem d5_17 : decode method_2_code 17 = .ok (.lload_n 2, 1) := by decide +kernel
theorem d5_18 : decode method_2_code 18 = .ok (.lmul, 1) := by decide +kernel
theorem d5_19 : decode method_2_code 19 = .ok (.lsub, 1) := by decide +kernel
theorem d5_20 : decode method_2_code 20 = .ok (.lmul, 1) := by decide +kernel
theorem d5_21 : decode method_2_code 21 = .ok (.lstore_n 2, 1) := by decide +kernel
theorem d5_22 : decode method_2_code 22 = .ok (.lload_n 2, 1) := by decide +kernel
theorem d5_23 : decode method_2_code 23 = .ok (.ldc2_w 7, 3) := by decide +kernel
theorem d5_26 : decode method_2_code 26 = .ok (.lload_n 0, 1) := by decide +kernel
theorem d5_27 : decode method_2_code 27 = .ok (.lload_n 2, 1) := by decide +kernel
theorem d5_28 : decode method_2_code 28 = .ok (.lmul, 1) := by decide +kernel
theorem d5_29 : decode method_2_code 29 = .ok (.lsub, 1) := by decide +kernel
theorem d5_30 : decode method_2_code 30 = .ok (.lmul, 1) := by decide +kernel
theorem d5_31 : decode method_2_code 31 = .ok (.lstore_n 2, 1) := by decide +kernel
theorem d5_32 : decode method_2_code 32 = .ok (.lload_n 2, 1) := by decide +kernel
theorem d5_33 : decode method_2_code 33 = .ok (.ldc2_w 7, 3) := by decide +kernel
theorem d5_36 : decode method_2_code 36 = .ok (.lload_n 0, 1) := by decide +kernel
theorem d5_37 : decode method_2_code 37 = .ok (.lload_n 2, 1) := by decide +kernel
theorem d5_38 : decode method_2_code 38 = .ok (.lmul, 1) := by decide +kernel
theorem d5_39 : decode method_2_code 39 = .ok (.lsub, 1) := by decide +kernel
theorem d5_40 : decode method_2_code 40 = .ok (.lmul, 1) := by decide +kernel
theorem d5_41 : decode method_2_code 41 = .ok (.lstore_n 2, 1) := by decide +kernel
theorem d5_42 : decode method_2_code 42 = .ok (.lload_n 2, 1) := by decide +kernel
theorem d5_43 : decode method_2_code 43 = .ok (.ldc2_w 7, 3) := by decide +kernel
theorem d5_46 : decode method_2_code 46 = .ok (.lload_n 0, 1) := by decide +kernel
theorem d5_47 : decode method_2_code 47 = .ok (.lload_n 2, 1) := by decide +kernel
theorem d5_48 : decode method_2_code 48 = .ok (.lmul, 1) := by decide +kernel
theorem d5_49 : decode method_2_code 49 = .ok (.lsub, 1) := by decide +kernel
theorem d5_50 : decode method_2_code 50 = .ok (.lmul, 1) := by decide +kernel
theorem d5_51 : decode method_2_code 51 = .ok (.lstore_n 2, 1) := by decide +kernel
theorem d5_52 : decode method_2_code 52 = .ok (.lload_n 2, 1) := by decide +kernel
theorem d5_53 : decode method_2_code 53 = .ok (.lreturn, 1) := by decide +kernel
set_option maxRecDepth 65536 in
set_option maxHeartbeats 40000000 in
theorem b5 {p : Program} {l : Launch} {e : Env} {s : State} {m : MethodId} {args : Array Value} {below : List Frame} {meth : Method} {c : Code} {T0 : State} {locs : List Loc} {Z : State} {a0 : Array Value} {h0 : Heap} {n0 : Nat} (q1 : Int64)
    (C : own_C p s m meth c Z a0 method_2_code 4 "com/example/glar/glar/generator/SplitMixNextPinLaw" (some .long) "inverse") (X0 : Stand p l e ({ frames := 0, cells := 0, slots := 0, locals := 0 } : Room) s m args below meth c T0 locs 0 0) (e0 : T0.heap = h0) (Z0 : n0 ≤ h0.size) (N0 : Fr n0 locs) :
    own_Go p.tables e below (T0.setTop (mkF m 0 #[.val (.long q1), .second, .unset, .unset] [])) (own_K s (fun v h L => Q5 Z q1 h0 n0 v h L) ({ frames := 0, cells := 0, slots := 0, locals := 0 } : Room).cells ({ frames := 0, cells := 0, slots := 0, locals := 0 } : Room).slots) := by
  obtain ⟨hx, hZ, hw, hby, hml, hown, hret, hlk, hnm⟩ := C
  refine own_via (G := T0.setTop (mkF m 1 #[.val (.long q1), .second, .unset, .unset] [(.long q1)])) (fun t k => XT.lloadN X0.here hx rfl (hb hby d5_0) rfl k) ?_
  refine own_via (G := T0.setTop (mkF m 2 #[.val (.long q1), .second, .val (.long q1), .second] [])) (fun t k => XT.lstoreN X0.here hx rfl (hb hby d5_1) rfl (l' := #[.val (.long q1), .second, .val (.long q1), .second]) rfl k) ?_
  refine own_via (G := T0.setTop (mkF m 3 #[.val (.long q1), .second, .val (.long q1), .second] [(.long q1)])) (fun t k => XT.lloadN X0.here hx rfl (hb hby d5_2) rfl k) ?_
  refine own_via (G := T0.setTop (mkF m 6 #[.val (.long q1), .second, .val (.long q1), .second] [(.long (2 : Int64)), (.long q1)])) (fun t k => X0.ldc2J hx hown (mvT hZ (hw _ (List.mem_of_getElem? (i := 28) rfl))) (g := (mkF m 3 #[.val (.long q1), .second, .val (.long q1), .second] [(.long q1)])) rfl (hb hby d5_3) k) ?_
  refine own_via (G := T0.setTop (mkF m 7 #[.val (.long q1), .second, .val (.long q1), .second] [(.long q1), (.long (2 : Int64)), (.long q1)])) (fun t k => XT.lloadN X0.here hx rfl (hb hby d5_6) rfl k) ?_
  refine own_via (G := T0.setTop (mkF m 8 #[.val (.long q1), .second, .val (.long q1), .second] [(.long q1), (.long q1), (.long (2 : Int64)), (.long q1)])) (fun t k => XT.lloadN X0.here hx rfl (hb hby d5_7) rfl k) ?_
  refine own_via (G := T0.setTop (mkF m 9 #[.val (.long q1), .second, .val (.long q1), .second] [(.long (q1 * q1)), (.long (2 : Int64)), (.long q1)])) (fun t k => XT.lmul X0.here hx rfl (hb hby d5_8) rfl k) ?_
  refine own_via (G := T0.setTop (mkF m 10 #[.val (.long q1), .second, .val (.long q1), .second] [(.long ((2 : Int64) - (q1 * q1))), (.long q1)])) (fun t k => XT.lsub X0.here hx rfl (hb hby d5_9) rfl k) ?_
  refine own_via (G := T0.setTop (mkF m 11 #[.val (.long q1), .second, .val (.long q1), .second] [(.long (own_nw q1 q1))])) (fun t k => XT.lmul X0.here hx rfl (hb hby d5_10) rfl k) ?_
  refine own_via (G := T0.setTop (mkF m 12 #[.val (.long q1), .second, .val (.long (own_nw q1 q1)), .second] [])) (fun t k => XT.lstoreN X0.here hx rfl (hb hby d5_11) rfl (l' := #[.val (.long q1), .second, .val (.long (own_nw q1 q1)), .second]) rfl k) ?_
  refine own_via (G := T0.setTop (mkF m 13 #[.val (.long q1), .second, .val (.long (own_nw q1 q1)), .second] [(.long (own_nw q1 q1))])) (fun t k => XT.lloadN X0.here hx rfl (hb hby d5_12) rfl k) ?_
  refine own_via (G := T0.setTop (mkF m 16 #[.val (.long q1), .second, .val (.long (own_nw q1 q1)), .second] [(.long (2 : Int64)), (.long (own_nw q1 q1))])) (fun t k => X0.ldc2J hx hown (mvT hZ (hw _ (List.mem_of_getElem? (i := 28) rfl))) (g := (mkF m 13 #[.val (.long q1), .second, .val (.long (own_nw q1 q1)), .second] [(.long (own_nw q1 q1))])) rfl (hb hby d5_13) k) ?_
  refine own_via (G := T0.setTop (mkF m 17 #[.val (.long q1), .second, .val (.long (own_nw q1 q1)), .second] [(.long q1), (.long (2 : Int64)), (.long (own_nw q1 q1))])) (fun t k => XT.lloadN X0.here hx rfl (hb hby d5_16) rfl k) ?_
  refine own_via (G := T0.setTop (mkF m 18 #[.val (.long q1), .second, .val (.long (own_nw q1 q1)), .second] [(.long (own_nw q1 q1)), (.long q1), (.long (2 : Int64)), (.long (own_nw q1 q1))])) (fun t k => XT.lloadN X0.here hx rfl (hb hby d5_17) rfl k) ?_
  refine own_via (G := T0.setTop (mkF m 19 #[.val (.long q1), .second, .val (.long (own_nw q1 q1)), .second] [(.long (q1 * (own_nw q1 q1))), (.long (2 : Int64)), (.long (own_nw q1 q1))])) (fun t k => XT.lmul X0.here hx rfl (hb hby d5_18) rfl k) ?_
  refine own_via (G := T0.setTop (mkF m 20 #[.val (.long q1), .second, .val (.long (own_nw q1 q1)), .second] [(.long ((2 : Int64) - (q1 * (own_nw q1 q1)))), (.long (own_nw q1 q1))])) (fun t k => XT.lsub X0.here hx rfl (hb hby d5_19) rfl k) ?_
  refine own_via (G := T0.setTop (mkF m 21 #[.val (.long q1), .second, .val (.long (own_nw q1 q1)), .second] [(.long (own_nw q1 (own_nw q1 q1)))])) (fun t k => XT.lmul X0.here hx rfl (hb hby d5_20) rfl k) ?_
  refine own_via (G := T0.setTop (mkF m 22 #[.val (.long q1), .second, .val (.long (own_nw q1 (own_nw q1 q1))), .second] [])) (fun t k => XT.lstoreN X0.here hx rfl (hb hby d5_21) rfl (l' := #[.val (.long q1), .second, .val (.long (own_nw q1 (own_nw q1 q1))), .second]) rfl k) ?_
  refine own_via (G := T0.setTop (mkF m 23 #[.val (.long q1), .second, .val (.long (own_nw q1 (own_nw q1 q1))), .second] [(.long (own_nw q1 (own_nw q1 q1)))])) (fun t k => XT.lloadN X0.here hx rfl (hb hby d5_22) rfl k) ?_
  refine own_via (G := T0.setTop (mkF m 26 #[.val (.long q1), .second, .val (.long (own_nw q1 (own_nw q1 q1))), .second] [(.long (2 : Int64)), (.long (own_nw q1 (own_nw q1 q1)))])) (fun t k => X0.ldc2J hx hown (mvT hZ (hw _ (List.mem_of_getElem? (i := 28) rfl))) (g := (mkF m 23 #[.val (.long q1), .second, .val (.long (own_nw q1 (own_nw q1 q1))), .second] [(.long (own_nw q1 (own_nw q1 q1)))])) rfl (hb hby d5_23) k) ?_
  refine own_via (G := T0.setTop (mkF m 27 #[.val (.long q1), .second, .val (.long (own_nw q1 (own_nw q1 q1))), .second] [(.long q1), (.long (2 : Int64)), (.long (own_nw q1 (own_nw q1 q1)))])) (fun t k => XT.lloadN X0.here hx rfl (hb hby d5_26) rfl k) ?_
  refine own_via (G := T0.setTop (mkF m 28 #[.val (.long q1), .second, .val (.long (own_nw q1 (own_nw q1 q1))), .second] [(.long (own_nw q1 (own_nw q1 q1))), (.long q1), (.long (2 : Int64)), (.long (own_nw q1 (own_nw q1 q1)))])) (fun t k => XT.lloadN X0.here hx rfl (hb hby d5_27) rfl k) ?_
  refine own_via (G := T0.setTop (mkF m 29 #[.val (.long q1), .second, .val (.long (own_nw q1 (own_nw q1 q1))), .second] [(.long (q1 * (own_nw q1 (own_nw q1 q1)))), (.long (2 : Int64)), (.long (own_nw q1 (own_nw q1 q1)))])) (fun t k => XT.lmul X0.here hx rfl (hb hby d5_28) rfl k) ?_
  refine own_via (G := T0.setTop (mkF m 30 #[.val (.long q1), .second, .val (.long (own_nw q1 (own_nw q1 q1))), .second] [(.long ((2 : Int64) - (q1 * (own_nw q1 (own_nw q1 q1))))), (.long (own_nw q1 (own_nw q1 q1)))])) (fun t k => XT.lsub X0.here hx rfl (hb hby d5_29) rfl k) ?_
  refine own_via (G := T0.setTop (mkF m 31 #[.val (.long q1), .second, .val (.long (own_nw q1 (own_nw q1 q1))), .second] [(.long (own_nw q1 (own_nw q1 (own_nw q1 q1))))])) (fun t k => XT.lmul X0.here hx rfl (hb hby d5_30) rfl k) ?_
  refine own_via (G := T0.setTop (mkF m 32 #[.val (.long q1), .second, .val (.long (own_nw q1 (own_nw q1 (own_nw q1 q1)))), .second] [])) (fun t k => XT.lstoreN X0.here hx rfl (hb hby d5_31) rfl (l' := #[.val (.long q1), .second, .val (.long (own_nw q1 (own_nw q1 (own_nw q1 q1)))), .second]) rfl k) ?_
  refine own_via (G := T0.setTop (mkF m 33 #[.val (.long q1), .second, .val (.long (own_nw q1 (own_nw q1 (own_nw q1 q1)))), .second] [(.long (own_nw q1 (own_nw q1 (own_nw q1 q1))))])) (fun t k => XT.lloadN X0.here hx rfl (hb hby d5_32) rfl k) ?_
  refine own_via (G := T0.setTop (mkF m 36 #[.val (.long q1), .second, .val (.long (own_nw q1 (own_nw q1 (own_nw q1 q1)))), .second] [(.long (2 : Int64)), (.long (own_nw q1 (own_nw q1 (own_nw q1 q1))))])) (fun t k => X0.ldc2J hx hown (mvT hZ (hw _ (List.mem_of_getElem? (i := 28) rfl))) (g := (mkF m 33 #[.val (.long q1), .second, .val (.long (own_nw q1 (own_nw q1 (own_nw q1 q1)))), .second] [(.long (own_nw q1 (own_nw q1 (own_nw q1 q1))))])) rfl (hb hby d5_33) k) ?_
  refine own_via (G := T0.setTop (mkF m 37 #[.val (.long q1), .second, .val (.long (own_nw q1 (own_nw q1 (own_nw q1 q1)))), .second] [(.long q1), (.long (2 : Int64)), (.long (own_nw q1 (own_nw q1 (own_nw q1 q1))))])) (fun t k => XT.lloadN X0.here hx rfl (hb hby d5_36) rfl k) ?_
  refine own_via (G := T0.setTop (mkF m 38 #[.val (.long q1), .second, .val (.long (own_nw q1 (own_nw q1 (own_nw q1 q1)))), .second] [(.long (own_nw q1 (own_nw q1 (own_nw q1 q1)))), (.long q1), (.long (2 : Int64)), (.long (own_nw q1 (own_nw q1 (own_nw q1 q1))))])) (fun t k => XT.lloadN X0.here hx rfl (hb hby d5_37) rfl k) ?_
  refine own_via (G := T0.setTop (mkF m 39 #[.val (.long q1), .second, .val (.long (own_nw q1 (own_nw q1 (own_nw q1 q1)))), .second] [(.long (q1 * (own_nw q1 (own_nw q1 (own_nw q1 q1))))), (.long (2 : Int64)), (.long (own_nw q1 (own_nw q1 (own_nw q1 q1))))])) (fun t k => XT.lmul X0.here hx rfl (hb hby d5_38) rfl k) ?_
  refine own_via (G := T0.setTop (mkF m 40 #[.val (.long q1), .second, .val (.long (own_nw q1 (own_nw q1 (own_nw q1 q1)))), .second] [(.long ((2 : Int64) - (q1 * (own_nw q1 (own_nw q1 (own_nw q1 q1)))))), (.long (own_nw q1 (own_nw q1 (own_nw q1 q1))))])) (fun t k => XT.lsub X0.here hx rfl (hb hby d5_39) rfl k) ?_
  refine own_via (G := T0.setTop (mkF m 41 #[.val (.long q1), .second, .val (.long (own_nw q1 (own_nw q1 (own_nw q1 q1)))), .second] [(.long (own_nw q1 (own_nw q1 (own_nw q1 (own_nw q1 q1)))))])) (fun t k => XT.lmul X0.here hx rfl (hb hby d5_40) rfl k) ?_
  refine own_via (G := T0.setTop (mkF m 42 #[.val (.long q1), .second, .val (.long (own_nw q1 (own_nw q1 (own_nw q1 (own_nw q1 q1))))), .second] [])) (fun t k => XT.lstoreN X0.here hx rfl (hb hby d5_41) rfl (l' := #[.val (.long q1), .second, .val (.long (own_nw q1 (own_nw q1 (own_nw q1 (own_nw q1 q1))))), .second]) rfl k) ?_
  refine own_via (G := T0.setTop (mkF m 43 #[.val (.long q1), .second, .val (.long (own_nw q1 (own_nw q1 (own_nw q1 (own_nw q1 q1))))), .second] [(.long (own_nw q1 (own_nw q1 (own_nw q1 (own_nw q1 q1)))))])) (fun t k => XT.lloadN X0.here hx rfl (hb hby d5_42) rfl k) ?_
  refine own_via (G := T0.setTop (mkF m 46 #[.val (.long q1), .second, .val (.long (own_nw q1 (own_nw q1 (own_nw q1 (own_nw q1 q1))))), .second] [(.long (2 : Int64)), (.long (own_nw q1 (own_nw q1 (own_nw q1 (own_nw q1 q1)))))])) (fun t k => X0.ldc2J hx hown (mvT hZ (hw _ (List.mem_of_getElem? (i := 28) rfl))) (g := (mkF m 43 #[.val (.long q1), .second, .val (.long (own_nw q1 (own_nw q1 (own_nw q1 (own_nw q1 q1))))), .second] [(.long (own_nw q1 (own_nw q1 (own_nw q1 (own_nw q1 q1)))))])) rfl (hb hby d5_43) k) ?_
  refine own_via (G := T0.setTop (mkF m 47 #[.val (.long q1), .second, .val (.long (own_nw q1 (own_nw q1 (own_nw q1 (own_nw q1 q1))))), .second] [(.long q1), (.long (2 : Int64)), (.long (own_nw q1 (own_nw q1 (own_nw q1 (own_nw q1 q1)))))])) (fun t k => XT.lloadN X0.here hx rfl (hb hby d5_46) rfl k) ?_
  refine own_via (G := T0.setTop (mkF m 48 #[.val (.long q1), .second, .val (.long (own_nw q1 (own_nw q1 (own_nw q1 (own_nw q1 q1))))), .second] [(.long (own_nw q1 (own_nw q1 (own_nw q1 (own_nw q1 q1))))), (.long q1), (.long (2 : Int64)), (.long (own_nw q1 (own_nw q1 (own_nw q1 (own_nw q1 q1)))))])) (fun t k => XT.lloadN X0.here hx rfl (hb hby d5_47) rfl k) ?_
  refine own_via (G := T0.setTop (mkF m 49 #[.val (.long q1), .second, .val (.long (own_nw q1 (own_nw q1 (own_nw q1 (own_nw q1 q1))))), .second] [(.long (q1 * (own_nw q1 (own_nw q1 (own_nw q1 (own_nw q1 q1)))))), (.long (2 : Int64)), (.long (own_nw q1 (own_nw q1 (own_nw q1 (own_nw q1 q1)))))])) (fun t k => XT.lmul X0.here hx rfl (hb hby d5_48) rfl k) ?_
  refine own_via (G := T0.setTop (mkF m 50 #[.val (.long q1), .second, .val (.long (own_nw q1 (own_nw q1 (own_nw q1 (own_nw q1 q1))))), .second] [(.long ((2 : Int64) - (q1 * (own_nw q1 (own_nw q1 (own_nw q1 (own_nw q1 q1))))))), (.long (own_nw q1 (own_nw q1 (own_nw q1 (own_nw q1 q1)))))])) (fun t k => XT.lsub X0.here hx rfl (hb hby d5_49) rfl k) ?_
  refine own_via (G := T0.setTop (mkF m 51 #[.val (.long q1), .second, .val (.long (own_nw q1 (own_nw q1 (own_nw q1 (own_nw q1 q1))))), .second] [(.long (own_nw q1 (own_nw q1 (own_nw q1 (own_nw q1 (own_nw q1 q1))))))])) (fun t k => XT.lmul X0.here hx rfl (hb hby d5_50) rfl k) ?_
  refine own_via (G := T0.setTop (mkF m 52 #[.val (.long q1), .second, .val (.long (own_nw q1 (own_nw q1 (own_nw q1 (own_nw q1 (own_nw q1 q1)))))), .second] [])) (fun t k => XT.lstoreN X0.here hx rfl (hb hby d5_51) rfl (l' := #[.val (.long q1), .second, .val (.long (own_nw q1 (own_nw q1 (own_nw q1 (own_nw q1 (own_nw q1 q1)))))), .second]) rfl k) ?_
  refine own_via (G := T0.setTop (mkF m 53 #[.val (.long q1), .second, .val (.long (own_nw q1 (own_nw q1 (own_nw q1 (own_nw q1 (own_nw q1 q1)))))), .second] [(.long (own_nw q1 (own_nw q1 (own_nw q1 (own_nw q1 (own_nw q1 q1))))))])) (fun t k => XT.lloadN X0.here hx rfl (hb hby d5_52) rfl k) ?_
  exact own_fin X0 e0 (v := some (.long (own_nw q1 (own_nw q1 (own_nw q1 (own_nw q1 (own_nw q1 q1))))))) (fun h => by rw [hret] at h; cases h) hlk (fun fs hr => X0.lreturnOut hx hret (hb hby d5_53) hr) (show ((fun v h L => Q5 Z q1 h0 n0 v h L)) (some (.long (own_nw q1 (own_nw q1 (own_nw q1 (own_nw q1 (own_nw q1 q1))))))) h0 _ from ⟨rfl, N0, rfl⟩) (by decide) (by decide)
theorem pn_1 : plainName "com/example/glar/glar/generator/SplitMixNextPinLaw" = true := by first | (simp [plainName, overriddenIn]; done) | decide +kernel
theorem ef_5 (m : MethodId) (q1 : Int64) : entryFrame m #[(.long q1)] 4 = mkF m 0 #[.val (.long q1), .second, .unset, .unset] [] := by first | (simp [entryFrame, mkF, argsToLocals, Value.category, maxLocals]; done) | rfl
set_option maxRecDepth 65536 in
set_option maxHeartbeats 40000000 in
theorem rm5 (l : Launch) (Z : State) (a0 : Array Value) (hw : ∀ d ∈ tables_1, d.before a0 Z = true) (ws : List Jvm.Cond) (q1 : Int64) (h0 : Heap) (n0 : Nat) (Z0 : n0 ≤ h0.size) :
    MetFree l (⟨"com/example/glar/glar/generator/SplitMixNextPinLaw", "inverse", "(J)J"⟩ : MethodName) (head1 (Jvm.Cond.code (⟨"com/example/glar/glar/generator/SplitMixNextPinLaw", "inverse", "(J)J"⟩ : MethodName) method_2_code 4 (some .long) :: ws) ({ frames := 0, cells := 0, slots := 0, locals := 0 } : Room)) (fun a U => a = #[(.long q1)] ∧ Z.Warmed39 U.vm ∧ U.heap = h0) (fun _ _ _ _ _ => True) (fun _ U o U' => ∃ v L, o = .returned v ∧ Q5 Z q1 h0 n0 v U'.heap L ∧ FrameEnd U o U' L ({ frames := 0, cells := 0, slots := 0, locals := 0 } : Room).cells ({ frames := 0, cells := 0, slots := 0, locals := 0 } : Room).slots) := by
  refine MetFree.of_bodySF (plainFor_of_name pn_1) hisR ?_
  intro p e s m args below meth c s₁ Bd hml0 hP hK
  obtain ⟨rfl, hZ, hh⟩ := hP
  have e0 : s₁.heap = h0 := by rw [← hh, Bd.state]; rfl
  rw [ef_5 m q1]
  exact b5 q1 ⟨Bd.exec, hZ, hw, Bd.bytes, hml0, findClass_of_methodNamed Bd.named, Bd.returns, Bd.notSynchronized, (name_of_methodNamed Bd.named Bd.method).1⟩ (Stand.of_body Bd) e0 Z0 (Fr.nil n0)
def Q4 (Z : State) (q1 : Int64) (h0 : Heap) (n0 : Nat) (v : Option Value) (h : Heap) (L : List Loc) : Prop := v = some (.long (own_unmix q1)) ∧ Fr n0 L ∧ h = h0
theorem d4_0 : decode method_3_code 0 = .ok (.lload_n 0, 1) := by decide +kernel
theorem d4_1 : decode method_3_code 1 = .ok (.lload_n 0, 1) := by decide +kernel
theorem d4_2 : decode method_3_code 2 = .ok (.bipush 31, 2) := by decide +kernel
theorem d4_4 : decode method_3_code 4 = .ok (.lushr, 1) := by decide +kernel
theorem d4_5 : decode method_3_code 5 = .ok (.lxor, 1) := by decide +kernel
theorem d4_6 : decode method_3_code 6 = .ok (.lload_n 0, 1) := by decide +kernel
theorem d4_7 : decode method_3_code 7 = .ok (.bipush 62, 2) := by decide +kernel
theorem d4_9 : decode method_3_code 9 = .ok (.lushr, 1) := by decide +kernel
theorem d4_10 : decode method_3_code 10 = .ok (.lxor, 1) := by decide +kernel
theorem d4_11 : decode method_3_code 11 = .ok (.lstore_n 0, 1) := by decide +kernel
theorem d4_12 : decode method_3_code 12 = .ok (.lload_n 0, 1) := by decide +kernel
theorem d4_13 : decode method_3_code 13 = .ok (.ldc2_w 9, 3) := by decide +kernel
theorem d4_16 : decode method_3_code 16 = .ok (.invokestatic 11, 3) := by decide +kernel
theorem pd_0 : parseMethodDescriptor "(J)J" = some ⟨[.long], some .long⟩ := by decide +kernel
theorem d4_19 : decode method_3_code 19 = .ok (.lmul, 1) := by decide +kernel
theorem d4_20 : decode method_3_code 20 = .ok (.lstore_n 0, 1) := by decide +kernel
theorem d4_21 : decode method_3_code 21 = .ok (.lload_n 0, 1) := by decide +kernel
theorem d4_22 : decode method_3_code 22 = .ok (.lload_n 0, 1) := by decide +kernel
theorem d4_23 : decode method_3_code 23 = .ok (.bipush 27, 2) := by decide +kernel
theorem d4_25 : decode method_3_code 25 = .ok (.lushr, 1) := by decide +kernel
theorem d4_26 : decode method_3_code 26 = .ok (.lxor, 1) := by decide +kernel
theorem d4_27 : decode method_3_code 27 = .ok (.lload_n 0, 1) := by decide +kernel
theorem d4_28 : decode method_3_code 28 = .ok (.bipush 54, 2) := by decide +kernel
theorem d4_30 : decode method_3_code 30 = .ok (.lushr, 1) := by decide +kernel
theorem d4_31 : decode method_3_code 31 = .ok (.lxor, 1) := by decide +kernel
theorem d4_32 : decode method_3_code 32 = .ok (.lstore_n 0, 1) := by decide +kernel
theorem d4_33 : decode method_3_code 33 = .ok (.lload_n 0, 1) := by decide +kernel
theorem d4_34 : decode method_3_code 34 = .ok (.ldc2_w 17, 3) := by decide +kernel
theorem d4_37 : decode method_3_code 37 = .ok (.invokestatic 11, 3) := by decide +kernel
theorem d4_40 : decode method_3_code 40 = .ok (.lmul, 1) := by decide +kernel
theorem d4_41 : decode method_3_code 41 = .ok (.lstore_n 0, 1) := by decide +kernel
theorem d4_42 : decode method_3_code 42 = .ok (.lload_n 0, 1) := by decide +kernel
theorem d4_43 : decode method_3_code 43 = .ok (.lload_n 0, 1) := by decide +kernel
theorem d4_44 : decode method_3_code 44 = .ok (.bipush 30, 2) := by decide +kernel
theorem d4_46 : decode method_3_code 46 = .ok (.lushr, 1) := by decide +kernel
theorem d4_47 : decode method_3_code 47 = .ok (.lxor, 1) := by decide +kernel
theorem d4_48 : decode method_3_code 48 = .ok (.lload_n 0, 1) := by decide +kernel
theorem d4_49 : decode method_3_code 49 = .ok (.bipush 60, 2) := by decide +kernel
theorem d4_51 : decode method_3_code 51 = .ok (.lushr, 1) := by decide +kernel
theorem d4_52 : decode method_3_code 52 = .ok (.lxor, 1) := by decide +kernel
theorem d4_53 : decode method_3_code 53 = .ok (.lstore_n 0, 1) := by decide +kernel
theorem d4_54 : decode method_3_code 54 = .ok (.lload_n 0, 1) := by decide +kernel
theorem d4_55 : decode method_3_code 55 = .ok (.lreturn, 1) := by decide +kernel
set_option maxRecDepth 65536 in
set_option maxHeartbeats 40000000 in
theorem b4 {p : Program} {l : Launch} {e : Env} {s : State} {m : MethodId} {args : Array Value} {below : List Frame} {meth : Method} {c : Code} {T0 : State} {locs : List Loc} {Z : State} {a0 : Array Value} {h0 : Heap} {n0 : Nat} (q1 : Int64)
    (C : own_C p s m meth c Z a0 method_3_code 2 "com/example/glar/glar/generator/SplitMixNextPinLaw" (some .long) "unmix") (X0 : Stand p l e ({ frames := 1, cells := 0, slots := 0, locals := 17 } : Room) s m args below meth c T0 locs 0 0) (e0 : T0.heap = h0) (Z0 : n0 ≤ h0.size) (N0 : Fr n0 locs) :
    own_Go p.tables e below (T0.setTop (mkF m 0 #[.val (.long q1), .second] [])) (own_K s (fun v h L => Q4 Z q1 h0 n0 v h L) ({ frames := 1, cells := 0, slots := 0, locals := 17 } : Room).cells ({ frames := 1, cells := 0, slots := 0, locals := 17 } : Room).slots) := by
  obtain ⟨hx, hZ, hw, hby, hml, hown, hret, hlk, hnm⟩ := C
  refine own_via (G := T0.setTop (mkF m 1 #[.val (.long q1), .second] [(.long q1)])) (fun t k => XT.lloadN X0.here hx rfl (hb hby d4_0) rfl k) ?_
  refine own_via (G := T0.setTop (mkF m 2 #[.val (.long q1), .second] [(.long q1), (.long q1)])) (fun t k => XT.lloadN X0.here hx rfl (hb hby d4_1) rfl k) ?_
  refine own_via (G := T0.setTop (mkF m 4 #[.val (.long q1), .second] [(.int (31 : Int32)), (.long q1), (.long q1)])) (fun t k => XS.bipush X0.here hx rfl (hb hby d4_2) k) ?_
  refine own_via (G := T0.setTop (mkF m 5 #[.val (.long q1), .second] [(.long (XT.ushrL q1 (31 : Int32))), (.long q1)])) (fun t k => XT.lushr X0.here hx rfl (hb hby d4_4) rfl k) ?_
  refine own_via (G := T0.setTop (mkF m 6 #[.val (.long q1), .second] [(.long (q1 ^^^ (XT.ushrL q1 (31 : Int32))))])) (fun t k => XT.lxor X0.here hx rfl (hb hby d4_5) rfl k) ?_
  refine own_via (G := T0.setTop (mkF m 7 #[.val (.long q1), .second] [(.long q1), (.long (q1 ^^^ (XT.ushrL q1 (31 : Int32))))])) (fun t k => XT.lloadN X0.here hx rfl (hb hby d4_6) rfl k) ?_
  refine own_via (G := T0.setTop (mkF m 9 #[.val (.long q1), .second] [(.int (62 : Int32)), (.long q1), (.long (q1 ^^^ (XT.ushrL q1 (31 : Int32))))])) (fun t k => XS.bipush X0.here hx rfl (hb hby d4_7) k) ?_
  refine own_via (G := T0.setTop (mkF m 10 #[.val (.long q1), .second] [(.long (XT.ushrL q1 (62 : Int32))), (.long (q1 ^^^ (XT.ushrL q1 (31 : Int32))))])) (fun t k => XT.lushr X0.here hx rfl (hb hby d4_9) rfl k) ?_
  refine own_via (G := T0.setTop (mkF m 11 #[.val (.long q1), .second] [(.long (own_un q1 (31 : Int32) (62 : Int32)))])) (fun t k => XT.lxor X0.here hx rfl (hb hby d4_10) rfl k) ?_
  refine own_via (G := T0.setTop (mkF m 12 #[.val (.long (own_un q1 (31 : Int32) (62 : Int32))), .second] [])) (fun t k => XT.lstoreN X0.here hx rfl (hb hby d4_11) rfl (l' := #[.val (.long (own_un q1 (31 : Int32) (62 : Int32))), .second]) rfl k) ?_
  refine own_via (G := T0.setTop (mkF m 13 #[.val (.long (own_un q1 (31 : Int32) (62 : Int32))), .second] [(.long (own_un q1 (31 : Int32) (62 : Int32)))])) (fun t k => XT.lloadN X0.here hx rfl (hb hby d4_12) rfl k) ?_
  refine own_via (G := T0.setTop (mkF m 16 #[.val (.long (own_un q1 (31 : Int32) (62 : Int32))), .second] [(.long (-7723592293110705685 : Int64)), (.long (own_un q1 (31 : Int32) (62 : Int32)))])) (fun t k => X0.ldc2J hx hown (mvT hZ (hw _ (List.mem_of_getElem? (i := 24) rfl))) (g := (mkF m 13 #[.val (.long (own_un q1 (31 : Int32) (62 : Int32))), .second] [(.long (own_un q1 (31 : Int32) (62 : Int32)))])) rfl (hb hby d4_13) k) ?_
  obtain ⟨_, _, ⟨T1, L1, k1, n1⟩, -, X1, ⟨Lc1, hQ1, l1, y1, z1⟩, st1⟩ := Jvm.LawKit.callS X0 hx (y := (⟨"com/example/glar/glar/generator/SplitMixNextPinLaw", "inverse", "(J)J"⟩ : MethodName)) hown (mvT hZ (hw _ (List.mem_of_getElem? (i := 25) rfl))) (mvT hZ (hw _ (List.mem_of_getElem? (i := 26) rfl))) (mvT hZ (hw _ (List.mem_of_getElem? (i := 22) rfl))) (mvT hZ (hw _ (List.mem_of_getElem? (i := 27) rfl))) (by decide) (backOf (W := 2) (rm5 l Z a0 hw [] (-7723592293110705685 : Int64) h0 n0 Z0) hZ (hw _ (List.mem_of_getElem? (i := 27) rfl)) (hw _ (List.mem_of_getElem? (i := 22) rfl)) (by decide) (by decide)) (g := (mkF m 16 #[.val (.long (own_un q1 (31 : Int32) (62 : Int32))), .second] [(.long (-7723592293110705685 : Int64)), (.long (own_un q1 (31 : Int32) (62 : Int32)))])) rfl (by rw [hml]; rfl) (argsL := [(.long (-7723592293110705685 : Int64))]) (rest := [(.long (own_un q1 (31 : Int32) (62 : Int32)))]) (lenOf pd_0 rfl) rfl (by show 2 * 0 + _ ≤ _; exact Nat.le_of_eq rfl) (hb hby d4_16) (fun _ _ => ⟨rfl, e0, (by decide : 0 + 0 ≤ _), (by decide : 0 + 0 ≤ _)⟩)
  dsimp only [Pt.U, Pt.locs, Pt.cells, Pt.slots] at X1 l1 y1 z1 st1 hQ1
  subst l1 y1 z1
  obtain ⟨rfl, Nq1, eh1⟩ := hQ1
  have N1 := Fr.app N0 Nq1
  refine own_via (G := T1.setTop (mkF m 19 #[.val (.long (own_un q1 (31 : Int32) (62 : Int32))), .second] [(.long (own_inv (-7723592293110705685 : Int64))), (.long (own_un q1 (31 : Int32) (62 : Int32)))])) (fun t k => st1 t k) ?_
  refine own_via (G := T1.setTop (mkF m 20 #[.val (.long (own_un q1 (31 : Int32) (62 : Int32))), .second] [(.long ((own_un q1 (31 : Int32) (62 : Int32)) * (own_inv (-7723592293110705685 : Int64))))])) (fun t k => XT.lmul X1.here hx rfl (hb hby d4_19) rfl k) ?_
  refine own_via (G := T1.setTop (mkF m 21 #[.val (.long ((own_un q1 (31 : Int32) (62 : Int32)) * (own_inv (-7723592293110705685 : Int64)))), .second] [])) (fun t k => XT.lstoreN X1.here hx rfl (hb hby d4_20) rfl (l' := #[.val (.long ((own_un q1 (31 : Int32) (62 : Int32)) * (own_inv (-7723592293110705685 : Int64)))), .second]) rfl k) ?_
  refine own_via (G := T1.setTop (mkF m 22 #[.val (.long ((own_un q1 (31 : Int32) (62 : Int32)) * (own_inv (-7723592293110705685 : Int64)))), .second] [(.long ((own_un q1 (31 : Int32) (62 : Int32)) * (own_inv (-7723592293110705685 : Int64))))])) (fun t k => XT.lloadN X1.here hx rfl (hb hby d4_21) rfl k) ?_
  refine own_via (G := T1.setTop (mkF m 23 #[.val (.long ((own_un q1 (31 : Int32) (62 : Int32)) * (own_inv (-7723592293110705685 : Int64)))), .second] [(.long ((own_un q1 (31 : Int32) (62 : Int32)) * (own_inv (-7723592293110705685 : Int64)))), (.long ((own_un q1 (31 : Int32) (62 : Int32)) * (own_inv (-7723592293110705685 : Int64))))])) (fun t k => XT.lloadN X1.here hx rfl (hb hby d4_22) rfl k) ?_
  refine own_via (G := T1.setTop (mkF m 25 #[.val (.long ((own_un q1 (31 : Int32) (62 : Int32)) * (own_inv (-7723592293110705685 : Int64)))), .second] [(.int (27 : Int32)), (.long ((own_un q1 (31 : Int32) (62 : Int32)) * (own_inv (-7723592293110705685 : Int64)))), (.long ((own_un q1 (31 : Int32) (62 : Int32)) * (own_inv (-7723592293110705685 : Int64))))])) (fun t k => XS.bipush X1.here hx rfl (hb hby d4_23) k) ?_
  refine own_via (G := T1.setTop (mkF m 26 #[.val (.long ((own_un q1 (31 : Int32) (62 : Int32)) * (own_inv (-7723592293110705685 : Int64)))), .second] [(.long (XT.ushrL ((own_un q1 (31 : Int32) (62 : Int32)) * (own_inv (-7723592293110705685 : Int64))) (27 : Int32))), (.long ((own_un q1 (31 : Int32) (62 : Int32)) * (own_inv (-7723592293110705685 : Int64))))])) (fun t k => XT.lushr X1.here hx rfl (hb hby d4_25) rfl k) ?_
  refine own_via (G := T1.setTop (mkF m 27 #[.val (.long ((own_un q1 (31 : Int32) (62 : Int32)) * (own_inv (-7723592293110705685 : Int64)))), .second] [(.long (((own_un q1 (31 : Int32) (62 : Int32)) * (own_inv (-7723592293110705685 : Int64))) ^^^ (XT.ushrL ((own_un q1 (31 : Int32) (62 : Int32)) * (own_inv (-7723592293110705685 : Int64))) (27 : Int32))))])) (fun t k => XT.lxor X1.here hx rfl (hb hby d4_26) rfl k) ?_
  refine own_via (G := T1.setTop (mkF m 28 #[.val (.long ((own_un q1 (31 : Int32) (62 : Int32)) * (own_inv (-7723592293110705685 : Int64)))), .second] [(.long ((own_un q1 (31 : Int32) (62 : Int32)) * (own_inv (-7723592293110705685 : Int64)))), (.long (((own_un q1 (31 : Int32) (62 : Int32)) * (own_inv (-7723592293110705685 : Int64))) ^^^ (XT.ushrL ((own_un q1 (31 : Int32) (62 : Int32)) * (own_inv (-7723592293110705685 : Int64))) (27 : Int32))))])) (fun t k => XT.lloadN X1.here hx rfl (hb hby d4_27) rfl k) ?_
  refine own_via (G := T1.setTop (mkF m 30 #[.val (.long ((own_un q1 (31 : Int32) (62 : Int32)) * (own_inv (-7723592293110705685 : Int64)))), .second] [(.int (54 : Int32)), (.long ((own_un q1 (31 : Int32) (62 : Int32)) * (own_inv (-7723592293110705685 : Int64)))), (.long (((own_un q1 (31 : Int32) (62 : Int32)) * (own_inv (-7723592293110705685 : Int64))) ^^^ (XT.ushrL ((own_un q1 (31 : Int32) (62 : Int32)) * (own_inv (-7723592293110705685 : Int64))) (27 : Int32))))])) (fun t k => XS.bipush X1.here hx rfl (hb hby d4_28) k) ?_
  refine own_via (G := T1.setTop (mkF m 31 #[.val (.long ((own_un q1 (31 : Int32) (62 : Int32)) * (own_inv (-7723592293110705685 : Int64)))), .second] [(.long (XT.ushrL ((own_un q1 (31 : Int32) (62 : Int32)) * (own_inv (-7723592293110705685 : Int64))) (54 : Int32))), (.long (((own_un q1 (31 : Int32) (62 : Int32)) * (own_inv (-7723592293110705685 : Int64))) ^^^ (XT.ushrL ((own_un q1 (31 : Int32) (62 : Int32)) * (own_inv (-7723592293110705685 : Int64))) (27 : Int32))))])) (fun t k => XT.lushr X1.here hx rfl (hb hby d4_30) rfl k) ?_
  refine own_via (G := T1.setTop (mkF m 32 #[.val (.long ((own_un q1 (31 : Int32) (62 : Int32)) * (own_inv (-7723592293110705685 : Int64)))), .second] [(.long (own_un ((own_un q1 (31 : Int32) (62 : Int32)) * (own_inv (-7723592293110705685 : Int64))) (27 : Int32) (54 : Int32)))])) (fun t k => XT.lxor X1.here hx rfl (hb hby d4_31) rfl k) ?_
  refine own_via (G := T1.setTop (mkF m 33 #[.val (.long (own_un ((own_un q1 (31 : Int32) (62 : Int32)) * (own_inv (-7723592293110705685 : Int64))) (27 : Int32) (54 : Int32))), .second] [])) (fun t k => XT.lstoreN X1.here hx rfl (hb hby d4_32) rfl (l' := #[.val (.long (own_un ((own_un q1 (31 : Int32) (62 : Int32)) * (own_inv (-7723592293110705685 : Int64))) (27 : Int32) (54 : Int32))), .second]) rfl k) ?_
  refine own_via (G := T1.setTop (mkF m 34 #[.val (.long (own_un ((own_un q1 (31 : Int32) (62 : Int32)) * (own_inv (-7723592293110705685 : Int64))) (27 : Int32) (54 : Int32))), .second] [(.long (own_un ((own_un q1 (31 : Int32) (62 : Int32)) * (own_inv (-7723592293110705685 : Int64))) (27 : Int32) (54 : Int32)))])) (fun t k => XT.lloadN X1.here hx rfl (hb hby d4_33) rfl k) ?_
  refine own_via (G := T1.setTop (mkF m 37 #[.val (.long (own_un ((own_un q1 (31 : Int32) (62 : Int32)) * (own_inv (-7723592293110705685 : Int64))) (27 : Int32) (54 : Int32))), .second] [(.long (-4658895280553007687 : Int64)), (.long (own_un ((own_un q1 (31 : Int32) (62 : Int32)) * (own_inv (-7723592293110705685 : Int64))) (27 : Int32) (54 : Int32)))])) (fun t k => X1.ldc2J hx hown (mvT hZ (hw _ (List.mem_of_getElem? (i := 29) rfl))) (g := (mkF m 34 #[.val (.long (own_un ((own_un q1 (31 : Int32) (62 : Int32)) * (own_inv (-7723592293110705685 : Int64))) (27 : Int32) (54 : Int32))), .second] [(.long (own_un ((own_un q1 (31 : Int32) (62 : Int32)) * (own_inv (-7723592293110705685 : Int64))) (27 : Int32) (54 : Int32)))])) rfl (hb hby d4_34) k) ?_
  obtain ⟨_, _, ⟨T2, L2, k2, n2⟩, -, X2, ⟨Lc2, hQ2, l2, y2, z2⟩, st2⟩ := Jvm.LawKit.callS X1 hx (y := (⟨"com/example/glar/glar/generator/SplitMixNextPinLaw", "inverse", "(J)J"⟩ : MethodName)) hown (mvT hZ (hw _ (List.mem_of_getElem? (i := 25) rfl))) (mvT hZ (hw _ (List.mem_of_getElem? (i := 26) rfl))) (mvT hZ (hw _ (List.mem_of_getElem? (i := 22) rfl))) (mvT hZ (hw _ (List.mem_of_getElem? (i := 27) rfl))) (by decide) (backOf (W := 2) (rm5 l Z a0 hw [] (-4658895280553007687 : Int64) h0 n0 Z0) hZ (hw _ (List.mem_of_getElem? (i := 27) rfl)) (hw _ (List.mem_of_getElem? (i := 22) rfl)) (by decide) (by decide)) (g := (mkF m 37 #[.val (.long (own_un ((own_un q1 (31 : Int32) (62 : Int32)) * (own_inv (-7723592293110705685 : Int64))) (27 : Int32) (54 : Int32))), .second] [(.long (-4658895280553007687 : Int64)), (.long (own_un ((own_un q1 (31 : Int32) (62 : Int32)) * (own_inv (-7723592293110705685 : Int64))) (27 : Int32) (54 : Int32)))])) rfl (by rw [hml]; rfl) (argsL := [(.long (-4658895280553007687 : Int64))]) (rest := [(.long (own_un ((own_un q1 (31 : Int32) (62 : Int32)) * (own_inv (-7723592293110705685 : Int64))) (27 : Int32) (54 : Int32)))]) (lenOf pd_0 rfl) rfl (by show 2 * 0 + _ ≤ _; exact Nat.le_of_eq rfl) (hb hby d4_37) (fun _ _ => ⟨rfl, eh1, (by decide : (0 + 0) + 0 ≤ _), (by decide : (0 + 0) + 0 ≤ _)⟩)
  dsimp only [Pt.U, Pt.locs, Pt.cells, Pt.slots] at X2 l2 y2 z2 st2 hQ2
  subst l2 y2 z2
  obtain ⟨rfl, Nq2, eh2⟩ := hQ2
  have N2 := Fr.app N1 Nq2
  refine own_via (G := T2.setTop (mkF m 40 #[.val (.long (own_un ((own_un q1 (31 : Int32) (62 : Int32)) * (own_inv (-7723592293110705685 : Int64))) (27 : Int32) (54 : Int32))), .second] [(.long (own_inv (-4658895280553007687 : Int64))), (.long (own_un ((own_un q1 (31 : Int32) (62 : Int32)) * (own_inv (-7723592293110705685 : Int64))) (27 : Int32) (54 : Int32)))])) (fun t k => st2 t k) ?_
  refine own_via (G := T2.setTop (mkF m 41 #[.val (.long (own_un ((own_un q1 (31 : Int32) (62 : Int32)) * (own_inv (-7723592293110705685 : Int64))) (27 : Int32) (54 : Int32))), .second] [(.long ((own_un ((own_un q1 (31 : Int32) (62 : Int32)) * (own_inv (-7723592293110705685 : Int64))) (27 : Int32) (54 : Int32)) * (own_inv (-4658895280553007687 : Int64))))])) (fun t k => XT.lmul X2.here hx rfl (hb hby d4_40) rfl k) ?_
  refine own_via (G := T2.setTop (mkF m 42 #[.val (.long ((own_un ((own_un q1 (31 : Int32) (62 : Int32)) * (own_inv (-7723592293110705685 : Int64))) (27 : Int32) (54 : Int32)) * (own_inv (-4658895280553007687 : Int64)))), .second] [])) (fun t k => XT.lstoreN X2.here hx rfl (hb hby d4_41) rfl (l' := #[.val (.long ((own_un ((own_un q1 (31 : Int32) (62 : Int32)) * (own_inv (-7723592293110705685 : Int64))) (27 : Int32) (54 : Int32)) * (own_inv (-4658895280553007687 : Int64)))), .second]) rfl k) ?_
  refine own_via (G := T2.setTop (mkF m 43 #[.val (.long ((own_un ((own_un q1 (31 : Int32) (62 : Int32)) * (own_inv (-7723592293110705685 : Int64))) (27 : Int32) (54 : Int32)) * (own_inv (-4658895280553007687 : Int64)))), .second] [(.long ((own_un ((own_un q1 (31 : Int32) (62 : Int32)) * (own_inv (-7723592293110705685 : Int64))) (27 : Int32) (54 : Int32)) * (own_inv (-4658895280553007687 : Int64))))])) (fun t k => XT.lloadN X2.here hx rfl (hb hby d4_42) rfl k) ?_
  refine own_via (G := T2.setTop (mkF m 44 #[.val (.long ((own_un ((own_un q1 (31 : Int32) (62 : Int32)) * (own_inv (-7723592293110705685 : Int64))) (27 : Int32) (54 : Int32)) * (own_inv (-4658895280553007687 : Int64)))), .second] [(.long ((own_un ((own_un q1 (31 : Int32) (62 : Int32)) * (own_inv (-7723592293110705685 : Int64))) (27 : Int32) (54 : Int32)) * (own_inv (-4658895280553007687 : Int64)))), (.long ((own_un ((own_un q1 (31 : Int32) (62 : Int32)) * (own_inv (-7723592293110705685 : Int64))) (27 : Int32) (54 : Int32)) * (own_inv (-4658895280553007687 : Int64))))])) (fun t k => XT.lloadN X2.here hx rfl (hb hby d4_43) rfl k) ?_
  refine own_via (G := T2.setTop (mkF m 46 #[.val (.long ((own_un ((own_un q1 (31 : Int32) (62 : Int32)) * (own_inv (-7723592293110705685 : Int64))) (27 : Int32) (54 : Int32)) * (own_inv (-4658895280553007687 : Int64)))), .second] [(.int (30 : Int32)), (.long ((own_un ((own_un q1 (31 : Int32) (62 : Int32)) * (own_inv (-7723592293110705685 : Int64))) (27 : Int32) (54 : Int32)) * (own_inv (-4658895280553007687 : Int64)))), (.long ((own_un ((own_un q1 (31 : Int32) (62 : Int32)) * (own_inv (-7723592293110705685 : Int64))) (27 : Int32) (54 : Int32)) * (own_inv (-4658895280553007687 : Int64))))])) (fun t k => XS.bipush X2.here hx rfl (hb hby d4_44) k) ?_
  refine own_via (G := T2.setTop (mkF m 47 #[.val (.long ((own_un ((own_un q1 (31 : Int32) (62 : Int32)) * (own_inv (-7723592293110705685 : Int64))) (27 : Int32) (54 : Int32)) * (own_inv (-4658895280553007687 : Int64)))), .second] [(.long (XT.ushrL ((own_un ((own_un q1 (31 : Int32) (62 : Int32)) * (own_inv (-7723592293110705685 : Int64))) (27 : Int32) (54 : Int32)) * (own_inv (-4658895280553007687 : Int64))) (30 : Int32))), (.long ((own_un ((own_un q1 (31 : Int32) (62 : Int32)) * (own_inv (-7723592293110705685 : Int64))) (27 : Int32) (54 : Int32)) * (own_inv (-4658895280553007687 : Int64))))])) (fun t k => XT.lushr X2.here hx rfl (hb hby d4_46) rfl k) ?_
  refine own_via (G := T2.setTop (mkF m 48 #[.val (.long ((own_un ((own_un q1 (31 : Int32) (62 : Int32)) * (own_inv (-7723592293110705685 : Int64))) (27 : Int32) (54 : Int32)) * (own_inv (-4658895280553007687 : Int64)))), .second] [(.long (((own_un ((own_un q1 (31 : Int32) (62 : Int32)) * (own_inv (-7723592293110705685 : Int64))) (27 : Int32) (54 : Int32)) * (own_inv (-4658895280553007687 : Int64))) ^^^ (XT.ushrL ((own_un ((own_un q1 (31 : Int32) (62 : Int32)) * (own_inv (-7723592293110705685 : Int64))) (27 : Int32) (54 : Int32)) * (own_inv (-4658895280553007687 : Int64))) (30 : Int32))))])) (fun t k => XT.lxor X2.here hx rfl (hb hby d4_47) rfl k) ?_
  refine own_via (G := T2.setTop (mkF m 49 #[.val (.long ((own_un ((own_un q1 (31 : Int32) (62 : Int32)) * (own_inv (-7723592293110705685 : Int64))) (27 : Int32) (54 : Int32)) * (own_inv (-4658895280553007687 : Int64)))), .second] [(.long ((own_un ((own_un q1 (31 : Int32) (62 : Int32)) * (own_inv (-7723592293110705685 : Int64))) (27 : Int32) (54 : Int32)) * (own_inv (-4658895280553007687 : Int64)))), (.long (((own_un ((own_un q1 (31 : Int32) (62 : Int32)) * (own_inv (-7723592293110705685 : Int64))) (27 : Int32) (54 : Int32)) * (own_inv (-4658895280553007687 : Int64))) ^^^ (XT.ushrL ((own_un ((own_un q1 (31 : Int32) (62 : Int32)) * (own_inv (-7723592293110705685 : Int64))) (27 : Int32) (54 : Int32)) * (own_inv (-4658895280553007687 : Int64))) (30 : Int32))))])) (fun t k => XT.lloadN X2.here hx rfl (hb hby d4_48) rfl k) ?_
  refine own_via (G := T2.setTop (mkF m 51 #[.val (.long ((own_un ((own_un q1 (31 : Int32) (62 : Int32)) * (own_inv (-7723592293110705685 : Int64))) (27 : Int32) (54 : Int32)) * (own_inv (-4658895280553007687 : Int64)))), .second] [(.int (60 : Int32)), (.long ((own_un ((own_un q1 (31 : Int32) (62 : Int32)) * (own_inv (-7723592293110705685 : Int64))) (27 : Int32) (54 : Int32)) * (own_inv (-4658895280553007687 : Int64)))), (.long (((own_un ((own_un q1 (31 : Int32) (62 : Int32)) * (own_inv (-7723592293110705685 : Int64))) (27 : Int32) (54 : Int32)) * (own_inv (-4658895280553007687 : Int64))) ^^^ (XT.ushrL ((own_un ((own_un q1 (31 : Int32) (62 : Int32)) * (own_inv (-7723592293110705685 : Int64))) (27 : Int32) (54 : Int32)) * (own_inv (-4658895280553007687 : Int64))) (30 : Int32))))])) (fun t k => XS.bipush X2.here hx rfl (hb hby d4_49) k) ?_
  refine own_via (G := T2.setTop (mkF m 52 #[.val (.long ((own_un ((own_un q1 (31 : Int32) (62 : Int32)) * (own_inv (-7723592293110705685 : Int64))) (27 : Int32) (54 : Int32)) * (own_inv (-4658895280553007687 : Int64)))), .second] [(.long (XT.ushrL ((own_un ((own_un q1 (31 : Int32) (62 : Int32)) * (own_inv (-7723592293110705685 : Int64))) (27 : Int32) (54 : Int32)) * (own_inv (-4658895280553007687 : Int64))) (60 : Int32))), (.long (((own_un ((own_un q1 (31 : Int32) (62 : Int32)) * (own_inv (-7723592293110705685 : Int64))) (27 : Int32) (54 : Int32)) * (own_inv (-4658895280553007687 : Int64))) ^^^ (XT.ushrL ((own_un ((own_un q1 (31 : Int32) (62 : Int32)) * (own_inv (-7723592293110705685 : Int64))) (27 : Int32) (54 : Int32)) * (own_inv (-4658895280553007687 : Int64))) (30 : Int32))))])) (fun t k => XT.lushr X2.here hx rfl (hb hby d4_51) rfl k) ?_
  refine own_via (G := T2.setTop (mkF m 53 #[.val (.long ((own_un ((own_un q1 (31 : Int32) (62 : Int32)) * (own_inv (-7723592293110705685 : Int64))) (27 : Int32) (54 : Int32)) * (own_inv (-4658895280553007687 : Int64)))), .second] [(.long (own_un ((own_un ((own_un q1 (31 : Int32) (62 : Int32)) * (own_inv (-7723592293110705685 : Int64))) (27 : Int32) (54 : Int32)) * (own_inv (-4658895280553007687 : Int64))) (30 : Int32) (60 : Int32)))])) (fun t k => XT.lxor X2.here hx rfl (hb hby d4_52) rfl k) ?_
  refine own_via (G := T2.setTop (mkF m 54 #[.val (.long (own_un ((own_un ((own_un q1 (31 : Int32) (62 : Int32)) * (own_inv (-7723592293110705685 : Int64))) (27 : Int32) (54 : Int32)) * (own_inv (-4658895280553007687 : Int64))) (30 : Int32) (60 : Int32))), .second] [])) (fun t k => XT.lstoreN X2.here hx rfl (hb hby d4_53) rfl (l' := #[.val (.long (own_un ((own_un ((own_un q1 (31 : Int32) (62 : Int32)) * (own_inv (-7723592293110705685 : Int64))) (27 : Int32) (54 : Int32)) * (own_inv (-4658895280553007687 : Int64))) (30 : Int32) (60 : Int32))), .second]) rfl k) ?_
  refine own_via (G := T2.setTop (mkF m 55 #[.val (.long (own_un ((own_un ((own_un q1 (31 : Int32) (62 : Int32)) * (own_inv (-7723592293110705685 : Int64))) (27 : Int32) (54 : Int32)) * (own_inv (-4658895280553007687 : Int64))) (30 : Int32) (60 : Int32))), .second] [(.long (own_un ((own_un ((own_un q1 (31 : Int32) (62 : Int32)) * (own_inv (-7723592293110705685 : Int64))) (27 : Int32) (54 : Int32)) * (own_inv (-4658895280553007687 : Int64))) (30 : Int32) (60 : Int32)))])) (fun t k => XT.lloadN X2.here hx rfl (hb hby d4_54) rfl k) ?_
  exact own_fin X2 eh2 (v := some (.long (own_un ((own_un ((own_un q1 (31 : Int32) (62 : Int32)) * (own_inv (-7723592293110705685 : Int64))) (27 : Int32) (54 : Int32)) * (own_inv (-4658895280553007687 : Int64))) (30 : Int32) (60 : Int32)))) (fun h => by rw [hret] at h; cases h) hlk (fun fs hr => X2.lreturnOut hx hret (hb hby d4_55) hr) (show ((fun v h L => Q4 Z q1 h0 n0 v h L)) (some (.long (own_un ((own_un ((own_un q1 (31 : Int32) (62 : Int32)) * (own_inv (-7723592293110705685 : Int64))) (27 : Int32) (54 : Int32)) * (own_inv (-4658895280553007687 : Int64))) (30 : Int32) (60 : Int32)))) h0 _ from ⟨rfl, N2, rfl⟩) (by decide) (by decide)
theorem ef_4 (m : MethodId) (q1 : Int64) : entryFrame m #[(.long q1)] 2 = mkF m 0 #[.val (.long q1), .second] [] := by first | (simp [entryFrame, mkF, argsToLocals, Value.category, maxLocals]; done) | rfl
set_option maxRecDepth 65536 in
set_option maxHeartbeats 40000000 in
theorem rm4 (l : Launch) (Z : State) (a0 : Array Value) (hw : ∀ d ∈ tables_1, d.before a0 Z = true) (ws : List Jvm.Cond) (q1 : Int64) (h0 : Heap) (n0 : Nat) (Z0 : n0 ≤ h0.size) :
    MetFree l (⟨"com/example/glar/glar/generator/SplitMixNextPinLaw", "unmix", "(J)J"⟩ : MethodName) (head1 (Jvm.Cond.code (⟨"com/example/glar/glar/generator/SplitMixNextPinLaw", "unmix", "(J)J"⟩ : MethodName) method_3_code 2 (some .long) :: ws) ({ frames := 1, cells := 0, slots := 0, locals := 17 } : Room)) (fun a U => a = #[(.long q1)] ∧ Z.Warmed39 U.vm ∧ U.heap = h0) (fun _ _ _ _ _ => True) (fun _ U o U' => ∃ v L, o = .returned v ∧ Q4 Z q1 h0 n0 v U'.heap L ∧ FrameEnd U o U' L ({ frames := 1, cells := 0, slots := 0, locals := 17 } : Room).cells ({ frames := 1, cells := 0, slots := 0, locals := 17 } : Room).slots) := by
  refine MetFree.of_bodySF (plainFor_of_name pn_1) hisR ?_
  intro p e s m args below meth c s₁ Bd hml0 hP hK
  obtain ⟨rfl, hZ, hh⟩ := hP
  have e0 : s₁.heap = h0 := by rw [← hh, Bd.state]; rfl
  rw [ef_4 m q1]
  exact b4 q1 ⟨Bd.exec, hZ, hw, Bd.bytes, hml0, findClass_of_methodNamed Bd.named, Bd.returns, Bd.notSynchronized, (name_of_methodNamed Bd.named Bd.method).1⟩ (Stand.of_body Bd) e0 Z0 (Fr.nil n0)
def Q0 (Z : State) (sd : Int64) (h0 : Heap) (n0 : Nat) (v : Option Value) (h : Heap) (L : List Loc) : Prop := v = some (.int (1 : Int32)) ∧ Fr n0 L
theorem pd_1 : parseMethodDescriptor "(J)V" = some ⟨[.long], none⟩ := by decide +kernel
theorem pd_2 : parseMethodDescriptor "()J" = some ⟨[], some .long⟩ := by decide +kernel
set_option maxRecDepth 65536 in
set_option maxHeartbeats 40000000 in
theorem b0 {p : Program} {l : Launch} {e : Env} {s : State} {m : MethodId} {args : Array Value} {below : List Frame} {meth : Method} {c : Code} {T0 : State} {locs : List Loc} {Z : State} {a0 : Array Value} {h0 : Heap} {n0 : Nat} (sd : Int64)
    (C : own_C p s m meth c Z a0 code maxLocals "com/example/glar/glar/generator/SplitMixNextPinLaw" ret "law") (X0 : Stand p l e room_1 s m args below meth c T0 locs 0 0) (e0 : T0.heap = h0) (Z0 : n0 ≤ h0.size) (N0 : Fr n0 locs) :
    own_Go p.tables e below (T0.setTop (mkF m 0 #[.val (.long sd), .second, .unset, .unset, .unset, .unset, .unset, .unset, .unset] [])) (own_K s (fun v h L => Q0 Z sd h0 n0 v h L) room_1.cells room_1.slots) := by
  obtain ⟨hx, hZ, hw, hby, hml, hown, hret, hlk, hnm⟩ := C
  obtain ⟨T1, h1, X1, e1, E1, A1, D1, -, st1⟩ := newO X0 hx hZ hown (hw _ (List.mem_of_getElem? (i := 0) rfl)) (hw _ (List.mem_of_getElem? (i := 1) rfl)) (hw _ (List.mem_of_getElem? (i := 2) rfl)) e0 (g := (mkF m 0 #[.val (.long sd), .second, .unset, .unset, .unset, .unset, .unset, .unset, .unset] [])) rfl (hb hby at_0) (by decide) (by decide)
  obtain ⟨b1, g1⟩ : ∃ z, z = h0.size := ⟨_, rfl⟩
  rw [← g1] at A1 D1 st1
  have g_b1 : n0 ≤ b1 := Nat.le_trans Z0 (Nat.le_of_eq g1.symm)
  have Z1 : n0 ≤ h1.size := Nat.le_trans Z0 E1.1
  have F_state_b1 : Fld Z h1 b1 "com/example/glar/glar/generator/SplitMix" "state" "J" (.long (0 : Int64)) := D1 (Or.inl (hw _ (List.mem_of_getElem? (i := 10) rfl))) (ty := .long) (by decide)
  refine own_via (G := T1.setTop (mkF m 3 #[.val (.long sd), .second, .unset, .unset, .unset, .unset, .unset, .unset, .unset] [(.ref b1)])) (fun t k => st1 t k) ?_
  refine own_via (G := T1.setTop (mkF m 4 #[.val (.long sd), .second, .unset, .unset, .unset, .unset, .unset, .unset, .unset] [(.ref b1), (.ref b1)])) (fun t k => XS.dup X1.here hx rfl (hb hby at_3) rfl rfl k) ?_
  refine own_via (G := T1.setTop (mkF m 5 #[.val (.long sd), .second, .unset, .unset, .unset, .unset, .unset, .unset, .unset] [(.long sd), (.ref b1), (.ref b1)])) (fun t k => XT.lloadN X1.here hx rfl (hb hby at_4) rfl k) ?_
  obtain ⟨_, _, ⟨T2, L2, k2, n2⟩, -, X2, ⟨Lc2, hQ2, l2, y2, z2⟩, st2⟩ := X1.specialBack hx (y := (⟨"com/example/glar/glar/generator/SplitMix", "<init>", "(J)V"⟩ : MethodName)) rfl hown (mvT hZ (hw _ (List.mem_of_getElem? (i := 3) rfl))) (mvT hZ (hw _ (List.mem_of_getElem? (i := 4) rfl))) (mvT hZ (hw _ (List.mem_of_getElem? (i := 5) rfl))) (by decide) (backOf (W := 1) (rm1 l Z a0 hw [] b1 sd (0 : Int64) h1 n0 Z1 F_state_b1 A1 g_b1) hZ (hw _ (List.mem_of_getElem? (i := 5) rfl)) (hw _ (List.mem_of_getElem? (i := 2) rfl)) (by decide) (by decide)) (g := (mkF m 5 #[.val (.long sd), .second, .unset, .unset, .unset, .unset, .unset, .unset, .unset] [(.long sd), (.ref b1), (.ref b1)])) rfl (by rw [hml]; rfl) (Steps.refl _) (a := b1) (argsL := [(.long sd)]) (rest := [(.ref b1)]) (lenOf pd_1 rfl) rfl (by show 2 * 0 + _ ≤ _; exact Nat.le_of_eq rfl) (hb hby at_5) (fun _ _ => ⟨rfl, e1, (by decide : (0 + 1) + 0 ≤ _), (by decide : (0 + 1) + 0 ≤ _)⟩)
  dsimp only [Pt.U, Pt.locs, Pt.cells, Pt.slots] at X2 l2 y2 z2 st2 hQ2
  subst l2 y2 z2
  obtain ⟨rfl, Nq2, K2q, P0_2, P1_2⟩ := hQ2
  have N2 := Fr.app N0 Nq2
  have A1'2 := A1.keep K2q
  have Z2 : n0 ≤ T2.heap.size := Nat.le_trans Z1 K2q.1
  refine own_via (G := T2.setTop (mkF m 8 #[.val (.long sd), .second, .unset, .unset, .unset, .unset, .unset, .unset, .unset] [(.ref b1)])) (fun t k => st2.trans k) ?_
  refine own_via (G := T2.setTop (mkF m 9 #[.val (.long sd), .second, .val (.ref b1), .unset, .unset, .unset, .unset, .unset, .unset] [])) (fun t k => XS.astoreN X2.here hx rfl (hb hby at_8) rfl rfl (l' := #[.val (.long sd), .second, .val (.ref b1), .unset, .unset, .unset, .unset, .unset, .unset]) rfl k) ?_
  refine own_via (G := T2.setTop (mkF m 10 #[.val (.long sd), .second, .val (.ref b1), .unset, .unset, .unset, .unset, .unset, .unset] [(.ref b1)])) (fun t k => XS.aloadN X2.here hx rfl (hb hby at_9) rfl rfl k) ?_
  obtain ⟨cq3, kq3, q3a, q3b, q3c⟩ := isOf hZ rfl P0_2
  obtain ⟨_, _, ⟨T3, L3, k3, n3⟩, -, X3, ⟨Lc3, hQ3, l3, y3, z3⟩, st3⟩ := X2.virtualBack hx (y := (⟨"com/example/glar/glar/generator/SplitMix", "next", "()J"⟩ : MethodName)) (z := (⟨"com/example/glar/glar/generator/SplitMix", "next", "()J"⟩ : MethodName)) hown (mvT hZ (hw _ (List.mem_of_getElem? (i := 11) rfl))) (mvT hZ (hw _ (List.mem_of_getElem? (i := 12) rfl))) (notFace_of_selects (args := #[]) (mvT hZ (hw _ (List.mem_of_getElem? (i := 14) rfl)))) (mvT hZ (hw _ (List.mem_of_getElem? (i := 14) rfl))) (mvT hZ (hw _ (List.mem_of_getElem? (i := 13) rfl))) (by decide) (backOf (W := 0) (rm3 l Z a0 hw [] b1 sd T2.heap n0 Z2 P1_2 P0_2 g_b1) hZ (hw _ (List.mem_of_getElem? (i := 15) rfl)) (hw _ (List.mem_of_getElem? (i := 2) rfl)) (by decide) (by decide)) q3a q3c (g := (mkF m 10 #[.val (.long sd), .second, .val (.ref b1), .unset, .unset, .unset, .unset, .unset, .unset] [(.ref b1)])) rfl (by rw [hml]; rfl) (Steps.refl _) (argsL := []) (rest := []) (lenOf pd_2 rfl) rfl (by show 2 * 0 + _ ≤ _; exact Nat.le_of_eq rfl) (hb hby at_10) (fun _ _ => ⟨rfl, rfl, (by decide : ((0 + 1) + 0) + 0 ≤ _), (by decide : ((0 + 1) + 0) + 0 ≤ _)⟩)
  dsimp only [Pt.U, Pt.locs, Pt.cells, Pt.slots] at X3 l3 y3 z3 st3 hQ3
  subst l3 y3 z3
  obtain ⟨rfl, Nq3, K3q, P0_3, P1_3⟩ := hQ3
  have N3 := Fr.app N2 Nq3
  have P0_2'3 := P0_2.keep K3q
  have Z3 : n0 ≤ T3.heap.size := Nat.le_trans Z2 K3q.1
  refine own_via (G := T3.setTop (mkF m 13 #[.val (.long sd), .second, .val (.ref b1), .unset, .unset, .unset, .unset, .unset, .unset] [(.long (own_mix (sd + (-7046029254386353131 : Int64))))])) (fun t k => st3.trans k) ?_
  refine own_via (G := T3.setTop (mkF m 14 #[.val (.long sd), .second, .val (.ref b1), .val (.long (own_mix (sd + (-7046029254386353131 : Int64)))), .second, .unset, .unset, .unset, .unset] [])) (fun t k => XT.lstoreN X3.here hx rfl (hb hby at_13) rfl (l' := #[.val (.long sd), .second, .val (.ref b1), .val (.long (own_mix (sd + (-7046029254386353131 : Int64)))), .second, .unset, .unset, .unset, .unset]) rfl k) ?_
  refine own_via (G := T3.setTop (mkF m 15 #[.val (.long sd), .second, .val (.ref b1), .val (.long (own_mix (sd + (-7046029254386353131 : Int64)))), .second, .unset, .unset, .unset, .unset] [(.ref b1)])) (fun t k => XS.aloadN X3.here hx rfl (hb hby at_14) rfl rfl k) ?_
  obtain ⟨cq4, kq4, q4a, q4b, q4c⟩ := isOf hZ rfl P0_3
  obtain ⟨_, _, ⟨T4, L4, k4, n4⟩, -, X4, ⟨Lc4, hQ4, l4, y4, z4⟩, st4⟩ := X3.virtualBack hx (y := (⟨"com/example/glar/glar/generator/SplitMix", "next", "()J"⟩ : MethodName)) (z := (⟨"com/example/glar/glar/generator/SplitMix", "next", "()J"⟩ : MethodName)) hown (mvT hZ (hw _ (List.mem_of_getElem? (i := 11) rfl))) (mvT hZ (hw _ (List.mem_of_getElem? (i := 12) rfl))) (notFace_of_selects (args := #[]) (mvT hZ (hw _ (List.mem_of_getElem? (i := 14) rfl)))) (mvT hZ (hw _ (List.mem_of_getElem? (i := 14) rfl))) (mvT hZ (hw _ (List.mem_of_getElem? (i := 13) rfl))) (by decide) (backOf (W := 0) (rm3 l Z a0 hw [] b1 (sd + (-7046029254386353131 : Int64)) T3.heap n0 Z3 P1_3 P0_3 g_b1) hZ (hw _ (List.mem_of_getElem? (i := 15) rfl)) (hw _ (List.mem_of_getElem? (i := 2) rfl)) (by decide) (by decide)) q4a q4c (g := (mkF m 15 #[.val (.long sd), .second, .val (.ref b1), .val (.long (own_mix (sd + (-7046029254386353131 : Int64)))), .second, .unset, .unset, .unset, .unset] [(.ref b1)])) rfl (by rw [hml]; rfl) (Steps.refl _) (argsL := []) (rest := []) (lenOf pd_2 rfl) rfl (by show 2 * 0 + _ ≤ _; exact Nat.le_of_eq rfl) (hb hby at_15) (fun _ _ => ⟨rfl, rfl, (by decide : (((0 + 1) + 0) + 0) + 0 ≤ _), (by decide : (((0 + 1) + 0) + 0) + 0 ≤ _)⟩)
  dsimp only [Pt.U, Pt.locs, Pt.cells, Pt.slots] at X4 l4 y4 z4 st4 hQ4
  subst l4 y4 z4
  obtain ⟨rfl, Nq4, K4q, P0_4, P1_4⟩ := hQ4
  have N4 := Fr.app N3 Nq4
  have P0_3'4 := P0_3.keep K4q
  have Z4 : n0 ≤ T4.heap.size := Nat.le_trans Z3 K4q.1
  refine own_via (G := T4.setTop (mkF m 18 #[.val (.long sd), .second, .val (.ref b1), .val (.long (own_mix (sd + (-7046029254386353131 : Int64)))), .second, .unset, .unset, .unset, .unset] [(.long (own_mix ((sd + (-7046029254386353131 : Int64)) + (-7046029254386353131 : Int64))))])) (fun t k => st4.trans k) ?_
  refine own_via (G := T4.setTop (mkF m 20 #[.val (.long sd), .second, .val (.ref b1), .val (.long (own_mix (sd + (-7046029254386353131 : Int64)))), .second, .val (.long (own_mix ((sd + (-7046029254386353131 : Int64)) + (-7046029254386353131 : Int64)))), .second, .unset, .unset] [])) (fun t k => XT.lstore X4.here hx rfl (hb hby at_18) rfl (l' := #[.val (.long sd), .second, .val (.ref b1), .val (.long (own_mix (sd + (-7046029254386353131 : Int64)))), .second, .val (.long (own_mix ((sd + (-7046029254386353131 : Int64)) + (-7046029254386353131 : Int64)))), .second, .unset, .unset]) rfl k) ?_
  refine own_via (G := T4.setTop (mkF m 23 #[.val (.long sd), .second, .val (.ref b1), .val (.long (own_mix (sd + (-7046029254386353131 : Int64)))), .second, .val (.long (own_mix ((sd + (-7046029254386353131 : Int64)) + (-7046029254386353131 : Int64)))), .second, .unset, .unset] [(.long (-7046029254386353131 : Int64))])) (fun t k => X4.ldc2J hx hown (mvT hZ (hw _ (List.mem_of_getElem? (i := 19) rfl))) (g := (mkF m 20 #[.val (.long sd), .second, .val (.ref b1), .val (.long (own_mix (sd + (-7046029254386353131 : Int64)))), .second, .val (.long (own_mix ((sd + (-7046029254386353131 : Int64)) + (-7046029254386353131 : Int64)))), .second, .unset, .unset] [])) rfl (hb hby at_20) k) ?_
  refine own_via (G := T4.setTop (mkF m 25 #[.val (.long sd), .second, .val (.ref b1), .val (.long (own_mix (sd + (-7046029254386353131 : Int64)))), .second, .val (.long (own_mix ((sd + (-7046029254386353131 : Int64)) + (-7046029254386353131 : Int64)))), .second, .val (.long (-7046029254386353131 : Int64)), .second] [])) (fun t k => XT.lstore X4.here hx rfl (hb hby at_23) rfl (l' := #[.val (.long sd), .second, .val (.ref b1), .val (.long (own_mix (sd + (-7046029254386353131 : Int64)))), .second, .val (.long (own_mix ((sd + (-7046029254386353131 : Int64)) + (-7046029254386353131 : Int64)))), .second, .val (.long (-7046029254386353131 : Int64)), .second]) rfl k) ?_
  refine own_via (G := T4.setTop (mkF m 26 #[.val (.long sd), .second, .val (.ref b1), .val (.long (own_mix (sd + (-7046029254386353131 : Int64)))), .second, .val (.long (own_mix ((sd + (-7046029254386353131 : Int64)) + (-7046029254386353131 : Int64)))), .second, .val (.long (-7046029254386353131 : Int64)), .second] [(.long (own_mix (sd + (-7046029254386353131 : Int64))))])) (fun t k => XT.lloadN X4.here hx rfl (hb hby at_25) rfl k) ?_
  obtain ⟨_, _, ⟨T5, L5, k5, n5⟩, -, X5, ⟨Lc5, hQ5, l5, y5, z5⟩, st5⟩ := Jvm.LawKit.callS X4 hx (y := (⟨"com/example/glar/glar/generator/SplitMixNextPinLaw", "unmix", "(J)J"⟩ : MethodName)) hown (mvT hZ (hw _ (List.mem_of_getElem? (i := 20) rfl))) (mvT hZ (hw _ (List.mem_of_getElem? (i := 21) rfl))) (mvT hZ (hw _ (List.mem_of_getElem? (i := 22) rfl))) (mvT hZ (hw _ (List.mem_of_getElem? (i := 23) rfl))) (by decide) (backOf (W := 0) (rm4 l Z a0 hw [] (own_mix (sd + (-7046029254386353131 : Int64))) T4.heap n0 Z4) hZ (hw _ (List.mem_of_getElem? (i := 23) rfl)) (hw _ (List.mem_of_getElem? (i := 22) rfl)) (by decide) (by decide)) (g := (mkF m 26 #[.val (.long sd), .second, .val (.ref b1), .val (.long (own_mix (sd + (-7046029254386353131 : Int64)))), .second, .val (.long (own_mix ((sd + (-7046029254386353131 : Int64)) + (-7046029254386353131 : Int64)))), .second, .val (.long (-7046029254386353131 : Int64)), .second] [(.long (own_mix (sd + (-7046029254386353131 : Int64))))])) rfl (by rw [hml]; rfl) (argsL := [(.long (own_mix (sd + (-7046029254386353131 : Int64))))]) (rest := []) (lenOf pd_0 rfl) rfl (by show 2 * 0 + _ ≤ _; exact Nat.le_of_eq rfl) (hb hby at_26) (fun _ _ => ⟨rfl, rfl, (by decide : ((((0 + 1) + 0) + 0) + 0) + 0 ≤ _), (by decide : ((((0 + 1) + 0) + 0) + 0) + 0 ≤ _)⟩)
  dsimp only [Pt.U, Pt.locs, Pt.cells, Pt.slots] at X5 l5 y5 z5 st5 hQ5
  subst l5 y5 z5
  obtain ⟨rfl, Nq5, eh5⟩ := hQ5
  have N5 := Fr.app N4 Nq5
  refine own_via (G := T5.setTop (mkF m 29 #[.val (.long sd), .second, .val (.ref b1), .val (.long (own_mix (sd + (-7046029254386353131 : Int64)))), .second, .val (.long (own_mix ((sd + (-7046029254386353131 : Int64)) + (-7046029254386353131 : Int64)))), .second, .val (.long (-7046029254386353131 : Int64)), .second] [(.long (own_unmix (own_mix (sd + (-7046029254386353131 : Int64)))))])) (fun t k => st5 t k) ?_
  refine own_via (G := T5.setTop (mkF m 30 #[.val (.long sd), .second, .val (.ref b1), .val (.long (own_mix (sd + (-7046029254386353131 : Int64)))), .second, .val (.long (own_mix ((sd + (-7046029254386353131 : Int64)) + (-7046029254386353131 : Int64)))), .second, .val (.long (-7046029254386353131 : Int64)), .second] [(.long sd), (.long (own_unmix (own_mix (sd + (-7046029254386353131 : Int64)))))])) (fun t k => XT.lloadN X5.here hx rfl (hb hby at_29) rfl k) ?_
  refine own_via (G := T5.setTop (mkF m 32 #[.val (.long sd), .second, .val (.ref b1), .val (.long (own_mix (sd + (-7046029254386353131 : Int64)))), .second, .val (.long (own_mix ((sd + (-7046029254386353131 : Int64)) + (-7046029254386353131 : Int64)))), .second, .val (.long (-7046029254386353131 : Int64)), .second] [(.long (-7046029254386353131 : Int64)), (.long sd), (.long (own_unmix (own_mix (sd + (-7046029254386353131 : Int64)))))])) (fun t k => XT.lload X5.here hx rfl (hb hby at_30) rfl k) ?_
  refine own_via (G := T5.setTop (mkF m 33 #[.val (.long sd), .second, .val (.ref b1), .val (.long (own_mix (sd + (-7046029254386353131 : Int64)))), .second, .val (.long (own_mix ((sd + (-7046029254386353131 : Int64)) + (-7046029254386353131 : Int64)))), .second, .val (.long (-7046029254386353131 : Int64)), .second] [(.long (sd + (-7046029254386353131 : Int64))), (.long (own_unmix (own_mix (sd + (-7046029254386353131 : Int64)))))])) (fun t k => XT.ladd X5.here hx rfl (hb hby at_32) rfl k) ?_
  refine own_via (G := T5.setTop (mkF m 34 #[.val (.long sd), .second, .val (.ref b1), .val (.long (own_mix (sd + (-7046029254386353131 : Int64)))), .second, .val (.long (own_mix ((sd + (-7046029254386353131 : Int64)) + (-7046029254386353131 : Int64)))), .second, .val (.long (-7046029254386353131 : Int64)), .second] [(.int (XT.cmpL (own_unmix (own_mix (sd + (-7046029254386353131 : Int64)))) (sd + (-7046029254386353131 : Int64))))])) (fun t k => XT.lcmp X5.here hx rfl (hb hby at_33) rfl k) ?_
  have hc6_34 : (own_unmix (own_mix (sd + (-7046029254386353131 : Int64)))) = (sd + (-7046029254386353131 : Int64)) := own_back _
  refine own_via (G := T5.setTop (mkF m 37 #[.val (.long sd), .second, .val (.ref b1), .val (.long (own_mix (sd + (-7046029254386353131 : Int64)))), .second, .val (.long (own_mix ((sd + (-7046029254386353131 : Int64)) + (-7046029254386353131 : Int64)))), .second, .val (.long (-7046029254386353131 : Int64)), .second] [])) (fun t k => XS.ifNo X5.here hx rfl (hb hby at_34) rfl (XT.ll_ne_f hc6_34) k) ?_
  refine own_via (G := T5.setTop (mkF m 39 #[.val (.long sd), .second, .val (.ref b1), .val (.long (own_mix (sd + (-7046029254386353131 : Int64)))), .second, .val (.long (own_mix ((sd + (-7046029254386353131 : Int64)) + (-7046029254386353131 : Int64)))), .second, .val (.long (-7046029254386353131 : Int64)), .second] [(.long (own_mix ((sd + (-7046029254386353131 : Int64)) + (-7046029254386353131 : Int64))))])) (fun t k => XT.lload X5.here hx rfl (hb hby at_37) rfl k) ?_
  obtain ⟨_, _, ⟨T7, L7, k7, n7⟩, -, X7, ⟨Lc7, hQ7, l7, y7, z7⟩, st7⟩ := Jvm.LawKit.callS X5 hx (y := (⟨"com/example/glar/glar/generator/SplitMixNextPinLaw", "unmix", "(J)J"⟩ : MethodName)) hown (mvT hZ (hw _ (List.mem_of_getElem? (i := 20) rfl))) (mvT hZ (hw _ (List.mem_of_getElem? (i := 21) rfl))) (mvT hZ (hw _ (List.mem_of_getElem? (i := 22) rfl))) (mvT hZ (hw _ (List.mem_of_getElem? (i := 23) rfl))) (by decide) (backOf (W := 0) (rm4 l Z a0 hw [] (own_mix ((sd + (-7046029254386353131 : Int64)) + (-7046029254386353131 : Int64))) T4.heap n0 Z4) hZ (hw _ (List.mem_of_getElem? (i := 23) rfl)) (hw _ (List.mem_of_getElem? (i := 22) rfl)) (by decide) (by decide)) (g := (mkF m 39 #[.val (.long sd), .second, .val (.ref b1), .val (.long (own_mix (sd + (-7046029254386353131 : Int64)))), .second, .val (.long (own_mix ((sd + (-7046029254386353131 : Int64)) + (-7046029254386353131 : Int64)))), .second, .val (.long (-7046029254386353131 : Int64)), .second] [(.long (own_mix ((sd + (-7046029254386353131 : Int64)) + (-7046029254386353131 : Int64))))])) rfl (by rw [hml]; rfl) (argsL := [(.long (own_mix ((sd + (-7046029254386353131 : Int64)) + (-7046029254386353131 : Int64))))]) (rest := []) (lenOf pd_0 rfl) rfl (by show 2 * 0 + _ ≤ _; exact Nat.le_of_eq rfl) (hb hby at_39) (fun _ _ => ⟨rfl, eh5, (by decide : (((((0 + 1) + 0) + 0) + 0) + 0) + 0 ≤ _), (by decide : (((((0 + 1) + 0) + 0) + 0) + 0) + 0 ≤ _)⟩)
  dsimp only [Pt.U, Pt.locs, Pt.cells, Pt.slots] at X7 l7 y7 z7 st7 hQ7
  subst l7 y7 z7
  obtain ⟨rfl, Nq7, eh7⟩ := hQ7
  have N7 := Fr.app N5 Nq7
  refine own_via (G := T7.setTop (mkF m 42 #[.val (.long sd), .second, .val (.ref b1), .val (.long (own_mix (sd + (-7046029254386353131 : Int64)))), .second, .val (.long (own_mix ((sd + (-7046029254386353131 : Int64)) + (-7046029254386353131 : Int64)))), .second, .val (.long (-7046029254386353131 : Int64)), .second] [(.long (own_unmix (own_mix ((sd + (-7046029254386353131 : Int64)) + (-7046029254386353131 : Int64)))))])) (fun t k => st7 t k) ?_
  refine own_via (G := T7.setTop (mkF m 43 #[.val (.long sd), .second, .val (.ref b1), .val (.long (own_mix (sd + (-7046029254386353131 : Int64)))), .second, .val (.long (own_mix ((sd + (-7046029254386353131 : Int64)) + (-7046029254386353131 : Int64)))), .second, .val (.long (-7046029254386353131 : Int64)), .second] [(.long sd), (.long (own_unmix (own_mix ((sd + (-7046029254386353131 : Int64)) + (-7046029254386353131 : Int64)))))])) (fun t k => XT.lloadN X7.here hx rfl (hb hby at_42) rfl k) ?_
  refine own_via (G := T7.setTop (mkF m 45 #[.val (.long sd), .second, .val (.ref b1), .val (.long (own_mix (sd + (-7046029254386353131 : Int64)))), .second, .val (.long (own_mix ((sd + (-7046029254386353131 : Int64)) + (-7046029254386353131 : Int64)))), .second, .val (.long (-7046029254386353131 : Int64)), .second] [(.long (-7046029254386353131 : Int64)), (.long sd), (.long (own_unmix (own_mix ((sd + (-7046029254386353131 : Int64)) + (-7046029254386353131 : Int64)))))])) (fun t k => XT.lload X7.here hx rfl (hb hby at_43) rfl k) ?_
  refine own_via (G := T7.setTop (mkF m 46 #[.val (.long sd), .second, .val (.ref b1), .val (.long (own_mix (sd + (-7046029254386353131 : Int64)))), .second, .val (.long (own_mix ((sd + (-7046029254386353131 : Int64)) + (-7046029254386353131 : Int64)))), .second, .val (.long (-7046029254386353131 : Int64)), .second] [(.long (sd + (-7046029254386353131 : Int64))), (.long (own_unmix (own_mix ((sd + (-7046029254386353131 : Int64)) + (-7046029254386353131 : Int64)))))])) (fun t k => XT.ladd X7.here hx rfl (hb hby at_45) rfl k) ?_
  refine own_via (G := T7.setTop (mkF m 48 #[.val (.long sd), .second, .val (.ref b1), .val (.long (own_mix (sd + (-7046029254386353131 : Int64)))), .second, .val (.long (own_mix ((sd + (-7046029254386353131 : Int64)) + (-7046029254386353131 : Int64)))), .second, .val (.long (-7046029254386353131 : Int64)), .second] [(.long (-7046029254386353131 : Int64)), (.long (sd + (-7046029254386353131 : Int64))), (.long (own_unmix (own_mix ((sd + (-7046029254386353131 : Int64)) + (-7046029254386353131 : Int64)))))])) (fun t k => XT.lload X7.here hx rfl (hb hby at_46) rfl k) ?_
  refine own_via (G := T7.setTop (mkF m 49 #[.val (.long sd), .second, .val (.ref b1), .val (.long (own_mix (sd + (-7046029254386353131 : Int64)))), .second, .val (.long (own_mix ((sd + (-7046029254386353131 : Int64)) + (-7046029254386353131 : Int64)))), .second, .val (.long (-7046029254386353131 : Int64)), .second] [(.long ((sd + (-7046029254386353131 : Int64)) + (-7046029254386353131 : Int64))), (.long (own_unmix (own_mix ((sd + (-7046029254386353131 : Int64)) + (-7046029254386353131 : Int64)))))])) (fun t k => XT.ladd X7.here hx rfl (hb hby at_48) rfl k) ?_
  refine own_via (G := T7.setTop (mkF m 50 #[.val (.long sd), .second, .val (.ref b1), .val (.long (own_mix (sd + (-7046029254386353131 : Int64)))), .second, .val (.long (own_mix ((sd + (-7046029254386353131 : Int64)) + (-7046029254386353131 : Int64)))), .second, .val (.long (-7046029254386353131 : Int64)), .second] [(.int (XT.cmpL (own_unmix (own_mix ((sd + (-7046029254386353131 : Int64)) + (-7046029254386353131 : Int64)))) ((sd + (-7046029254386353131 : Int64)) + (-7046029254386353131 : Int64))))])) (fun t k => XT.lcmp X7.here hx rfl (hb hby at_49) rfl k) ?_
  have hc8_50 : (own_unmix (own_mix ((sd + (-7046029254386353131 : Int64)) + (-7046029254386353131 : Int64)))) = ((sd + (-7046029254386353131 : Int64)) + (-7046029254386353131 : Int64)) := own_back _
  refine own_via (G := T7.setTop (mkF m 53 #[.val (.long sd), .second, .val (.ref b1), .val (.long (own_mix (sd + (-7046029254386353131 : Int64)))), .second, .val (.long (own_mix ((sd + (-7046029254386353131 : Int64)) + (-7046029254386353131 : Int64)))), .second, .val (.long (-7046029254386353131 : Int64)), .second] [])) (fun t k => XS.ifNo X7.here hx rfl (hb hby at_50) rfl (XT.ll_ne_f hc8_50) k) ?_
  refine own_via (G := T7.setTop (mkF m 54 #[.val (.long sd), .second, .val (.ref b1), .val (.long (own_mix (sd + (-7046029254386353131 : Int64)))), .second, .val (.long (own_mix ((sd + (-7046029254386353131 : Int64)) + (-7046029254386353131 : Int64)))), .second, .val (.long (-7046029254386353131 : Int64)), .second] [(.int (1 : Int32))])) (fun t k => XS.iconst X7.here hx rfl (hb hby at_53) k) ?_
  refine own_via (G := T7.setTop (mkF m 58 #[.val (.long sd), .second, .val (.ref b1), .val (.long (own_mix (sd + (-7046029254386353131 : Int64)))), .second, .val (.long (own_mix ((sd + (-7046029254386353131 : Int64)) + (-7046029254386353131 : Int64)))), .second, .val (.long (-7046029254386353131 : Int64)), .second] [(.int (1 : Int32))])) (fun t k => XS.goto X7.here hx rfl (pc0 := 54) (pc' := 58) rfl (hb hby at_54) (by decide) (by decide) k) ?_
  exact own_fin X7 eh7 (v := some (.int (1 : Int32))) (fun h => by rw [hret] at h; cases h) hlk (fun fs hr => retN X7 hx (t := .boolean) hret (by simp) (hb hby at_58) hr) (show ((fun v h L => Q0 Z sd h0 n0 v h L)) (some (.int (1 : Int32))) T4.heap _ from ⟨rfl, N7⟩) (by decide) (by decide)
theorem ef_0 (m : MethodId) (sd : Int64) : entryFrame m #[(.long sd)] maxLocals = mkF m 0 #[.val (.long sd), .second, .unset, .unset, .unset, .unset, .unset, .unset, .unset] [] := by first | (simp [entryFrame, mkF, argsToLocals, Value.category, maxLocals]; done) | rfl
set_option maxRecDepth 65536 in
set_option maxHeartbeats 40000000 in
theorem rm0 (l : Launch) (Z : State) (a0 : Array Value) (hw : ∀ d ∈ tables_1, d.before a0 Z = true) (ws : List Jvm.Cond) (sd : Int64) (h0 : Heap) (n0 : Nat) (Z0 : n0 ≤ h0.size) :
    MetFree l x (head1 (Jvm.Cond.code x code maxLocals ret :: ws) room_1) (fun a U => a = #[(.long sd)] ∧ Z.Warmed39 U.vm ∧ U.heap = h0) (fun _ _ _ _ _ => True) (fun _ U o U' => ∃ v L, o = .returned v ∧ Q0 Z sd h0 n0 v U'.heap L ∧ FrameEnd U o U' L room_1.cells room_1.slots) := by
  refine MetFree.of_bodySF (plainFor_of_name pn_1) hisR ?_
  intro p e s m args below meth c s₁ Bd hml0 hP hK
  obtain ⟨rfl, hZ, hh⟩ := hP
  have e0 : s₁.heap = h0 := by rw [← hh, Bd.state]; rfl
  rw [ef_0 m sd]
  exact b0 sd ⟨Bd.exec, hZ, hw, Bd.bytes, hml0, findClass_of_methodNamed Bd.named, Bd.returns, Bd.notSynchronized, (name_of_methodNamed Bd.named Bd.method).1⟩ (Stand.of_body Bd) e0 Z0 (Fr.nil n0)
set_option maxRecDepth 65536 in
set_option maxHeartbeats 40000000 in
theorem comes_1 {Post : Tables → Env → Array Value → State → Outcome → State → Prop} (hpost : ∀ tb e args s v u, (limb_1_1.after args s (.returned v) u = true ∧ limb_1_2.after args s (.returned v) u = true ∧ True) → FrameEnd s (.returned v) u (Jvm.fieldLocs frame_1_writes args s ++ Jvm.arrayLocs frame_1_arrays args s ++ Jvm.staticLocs frame_1_statics s) 16 128 → Post tb e args s (.returned v) u) :
    ArmFor flags0 classFile x code maxLocals ret World_1 tables_1 room_1 Calls_1 rest_1 Pre_1 Post := by
  intro l hfl _ _ p e ha hc hk s m args below hf hA hF happ hP
  obtain ⟨hcalls, hrest, hpre⟩ := hP
  obtain ⟨-, -, -, hnamed, -, -, -, hat⟩ := (Spec.applies_iff hf).mp happ
  obtain ⟨hg, hn⟩ := and_e (Cond.before_iff.mp (show (Jvm.Cond.and given_1 narrow_1).before args s = true from hpre))
  obtain ⟨hcount, r0⟩ := and_e hg
  obtain ⟨w0, rfl⟩ : ∃ w0 : Value, args = #[w0] := by
    have hs : args.size = 1 := by simpa [Cond.value, given_1] using hcount
    obtain ⟨L⟩ := args
    match L, hs with
    | [w0], _ => exact ⟨w0, rfl⟩
  have hw := fun d (hd : d ∈ tables_1) => atoms_spec (ws := Jvm.Cond.code x code maxLocals ret :: tables_1) hat d (List.mem_cons_of_mem _ hd)
  obtain ⟨i0, ei0⟩ := isL_v r0
  obtain rfl : w0 = (.long i0) := Option.some.inj ei0
  obtain ⟨n, o, h1, h2, h3, _, L, rfl, ⟨rfl, N⟩, hq⟩ := rm0 l s _ hw tables_1 i0 s.heap s.heap.size (Nat.le_refl _) p e ha hc hk s m _ below hf ((Spec.applies_iff_loose hf).mp happ).1 ⟨rfl, State.Warmed39.refl s, rfl⟩ trivial
  refine ⟨n, _, h1, h2, h3, hpost _ _ _ _ _ _ ⟨Cond.after_iff.mpr rfl, Cond.after_iff.mpr (eq_i res_at (Term.int_eval (1)) rfl), trivial⟩ ⟨hq.1, hq.2.1, (hq.2.2.sift fun y hy => Or.inr (N y hy)).mono (by decide) (by decide)⟩⟩
theorem main_1_1 : Claimed_1_1 := comes_1 fun _ _ _ _ _ _ h hF => ⟨h.1, hF⟩
theorem main_1_2 : Claimed_1_2 := comes_1 fun _ _ _ _ _ _ h hF => ⟨h.2.1, hF⟩
end Jvm.Pilot.@@N@@
namespace Jvm.Pilot.@@N@@
open Jvm Jvm.ClassFile Sem Op Lib Jvm.Free Jvm.Stand Jvm.Pilot.@@N@@.Jvm.D
/-! MADE BY PROGRAM (witnessworld.py) out of the Statement's table words and the real class files: 9 classes; the members and pool entries that the words name. The judged class is class 1, her method 3. -/
namespace start1
open Jvm.ClassFile
def u (s : String) : CpInfo := .utf8 (stringToUtf16 s)
/-- a pool by its gaps: so many unusable entries, then the entry; so many at the end -/
def gap : Nat → List CpInfo → List CpInfo
  | 0, r => r
  | n + 1, r => .unusable :: gap n r
def poolList (es : List (Nat × CpInfo)) (last : Nat) : List CpInfo := es.foldr (fun e r => gap e.1 (e.2 :: r)) (gap last [])
def pool (es : List (Nat × CpInfo)) (last : Nat) : Array CpInfo := ⟨poolList es last⟩
def fileOf (pool : Array CpInfo) (this : Nat) (attrs : Array Attribute := #[]) (ms : Array MethodInfo := #[]) (fl : Nat := 33) (sup : Nat := 0) (ifs : Array Nat := #[]) (fds : Array FieldInfo := #[]) : ClassFile where
  minorVersion := 0
  majorVersion := 65
  constantPool := pool
  accessFlags := fl
  thisClass := this
  superClass := sup
  interfaces := ifs
  fields := fds
  methods := ms
  attributes := attrs
def plain (name : String) (sup : Option ClassId) : Class where
  name := name
  kind := .ordinary
  loader := none
  accessFlags := 33
  super := sup
  interfaces := #[]
  cf := none
  fields := #[]
  methods := #[]
  instanceTypes := #[]
  staticTypes := #[]
  resolved := #[]
  callSites := []
  init := .initialized
  statics := none
  mirror := none

def pool0 : Array CpInfo := pool [(5, u "<init>"), (0, u "()V"), (1, .class_ 10), (1, u "java/lang/Object")] 113

def k0c0 : Code := { maxStack := 0, maxLocals := 1, code := object_method_1_code, exceptionTable := #[], attributes := #[] }
def k0m0 : Method := { name := "<init>", desc := "()V", sig := { parameters := [], returnType := none }, accessFlags := 1, code := some k0c0 }
/-- java/lang/Object -/
def k0 : Class := { plain "java/lang/Object" none with
  accessFlags := 33
  interfaces := #[]
  cf := some (fileOf pool0 8 #[] #[{ accessFlags := 1, nameIndex := 5, descriptorIndex := 6, attributes := #[] }] 33 0 #[] #[])
  fields := #[]
  methods := #[k0m0]
  instanceTypes := #[]
  staticTypes := #[]
  resolved := Array.replicate 124 none
  statics := none }

def pool1 : Array CpInfo := pool [(2, .class_ 4), (1, u "java/lang/Object"), (0, u "<init>"), (0, u "()V"), (0, .long 2), (1, .long 10723151780598845931), (1, .methodref 12 13), (0, .class_ 14), (0, .nameAndType 15 16), (0, u "com/example/glar/glar/generator/SplitMixNextPinLaw"), (0, u "inverse"), (0, u "(J)J"), (0, .long 13787848793156543929), (1, .class_ 20), (0, u "com/example/glar/glar/generator/SplitMix"), (0, .methodref 19 22), (0, .nameAndType 5 23), (0, u "(J)V"), (0, .methodref 19 25), (0, .nameAndType 26 27), (0, u "next"), (0, u "()J"), (0, .long 11400714819323198485), (1, .methodref 12 31), (0, .nameAndType 32 16), (0, u "unmix"), (2, u "law"), (0, u "(J)Z")] 3

def k1m0 : Method := { name := "<init>", desc := "()V", sig := { parameters := [], returnType := none }, accessFlags := 1, code := none }
def k1c1 : Code := { maxStack := 8, maxLocals := 4, code := method_2_code, exceptionTable := #[], attributes := #[] }
def k1m1 : Method := { name := "inverse", desc := "(J)J", sig := { parameters := [.long], returnType := some .long }, accessFlags := 10, code := some k1c1 }
def k1c2 : Code := { maxStack := 5, maxLocals := 2, code := method_3_code, exceptionTable := #[], attributes := #[] }
def k1m2 : Method := { name := "unmix", desc := "(J)J", sig := { parameters := [.long], returnType := some .long }, accessFlags := 10, code := some k1c2 }
def k1c3 : Code := { maxStack := 6, maxLocals := 9, code := code, exceptionTable := #[], attributes := #[] }
def k1m3 : Method := { name := "law", desc := "(J)Z", sig := { parameters := [.long], returnType := some .boolean }, accessFlags := 9, code := some k1c3 }
/-- com/example/glar/glar/generator/SplitMixNextPinLaw -/
def k1 : Class := { plain "com/example/glar/glar/generator/SplitMixNextPinLaw" (some 0) with
  accessFlags := 49
  interfaces := #[]
  cf := some (fileOf pool1 12 #[] #[{ accessFlags := 1, nameIndex := 5, descriptorIndex := 6, attributes := #[] }, { accessFlags := 10, nameIndex := 15, descriptorIndex := 16, attributes := #[] }, { accessFlags := 10, nameIndex := 32, descriptorIndex := 16, attributes := #[] }, { accessFlags := 9, nameIndex := 35, descriptorIndex := 36, attributes := #[] }] 49 2 #[] #[])
  fields := #[]
  methods := #[k1m0, k1m1, k1m2, k1m3]
  instanceTypes := #[]
  staticTypes := #[]
  resolved := Array.replicate 40 none
  statics := none }

def pool2 : Array CpInfo := pool [(1, .methodref 2 3), (0, .class_ 4), (0, .nameAndType 5 6), (0, u "java/lang/Object"), (0, u "<init>"), (0, u "()V"), (0, .fieldref 8 9), (0, .class_ 10), (0, .nameAndType 11 12), (0, u "com/example/glar/glar/generator/SplitMix"), (0, u "state"), (0, u "J"), (0, .long 11400714819323198485), (1, .long 13787848793156543929), (1, .long 10723151780598845931), (3, u "next"), (0, u "()J"), (4, u "STEP"), (1, u "(J)V")] 8

def k2c0 : Code := { maxStack := 3, maxLocals := 3, code := prog_17_method_1_code, exceptionTable := #[], attributes := #[] }
def k2m0 : Method := { name := "<init>", desc := "(J)V", sig := { parameters := [.long], returnType := none }, accessFlags := 0, code := some k2c0 }
def k2c1 : Code := { maxStack := 5, maxLocals := 3, code := prog_17_method_2_code, exceptionTable := #[], attributes := #[] }
def k2m1 : Method := { name := "next", desc := "()J", sig := { parameters := [], returnType := some .long }, accessFlags := 0, code := some k2c1 }
/-- com/example/glar/glar/generator/SplitMix -/
def k2 : Class := { plain "com/example/glar/glar/generator/SplitMix" (some 0) with
  accessFlags := 48
  interfaces := #[]
  cf := some (fileOf pool2 8 #[] #[{ accessFlags := 0, nameIndex := 5, descriptorIndex := 29, attributes := #[] }, { accessFlags := 0, nameIndex := 21, descriptorIndex := 22, attributes := #[] }] 48 2 #[] #[{ accessFlags := 26, nameIndex := 27, descriptorIndex := 12, attributes := #[] }, { accessFlags := 2, nameIndex := 11, descriptorIndex := 12, attributes := #[] }])
  fields := #[{ name := "STEP", type := .long, accessFlags := 26, slot := 0, constantValue := 0 }, { name := "state", type := .long, accessFlags := 2, slot := 0, constantValue := 0 }]
  methods := #[k2m0, k2m1]
  instanceTypes := #[.long]
  staticTypes := #[.long]
  resolved := Array.replicate 38 none
  statics := none }

def pool3 : Array CpInfo := pool [(1, u "java/lang/Cloneable"), (0, .class_ 1), (0, u "java/lang/Object"), (0, .class_ 3)] 3

/-- java/lang/Cloneable -/
def k3 : Class := { plain "java/lang/Cloneable" (some 0) with
  accessFlags := 1537
  interfaces := #[]
  cf := some (fileOf pool3 2 #[] #[] 1537 4 #[] #[])
  fields := #[]
  methods := #[]
  instanceTypes := #[]
  staticTypes := #[]
  resolved := Array.replicate 8 none
  statics := none }

def pool4 : Array CpInfo := pool [(1, u "java/io/Serializable"), (0, .class_ 1), (0, u "java/lang/Object"), (0, .class_ 3)] 3

/-- java/io/Serializable -/
def k4 : Class := { plain "java/io/Serializable" (some 0) with
  accessFlags := 1537
  interfaces := #[]
  cf := some (fileOf pool4 2 #[] #[] 1537 4 #[] #[])
  fields := #[]
  methods := #[]
  instanceTypes := #[]
  staticTypes := #[]
  resolved := Array.replicate 8 none
  statics := none }

/-- the primitive byte -/
def k5 : Class := { plain "byte" none with kind := .primitive 'B', accessFlags := 0x411 }
/-- [B -/
def k6 : Class := { plain "[B" (some 0) with kind := .array 5 .byte, interfaces := #[3, 4], accessFlags := 1041 }

/-- the primitive int -/
def k7 : Class := { plain "int" none with kind := .primitive 'I', accessFlags := 0x411 }
/-- [I -/
def k8 : Class := { plain "[I" (some 0) with kind := .array 7 .int, interfaces := #[3, 4], accessFlags := 1041 }

def heap : Heap := #[]
def classes : Array Class := #[k0, k1, k2, k3, k4, k5, k6, k7, k8]
def interned : List (Array UInt16 × Addr) := []
def slotsUsed : Nat := 0
def theMethod : MethodId := ⟨1, 3⟩
def args0 : Array Value := #[.long 5]
def aboutOver (below : List Frame) : State where
  vm := { classes := classes, interned := interned.toArray }
  heap := heap
  slotsUsed := slotsUsed
  threads := #[{ frames := .invoking theMethod args0 :: below }]
def below0 : List Frame := [.native { method := ⟨0, 0⟩, args := #[] }]
def about1 : State := aboutOver below0
def p0 : Program := .bare "" "" ""
def e0 : Env := launch0.env 0 0 0
theorem w_frames : about1.frames = Frame.invoking theMethod args0 :: below0 := rfl
set_option maxRecDepth 65536 in
theorem w_args : argsFit about1.vm theMethod args0 = true := by decide +kernel
set_option maxRecDepth 65536 in
theorem w_heap : heapFits about1 = true := by decide +kernel
set_option maxRecDepth 65536 in
theorem w_runnable : about1.curStatus? = some .runnable := by decide +kernel
set_option maxRecDepth 65536 in
theorem w_alone : about1.alone = true := by decide +kernel
set_option maxRecDepth 65536 in
theorem w_named : about1.methodNamed? x = some theMethod := by decide +kernel
set_option maxRecDepth 65536 in
theorem w_hears : about1.hears theMethod below0 = true := by decide +kernel
set_option maxRecDepth 65536 in
theorem w_ripe : about1.ripe theMethod args0 below0 = true := by decide +kernel
theorem w_running : about1.status = .running := rfl
set_option maxRecDepth 65536 in
theorem w_room : about1.hasRoom e0.platform room_1 = true :=
  launch0.hasRoom_least _ room_1 (by decide +kernel) (by decide +kernel) (by decide +kernel) (by decide +kernel) (by decide +kernel) (by decide +kernel)
theorem allAtoms_all (ts : List Jvm.Cond) (a : Array Jvm.Value) (st : Jvm.State) : (allAtoms ts).before a st = ts.all (fun c => c.before a st) := by
  induction ts with
  | nil => rfl
  | cons c t ih =>
    show (Jvm.Cond.and c (allAtoms t)).before a st = _
    rw [Jvm.Cond.before_and, ih, List.all_cons]
def words1 : List Jvm.Cond := Jvm.Cond.code x code maxLocals ret :: tables_1
/-- a 'code' word, met by the world's own term for the bytes: nothing is compared byte by byte -/
theorem code_word {y : MethodName} {bytes : ByteArray} {mx : Nat} {rt : Option FieldType} {a : Array Value} {s : State} {m : MethodId} {meth : Method} {c : Code} (h1 : s.methodNamed? y = some m) (h2 : s.vm.method? m = some meth) (h3 : meth.code = some c) (h4 : c.code = bytes)
    (h5 : (c.maxLocals == mx && c.exceptionTable.isEmpty && decide (c.maxStack ≤ mostOperands) && decide (meth.sig.returnType = rt) && !meth.locks && decide (parseMethodDescriptor y.desc = some meth.sig)) = true) : (Jvm.Cond.code y bytes mx rt).before a s = true := by
  simp only [Bool.and_eq_true, beq_iff_eq, Bool.not_eq_true', decide_eq_true_eq] at h5
  obtain ⟨⟨⟨⟨⟨g1, g2⟩, g3⟩, g4⟩, g5⟩, g6⟩ := h5
  simp [Cond.before, Cond.holds, Cond.value, h1, h2, h3, h4, g1, g2, g3, g4, g5, g6]
def isCode : Jvm.Cond → Bool
  | .code _ _ _ _ => true
  | _ => false
theorem all_split {L : List Jvm.Cond} {P : Jvm.Cond → Bool} (h1 : L.all (fun c => isCode c || P c) = true) (h2 : ∀ c ∈ L.filter isCode, P c = true) : L.all P = true := by
  refine List.all_eq_true.mpr fun c hc => ?_
  have h := List.all_eq_true.mp h1 c hc
  rcases Bool.eq_false_or_eq_true (isCode c) with hi | hi
  · exact h2 c (List.mem_filter.mpr ⟨hc, hi⟩)
  · simpa [hi] using h
set_option maxRecDepth 65536 in
theorem w_c0 : (Jvm.Cond.code x code maxLocals ret).before args0 about1 = true := code_word (m := ⟨1, 3⟩) (meth := k1m3) (c := k1c3) (by decide +kernel) rfl rfl rfl (by decide +kernel)
set_option maxRecDepth 65536 in
theorem w_c1 : (Jvm.Cond.code ({ cls := "com/example/glar/glar/generator/SplitMix", name := "<init>", desc := "(J)V" } : Jvm.MethodName) prog_17_method_1_code (3 : Nat) (Option.none : Option Jvm.ClassFile.FieldType)).before args0 about1 = true := code_word (m := ⟨2, 0⟩) (meth := k2m0) (c := k2c0) (by decide +kernel) rfl rfl rfl (by decide +kernel)
set_option maxRecDepth 65536 in
theorem w_c2 : (Jvm.Cond.code ({ cls := "java/lang/Object", name := "<init>", desc := "()V" } : Jvm.MethodName) object_method_1_code (1 : Nat) (Option.none : Option Jvm.ClassFile.FieldType)).before args0 about1 = true := code_word (m := ⟨0, 0⟩) (meth := k0m0) (c := k0c0) (by decide +kernel) rfl rfl rfl (by decide +kernel)
set_option maxRecDepth 65536 in
theorem w_c3 : (Jvm.Cond.code ({ cls := "com/example/glar/glar/generator/SplitMix", name := "next", desc := "()J" } : Jvm.MethodName) prog_17_method_2_code (3 : Nat) (Option.some Jvm.ClassFile.FieldType.long)).before args0 about1 = true := code_word (m := ⟨2, 1⟩) (meth := k2m1) (c := k2c1) (by decide +kernel) rfl rfl rfl (by decide +kernel)
set_option maxRecDepth 65536 in
theorem w_c4 : (Jvm.Cond.code ({ cls := "com/example/glar/glar/generator/SplitMixNextPinLaw", name := "unmix", desc := "(J)J" } : Jvm.MethodName) method_3_code (2 : Nat) (Option.some Jvm.ClassFile.FieldType.long)).before args0 about1 = true := code_word (m := ⟨1, 2⟩) (meth := k1m2) (c := k1c2) (by decide +kernel) rfl rfl rfl (by decide +kernel)
set_option maxRecDepth 65536 in
theorem w_c5 : (Jvm.Cond.code ({ cls := "com/example/glar/glar/generator/SplitMixNextPinLaw", name := "inverse", desc := "(J)J" } : Jvm.MethodName) method_2_code (4 : Nat) (Option.some Jvm.ClassFile.FieldType.long)).before args0 about1 = true := code_word (m := ⟨1, 1⟩) (meth := k1m1) (c := k1c1) (by decide +kernel) rfl rfl rfl (by decide +kernel)
def codes1 : List Jvm.Cond := [Jvm.Cond.code x code maxLocals ret, Jvm.Cond.code ({ cls := "com/example/glar/glar/generator/SplitMix", name := "<init>", desc := "(J)V" } : Jvm.MethodName) prog_17_method_1_code (3 : Nat) (Option.none : Option Jvm.ClassFile.FieldType), Jvm.Cond.code ({ cls := "java/lang/Object", name := "<init>", desc := "()V" } : Jvm.MethodName) object_method_1_code (1 : Nat) (Option.none : Option Jvm.ClassFile.FieldType), Jvm.Cond.code ({ cls := "com/example/glar/glar/generator/SplitMix", name := "next", desc := "()J" } : Jvm.MethodName) prog_17_method_2_code (3 : Nat) (Option.some Jvm.ClassFile.FieldType.long), Jvm.Cond.code ({ cls := "com/example/glar/glar/generator/SplitMixNextPinLaw", name := "unmix", desc := "(J)J" } : Jvm.MethodName) method_3_code (2 : Nat) (Option.some Jvm.ClassFile.FieldType.long), Jvm.Cond.code ({ cls := "com/example/glar/glar/generator/SplitMixNextPinLaw", name := "inverse", desc := "(J)J" } : Jvm.MethodName) method_2_code (4 : Nat) (Option.some Jvm.ClassFile.FieldType.long)]
set_option maxRecDepth 65536 in
theorem codes_eq : words1.filter isCode = codes1 := rfl
theorem w_codes : ∀ c ∈ words1.filter isCode, c.before args0 about1 = true := by
  rw [codes_eq]
  intro c hc
  simp only [codes1, List.mem_cons, List.not_mem_nil, or_false] at hc
  rcases hc with rfl | rfl | rfl | rfl | rfl | rfl
  · exact w_c0
  · exact w_c1
  · exact w_c2
  · exact w_c3
  · exact w_c4
  · exact w_c5
set_option maxRecDepth 65536 in
theorem w_t1 : (words1.take 24).all (fun c => isCode c || c.before args0 about1) = true := by decide +kernel
set_option maxRecDepth 65536 in
theorem w_t2 : (words1.drop 24).all (fun c => isCode c || c.before args0 about1) = true := by decide +kernel
theorem w_tables : (allAtoms (Jvm.Cond.code x code maxLocals ret :: tables_1)).before args0 about1 = true := by
  rw [allAtoms_all]
  show words1.all (fun c => c.before args0 about1) = true
  refine all_split ?_ w_codes
  rw [← List.take_append_drop 24 words1, List.all_append, w_t1, w_t2]
  rfl
set_option maxRecDepth 65536 in
theorem w_case : (Jvm.Cond.and given_1 narrow_1).before args0 about1 = true := by decide +kernel
theorem w_applies : (headSpec (Jvm.Cond.code x code maxLocals ret :: tables_1) room_1).applies x e0.platform about1 = true :=
  (Spec.applies_iff w_frames).mpr ⟨w_running, w_runnable, w_alone, w_named, w_hears, w_ripe, w_room, w_tables⟩
theorem atStart : AtStart classFile x code maxLocals ret World_1 tables_1 room_1 Calls_1 rest_1 Pre_1 launch0 p0 e0 about1 theMethod args0 below0 :=
  ⟨lists_1, trivial, launch0.admits_env _ _ _, launch0.least_env, fairChoices_fair.cas, fairChoices_fair.clock, w_frames, w_args, w_heap, w_applies, trivial, trivial, w_case⟩
end start1
theorem witness_1 : WitnessClaimed_1 := ⟨start1.p0, start1.e0, start1.about1, start1.theMethod, start1.args0, start1.below0, start1.atStart⟩
end Jvm.Pilot.@@N@@
