import JvmDerived
import JvmDerived.Pilot.@@N@@Statement
import JvmDerived.Pilot.@@N@@Code
set_option linter.unusedVariables false
set_option linter.unusedSimpArgs false
@@BLOCK:NumsL.lean.txt@@
namespace Jvm.RoadKit
open Sem ClassFile Op Lib Jvm.Stand Jvm.Free Jvm.LawKit
section New
variable {p : Program} {l : Launch} {e : Env} {R : Room} {s : State} {m : MethodId} {args : Array Value} {below : List Frame} {meth : Method} {c : Code} {T : State} {locs : List Loc} {cells slots : Nat}
theorem retI (X : Stand p l e R s m args below meth c T locs cells slots) (hx : p.tables.exec = Jvm.exec) {pc : Nat} {Ls : Array Slot} {z : Int32} {rest : List Value} (hret : meth.sig.returnType = some .int) (hd : decode c.code pc = .ok (.ireturn, 1)) {fs : List Frame}
    (hl : ∀ (f : JFrame) (acts : List Action), f.method = m → f.locked = none → f.entered = [] → (doReturn e (T.setTop f) acts (some (.int z))).1 = T.setFrames fs) : Steps p.tables e below (T.setTop (mkF m pc Ls (.int z :: rest))) (T.setFrames fs) := by
  have hm' : T.vm.method? m = some meth := X.method'
  have hn : narrow .int (.int z) = .int z := rfl
  show Steps p.tables e below (T.setTop { method := m, pc := pc, locals := Ls, stack := _ :: rest, locked := none }) _
  jvm_step X.here [X.here.top, hx, hd, hm', hret, hn]
  first | (intro acts; rw [hl _ acts rfl rfl rfl]) | rw [hl _ _ rfl rfl rfl]
  exact Steps.refl _
end New
end Jvm.RoadKit
namespace Jvm.Pilot.@@N@@
open Jvm Jvm.ClassFile Sem Op Lib Jvm.Free Jvm.Stand Jvm.LawKit Jvm.RoadKit Bundle Jvm.Pilot.@@N@@.Jvm.D
/-- from F on the run comes to the method's end, and K holds there -/
def own_Go (tb : Tables) (e : Env) (below : List Frame) (F : State) (K : Outcome → State → Prop) : Prop := ∃ t o, Steps tb e below F t ∧ t.status = .running ∧ Ended t below o ∧ K o t
theorem own_via {tb : Tables} {e : Env} {below : List Frame} {F G : State} {K : Outcome → State → Prop} (h : ∀ t, Steps tb e below G t → Steps tb e below F t) (k : own_Go tb e below G K) : own_Go tb e below F K := by
  obtain ⟨t, o, h1, h2⟩ := k
  exact ⟨t, o, h t h1, h2⟩
/-- what is asked at the end: it has returned, Q holds of the value, the heap and what was written -/
def own_K (s : State) (Q : Option Value → Heap → List Loc → Prop) (kc ks : Nat) (o : Outcome) (t : State) : Prop := ∃ v L, o = .returned v ∧ Q v t.heap L ∧ FrameEnd s o t L kc ks
/-- what a walk knows of its method all along -/
def own_C (p : Program) (s : State) (m : MethodId) (meth : Method) (c : Code) (Z : State) (a0 : Array Value) (bytes : ByteArray) (ml : Nat) (cls : String) (rt : Option FieldType) (nme : String) : Prop :=
  p.tables.exec = Jvm.exec ∧ Z.Warmed39 s.vm ∧ (∀ d ∈ tables_1, d.before a0 Z = true) ∧ c.code = bytes ∧ c.maxLocals = ml ∧ s.vm.findClass cls = some m.cls ∧ meth.sig.returnType = rt ∧ meth.locks = false ∧ meth.name = nme
theorem own_fin {p : Program} {l : Launch} {e : Env} {R : Room} {s : State} {m : MethodId} {args : Array Value} {below : List Frame} {meth : Method} {c : Code} {T : State} {locs : List Loc} {cells slots : Nat} (X : Stand p l e R s m args below meth c T locs cells slots) {F : State} {h : Heap} (eh : T.heap = h) {v : Option Value} {Q : Option Value → Heap → List Loc → Prop} {kc ks : Nat} (hv : meth.sig.returnType = none → v = none) (hlk : meth.locks = false)
    (hstep : ∀ fs, (∀ (f : JFrame) (acts : List Action), f.method = m → f.locked = none → f.entered = [] → (doReturn e (T.setTop f) acts v).1 = T.setFrames fs) → Steps p.tables e below F (T.setFrames fs)) (q : Q v h locs) (hc : cells ≤ kc) (hs : slots ≤ ks) : own_Go p.tables e below F (own_K s Q kc ks) := by
  obtain ⟨fs, hr, hrun, hended, hW, hsame⟩ := X.leave (v := v) hv hlk
  subst eh
  exact ⟨_, _, hstep fs hr, hrun, hended, _, _, rfl, q, ⟨_, rfl⟩, hW, hsame.mono hc hs⟩
theorem own_len {p : Program} {l : Launch} {e : Env} {R : Room} {s : State} {m : MethodId} {args : Array Value} {below : List Frame} {meth : Method} {c : Code} {T : State} {locs : List Loc} {cells slots : Nat} {Z : State} {h : Heap} (X : Stand p l e R s m args below meth c T locs cells slots) (hx : p.tables.exec = Jvm.exec) (hZ : Z.Warmed39 s.vm) (eT : T.heap = h) {a : Addr} {cl : Cell} {ty : FieldType} {n : Int32} (A : Arr Z h a cl ty) (S : cl.slots.size = n.toNatClampNeg) (N : ¬ n < 0)
    {g : JFrame} (hg : g.method = m) {rest : List Value} (hs : g.stack = .ref a :: rest) (hd : decode c.code g.pc = .ok (.arraylength, 1)) {t : State} (k : Steps p.tables e below (T.setTop { g with pc := g.pc + 1, stack := .int n :: rest }) t) : Steps p.tables e below (T.setTop g) t := by
  refine X.arraylength hx (by rw [eT]; exact A.1) (State.isArrayOf_alike hZ.alike A.2.1) hg hs hd _ ?_
  rw [len_of S N]
  exact k
theorem own_ev {args : Array Value} {s : State} {t : Term} {k : Int32} (h : (Jvm.Cond.eq t (Term.int k)).value args s none s [] = some true) : t.eval args s none [] s = some (.int k) := by
  obtain ⟨x, y, h1, h2, h3, h4⟩ := cmp_v (Or.inl h)
  have h2' : (Term.int k).eval args s none [] s = some (.int k) := Term.int_eval k
  rw [h2'] at h2; cases h2
  obtain ⟨z, rfl⟩ := h4
  have hz : z = k := by
    simp only [Cond.value, h1, h2'] at h
    simpa using h
  rw [h1, hz]
theorem own_arr3 {args : Array Value} {s : State} {t : Term} {v0 v1 v2 : Int32} (hf : Fit s) (ha : (Jvm.Cond.arrayOf t .int).value args s none s [] = some true) (hl : (Jvm.Cond.eq (Term.length t) (Term.int (3 : Int32))).value args s none s [] = some true)
    (h0 : (Jvm.Cond.eq (Term.elem t (Term.int (0 : Int32))) (Term.int v0)).value args s none s [] = some true) (h1 : (Jvm.Cond.eq (Term.elem t (Term.int (1 : Int32))) (Term.int v1)).value args s none s [] = some true) (h2 : (Jvm.Cond.eq (Term.elem t (Term.int (2 : Int32))) (Term.int v2)).value args s none s [] = some true) :
    ∃ (a : Addr) (k : ClassId), t.eval args s none [] s = some (.ref a) ∧ Arv s s.heap a k .int (3 : Int32) [(.int v0), (.int v1), (.int v2)] (.int (0 : Int32)) := by
  obtain ⟨a, ea⟩ := arr_v ha
  obtain ⟨cl, A⟩ := Arr.start ea ha
  have el := own_ev hl
  have aa : s.arrayAt? a = some cl := Arr.fin (Vm.Alike.refl _) A
  have hsz : cl.slots.size < 2 ^ 31 ∧ cl.slots.size.toInt32 = (3 : Int32) := by
    simp only [Term.eval, ea, aa, Option.bind_eq_bind, Option.bind_some] at el
    split at el
    · rename_i hq
      exact ⟨hq, by simpa using el⟩
    · cases el
  have e0 := (elem_in (own_ev h0) ea (Term.int_eval _) A.1).2
  have e1 := (elem_in (own_ev h1) ea (Term.int_eval _) A.1).2
  have e2 := (elem_in (own_ev h2) ea (Term.int_eval _) A.1).2
  exact ⟨a, cl.cls, ea, Arv.start hf A hsz.1 hsz.2 (by decide) rfl ⟨e0, e1, e2, trivial⟩⟩
theorem own_fref {args : Array Value} {s : State} {t : Term} {C n d : String} {a b : Addr} (ev : t.eval args s none [] s = some (.ref a)) (h : (Term.field t C n d).eval args s none [] s = some (.ref b)) : Fld s s.heap a C n d (.ref b) := by
  rw [fld_at ev] at h
  exact Fld.start h
def own_cov (q1 : Int32) (q2 : Int32) (q3 : Int32) (aS : Addr) (aP : Addr) (aO : Addr) : Addr := (if q1 = (-1 : Int32) then (if q2 = (-1 : Int32) then (if q3 = (-1 : Int32) then aS else aO) else aP) else (if q3 = (-1 : Int32) then aS else (if q2 = (-1 : Int32) then aO else aS)))
def Q1 (Z : State) (q1 : Int32) (q2 : Int32) (q3 : Int32) (aS : Addr) (aP : Addr) (aO : Addr) (h0 : Heap) (n0 : Nat) (v : Option Value) (h : Heap) (L : List Loc) : Prop := v = some (.ref (own_cov q1 q2 q3 aS aP aO)) ∧ Fr n0 L ∧ h = h0
theorem d1_0 : decode prog_153_method_5_code 0 = .ok (.iload_n 0, 1) := by decide +kernel
theorem d1_1 : decode prog_153_method_5_code 1 = .ok (.iconst (-1), 1) := by decide +kernel
theorem d1_2 : decode prog_153_method_5_code 2 = .ok (.if_icmp .eq 23, 3) := by decide +kernel
theorem d1_25 : decode prog_153_method_5_code 25 = .ok (.iload_n 1, 1) := by decide +kernel
theorem d1_26 : decode prog_153_method_5_code 26 = .ok (.iconst (-1), 1) := by decide +kernel
theorem d1_27 : decode prog_153_method_5_code 27 = .ok (.if_icmp .eq 7, 3) := by decide +kernel
theorem d1_34 : decode prog_153_method_5_code 34 = .ok (.iload_n 2, 1) := by decide +kernel
theorem d1_35 : decode prog_153_method_5_code 35 = .ok (.iconst (-1), 1) := by decide +kernel
theorem d1_36 : decode prog_153_method_5_code 36 = .ok (.if_icmp .eq 9, 3) := by decide +kernel
theorem d1_45 : decode prog_153_method_5_code 45 = .ok (.getstatic 5, 3) := by decide +kernel
theorem d1_48 : decode prog_153_method_5_code 48 = .ok (.areturn, 1) := by decide +kernel
theorem d1_39 : decode prog_153_method_5_code 39 = .ok (.getstatic 12, 3) := by decide +kernel
theorem d1_42 : decode prog_153_method_5_code 42 = .ok (.goto 6, 3) := by decide +kernel
theorem d1_30 : decode prog_153_method_5_code 30 = .ok (.getstatic 9, 3) := by decide +kernel
theorem d1_33 : decode prog_153_method_5_code 33 = .ok (.areturn, 1) := by decide +kernel
theorem d1_5 : decode prog_153_method_5_code 5 = .ok (.iload_n 2, 1) := by decide +kernel
theorem d1_6 : decode prog_153_method_5_code 6 = .ok (.iconst (-1), 1) := by decide +kernel
theorem d1_7 : decode prog_153_method_5_code 7 = .ok (.if_icmp .eq 14, 3) := by decide +kernel
theorem d1_21 : decode prog_153_method_5_code 21 = .ok (.getstatic 5, 3) := by decide +kernel
theorem d1_24 : decode prog_153_method_5_code 24 = .ok (.areturn, 1) := by decide +kernel
theorem d1_10 : decode prog_153_method_5_code 10 = .ok (.iload_n 1, 1) := by decide +kernel
theorem d1_11 : decode prog_153_method_5_code 11 = .ok (.iconst (-1), 1) := by decide +kernel
theorem d1_12 : decode prog_153_method_5_code 12 = .ok (.if_icmp .ne 9, 3) := by decide +kernel
theorem d1_15 : decode prog_153_method_5_code 15 = .ok (.getstatic 12, 3) := by decide +kernel
theorem d1_18 : decode prog_153_method_5_code 18 = .ok (.goto 6, 3) := by decide +kernel
set_option maxRecDepth 65536 in
set_option maxHeartbeats 40000000 in
theorem b1 {p : Program} {l : Launch} {e : Env} {s : State} {m : MethodId} {args : Array Value} {below : List Frame} {meth : Method} {c : Code} {T0 : State} {locs : List Loc} {Z : State} {a0 : Array Value} {h0 : Heap} {n0 : Nat} (q1 : Int32) (q2 : Int32) (q3 : Int32) (aS : Addr) (aP : Addr) (aO : Addr)
    (C : own_C p s m meth c Z a0 prog_153_method_5_code 3 "com/example/triplewright/triplewright/store/TripleStore$Order" (some (.object "com/example/triplewright/triplewright/store/TripleStore$Order")) "covering") (X0 : Stand p l e ({ frames := 0, cells := 0, slots := 0, locals := 0 } : Room) s m args below meth c T0 locs 0 0) (e0 : T0.heap = h0) (Z0 : n0 ≤ h0.size) (N0 : Fr n0 locs) (S_SPO : Sta Z h0 "com/example/triplewright/triplewright/store/TripleStore$Order" "SPO" "Lcom/example/triplewright/triplewright/store/TripleStore$Order;" (.ref aS)) (S_POS : Sta Z h0 "com/example/triplewright/triplewright/store/TripleStore$Order" "POS" "Lcom/example/triplewright/triplewright/store/TripleStore$Order;" (.ref aP)) (S_OSP : Sta Z h0 "com/example/triplewright/triplewright/store/TripleStore$Order" "OSP" "Lcom/example/triplewright/triplewright/store/TripleStore$Order;" (.ref aO)) :
    own_Go p.tables e below (T0.setTop (mkF m 0 #[.val (.int q1), .val (.int q2), .val (.int q3)] [])) (own_K s (fun (v : Option Value) (h : Heap) (L : List Loc) => Q1 Z q1 q2 q3 aS aP aO h0 n0 v h L) ({ frames := 0, cells := 0, slots := 0, locals := 0 } : Room).cells ({ frames := 0, cells := 0, slots := 0, locals := 0 } : Room).slots) := by
  obtain ⟨hx, hZ, hw, hby, hml, hown, hret, hlk, hnm⟩ := C
  refine own_via (G := T0.setTop (mkF m 1 #[.val (.int q1), .val (.int q2), .val (.int q3)] [(.int q1)])) (fun t k => XS.iloadN X0.here hx rfl (hb hby d1_0) rfl k) ?_
  refine own_via (G := T0.setTop (mkF m 2 #[.val (.int q1), .val (.int q2), .val (.int q3)] [(.int (-1 : Int32)), (.int q1)])) (fun t k => XS.iconst X0.here hx rfl (hb hby d1_1) k) ?_
  by_cases hc1_2 : q1 = (-1 : Int32)
  · refine own_via (G := T0.setTop (mkF m 25 #[.val (.int q1), .val (.int q2), .val (.int q3)] [])) (fun t k => XS.icmpYes X0.here hx rfl (pc0 := 2) (pc' := 25) rfl (hb hby d1_2) rfl (XT.ii_eq_t hc1_2) (by decide) (by decide) k) ?_
    refine own_via (G := T0.setTop (mkF m 26 #[.val (.int q1), .val (.int q2), .val (.int q3)] [(.int q2)])) (fun t k => XS.iloadN X0.here hx rfl (hb hby d1_25) rfl k) ?_
    refine own_via (G := T0.setTop (mkF m 27 #[.val (.int q1), .val (.int q2), .val (.int q3)] [(.int (-1 : Int32)), (.int q2)])) (fun t k => XS.iconst X0.here hx rfl (hb hby d1_26) k) ?_
    by_cases hc2_27 : q2 = (-1 : Int32)
    · refine own_via (G := T0.setTop (mkF m 34 #[.val (.int q1), .val (.int q2), .val (.int q3)] [])) (fun t k => XS.icmpYes X0.here hx rfl (pc0 := 27) (pc' := 34) rfl (hb hby d1_27) rfl (XT.ii_eq_t hc2_27) (by decide) (by decide) k) ?_
      refine own_via (G := T0.setTop (mkF m 35 #[.val (.int q1), .val (.int q2), .val (.int q3)] [(.int q3)])) (fun t k => XS.iloadN X0.here hx rfl (hb hby d1_34) rfl k) ?_
      refine own_via (G := T0.setTop (mkF m 36 #[.val (.int q1), .val (.int q2), .val (.int q3)] [(.int (-1 : Int32)), (.int q3)])) (fun t k => XS.iconst X0.here hx rfl (hb hby d1_35) k) ?_
      by_cases hc3_36 : q3 = (-1 : Int32)
      · refine own_via (G := T0.setTop (mkF m 45 #[.val (.int q1), .val (.int q2), .val (.int q3)] [])) (fun t k => XS.icmpYes X0.here hx rfl (pc0 := 36) (pc' := 45) rfl (hb hby d1_36) rfl (XT.ii_eq_t hc3_36) (by decide) (by decide) k) ?_
        obtain ⟨T4, X4, e4, st4⟩ := getS2 X0 hx hZ hown (host := "") (Or.inl (hw _ (List.mem_of_getElem? (i := 20) rfl))) Via.refl e0 S_SPO (g := (mkF m 45 #[.val (.int q1), .val (.int q2), .val (.int q3)] [])) rfl (hb hby d1_45)
        refine own_via (G := T4.setTop (mkF m 48 #[.val (.int q1), .val (.int q2), .val (.int q3)] [(.ref aS)])) (fun t k => st4 t k) ?_
        exact own_fin X4 e4 (v := some (.ref aS)) (fun h => by rw [hret] at h; cases h) hlk (fun fs hr => X4.areturnOut hx rfl hret rfl (hb hby d1_48) hr) (show ((fun (v : Option Value) (h : Heap) (L : List Loc) => Q1 Z q1 q2 q3 aS aP aO h0 n0 v h L)) (some (.ref aS)) h0 _ from ⟨(by unfold own_cov; rw [if_pos hc1_2, if_pos hc2_27, if_pos hc3_36]), N0, rfl⟩) (by decide) (by decide)
      · refine own_via (G := T0.setTop (mkF m 39 #[.val (.int q1), .val (.int q2), .val (.int q3)] [])) (fun t k => XS.icmpNo X0.here hx rfl (hb hby d1_36) rfl (XT.ii_eq_f hc3_36) k) ?_
        obtain ⟨T5, X5, e5, st5⟩ := getS2 X0 hx hZ hown (host := "") (Or.inl (hw _ (List.mem_of_getElem? (i := 18) rfl))) Via.refl e0 S_OSP (g := (mkF m 39 #[.val (.int q1), .val (.int q2), .val (.int q3)] [])) rfl (hb hby d1_39)
        refine own_via (G := T5.setTop (mkF m 42 #[.val (.int q1), .val (.int q2), .val (.int q3)] [(.ref aO)])) (fun t k => st5 t k) ?_
        refine own_via (G := T5.setTop (mkF m 48 #[.val (.int q1), .val (.int q2), .val (.int q3)] [(.ref aO)])) (fun t k => XS.goto X5.here hx rfl (pc0 := 42) (pc' := 48) rfl (hb hby d1_42) (by decide) (by decide) k) ?_
        exact own_fin X5 e5 (v := some (.ref aO)) (fun h => by rw [hret] at h; cases h) hlk (fun fs hr => X5.areturnOut hx rfl hret rfl (hb hby d1_48) hr) (show ((fun (v : Option Value) (h : Heap) (L : List Loc) => Q1 Z q1 q2 q3 aS aP aO h0 n0 v h L)) (some (.ref aO)) h0 _ from ⟨(by unfold own_cov; rw [if_pos hc1_2, if_pos hc2_27, if_neg hc3_36]), N0, rfl⟩) (by decide) (by decide)
    · refine own_via (G := T0.setTop (mkF m 30 #[.val (.int q1), .val (.int q2), .val (.int q3)] [])) (fun t k => XS.icmpNo X0.here hx rfl (hb hby d1_27) rfl (XT.ii_eq_f hc2_27) k) ?_
      obtain ⟨T6, X6, e6, st6⟩ := getS2 X0 hx hZ hown (host := "") (Or.inl (hw _ (List.mem_of_getElem? (i := 4) rfl))) Via.refl e0 S_POS (g := (mkF m 30 #[.val (.int q1), .val (.int q2), .val (.int q3)] [])) rfl (hb hby d1_30)
      refine own_via (G := T6.setTop (mkF m 33 #[.val (.int q1), .val (.int q2), .val (.int q3)] [(.ref aP)])) (fun t k => st6 t k) ?_
      exact own_fin X6 e6 (v := some (.ref aP)) (fun h => by rw [hret] at h; cases h) hlk (fun fs hr => X6.areturnOut hx rfl hret rfl (hb hby d1_33) hr) (show ((fun (v : Option Value) (h : Heap) (L : List Loc) => Q1 Z q1 q2 q3 aS aP aO h0 n0 v h L)) (some (.ref aP)) h0 _ from ⟨(by unfold own_cov; rw [if_pos hc1_2, if_neg hc2_27]), N0, rfl⟩) (by decide) (by decide)
  · refine own_via (G := T0.setTop (mkF m 5 #[.val (.int q1), .val (.int q2), .val (.int q3)] [])) (fun t k => XS.icmpNo X0.here hx rfl (hb hby d1_2) rfl (XT.ii_eq_f hc1_2) k) ?_
    refine own_via (G := T0.setTop (mkF m 6 #[.val (.int q1), .val (.int q2), .val (.int q3)] [(.int q3)])) (fun t k => XS.iloadN X0.here hx rfl (hb hby d1_5) rfl k) ?_
    refine own_via (G := T0.setTop (mkF m 7 #[.val (.int q1), .val (.int q2), .val (.int q3)] [(.int (-1 : Int32)), (.int q3)])) (fun t k => XS.iconst X0.here hx rfl (hb hby d1_6) k) ?_
    by_cases hc7_7 : q3 = (-1 : Int32)
    · refine own_via (G := T0.setTop (mkF m 21 #[.val (.int q1), .val (.int q2), .val (.int q3)] [])) (fun t k => XS.icmpYes X0.here hx rfl (pc0 := 7) (pc' := 21) rfl (hb hby d1_7) rfl (XT.ii_eq_t hc7_7) (by decide) (by decide) k) ?_
      obtain ⟨T8, X8, e8, st8⟩ := getS2 X0 hx hZ hown (host := "") (Or.inl (hw _ (List.mem_of_getElem? (i := 20) rfl))) Via.refl e0 S_SPO (g := (mkF m 21 #[.val (.int q1), .val (.int q2), .val (.int q3)] [])) rfl (hb hby d1_21)
      refine own_via (G := T8.setTop (mkF m 24 #[.val (.int q1), .val (.int q2), .val (.int q3)] [(.ref aS)])) (fun t k => st8 t k) ?_
      exact own_fin X8 e8 (v := some (.ref aS)) (fun h => by rw [hret] at h; cases h) hlk (fun fs hr => X8.areturnOut hx rfl hret rfl (hb hby d1_24) hr) (show ((fun (v : Option Value) (h : Heap) (L : List Loc) => Q1 Z q1 q2 q3 aS aP aO h0 n0 v h L)) (some (.ref aS)) h0 _ from ⟨(by unfold own_cov; rw [if_neg hc1_2, if_pos hc7_7]), N0, rfl⟩) (by decide) (by decide)
    · refine own_via (G := T0.setTop (mkF m 10 #[.val (.int q1), .val (.int q2), .val (.int q3)] [])) (fun t k => XS.icmpNo X0.here hx rfl (hb hby d1_7) rfl (XT.ii_eq_f hc7_7) k) ?_
      refine own_via (G := T0.setTop (mkF m 11 #[.val (.int q1), .val (.int q2), .val (.int q3)] [(.int q2)])) (fun t k => XS.iloadN X0.here hx rfl (hb hby d1_10) rfl k) ?_
      refine own_via (G := T0.setTop (mkF m 12 #[.val (.int q1), .val (.int q2), .val (.int q3)] [(.int (-1 : Int32)), (.int q2)])) (fun t k => XS.iconst X0.here hx rfl (hb hby d1_11) k) ?_
      by_cases hc9_12 : q2 = (-1 : Int32)
      · refine own_via (G := T0.setTop (mkF m 15 #[.val (.int q1), .val (.int q2), .val (.int q3)] [])) (fun t k => XS.icmpNo X0.here hx rfl (hb hby d1_12) rfl (XT.ii_ne_f hc9_12) k) ?_
        obtain ⟨T10, X10, e10, st10⟩ := getS2 X0 hx hZ hown (host := "") (Or.inl (hw _ (List.mem_of_getElem? (i := 18) rfl))) Via.refl e0 S_OSP (g := (mkF m 15 #[.val (.int q1), .val (.int q2), .val (.int q3)] [])) rfl (hb hby d1_15)
        refine own_via (G := T10.setTop (mkF m 18 #[.val (.int q1), .val (.int q2), .val (.int q3)] [(.ref aO)])) (fun t k => st10 t k) ?_
        refine own_via (G := T10.setTop (mkF m 24 #[.val (.int q1), .val (.int q2), .val (.int q3)] [(.ref aO)])) (fun t k => XS.goto X10.here hx rfl (pc0 := 18) (pc' := 24) rfl (hb hby d1_18) (by decide) (by decide) k) ?_
        exact own_fin X10 e10 (v := some (.ref aO)) (fun h => by rw [hret] at h; cases h) hlk (fun fs hr => X10.areturnOut hx rfl hret rfl (hb hby d1_24) hr) (show ((fun (v : Option Value) (h : Heap) (L : List Loc) => Q1 Z q1 q2 q3 aS aP aO h0 n0 v h L)) (some (.ref aO)) h0 _ from ⟨(by unfold own_cov; rw [if_neg hc1_2, if_neg hc7_7, if_pos hc9_12]), N0, rfl⟩) (by decide) (by decide)
      · refine own_via (G := T0.setTop (mkF m 21 #[.val (.int q1), .val (.int q2), .val (.int q3)] [])) (fun t k => XS.icmpYes X0.here hx rfl (pc0 := 12) (pc' := 21) rfl (hb hby d1_12) rfl (XT.ii_ne_t hc9_12) (by decide) (by decide) k) ?_
        obtain ⟨T11, X11, e11, st11⟩ := getS2 X0 hx hZ hown (host := "") (Or.inl (hw _ (List.mem_of_getElem? (i := 20) rfl))) Via.refl e0 S_SPO (g := (mkF m 21 #[.val (.int q1), .val (.int q2), .val (.int q3)] [])) rfl (hb hby d1_21)
        refine own_via (G := T11.setTop (mkF m 24 #[.val (.int q1), .val (.int q2), .val (.int q3)] [(.ref aS)])) (fun t k => st11 t k) ?_
        exact own_fin X11 e11 (v := some (.ref aS)) (fun h => by rw [hret] at h; cases h) hlk (fun fs hr => X11.areturnOut hx rfl hret rfl (hb hby d1_24) hr) (show ((fun (v : Option Value) (h : Heap) (L : List Loc) => Q1 Z q1 q2 q3 aS aP aO h0 n0 v h L)) (some (.ref aS)) h0 _ from ⟨(by unfold own_cov; rw [if_neg hc1_2, if_neg hc7_7, if_neg hc9_12]), N0, rfl⟩) (by decide) (by decide)
theorem pn_0 : plainName "com/example/triplewright/triplewright/store/TripleStore$Order" = true := by first | (simp [plainName, overriddenIn]; done) | decide +kernel
theorem ef_1 (m : MethodId) (q1 : Int32) (q2 : Int32) (q3 : Int32) : entryFrame m #[(.int q1), (.int q2), (.int q3)] 3 = mkF m 0 #[.val (.int q1), .val (.int q2), .val (.int q3)] [] := by first | (simp [entryFrame, mkF, argsToLocals, Value.category, maxLocals]; done) | rfl
set_option maxRecDepth 65536 in
set_option maxHeartbeats 40000000 in
theorem rm1 (l : Launch) (Z : State) (a0 : Array Value) (hw : ∀ d ∈ tables_1, d.before a0 Z = true) (ws : List Jvm.Cond) (q1 : Int32) (q2 : Int32) (q3 : Int32) (aS : Addr) (aP : Addr) (aO : Addr) (h0 : Heap) (n0 : Nat) (Z0 : n0 ≤ h0.size) (S_SPO : Sta Z h0 "com/example/triplewright/triplewright/store/TripleStore$Order" "SPO" "Lcom/example/triplewright/triplewright/store/TripleStore$Order;" (.ref aS)) (S_POS : Sta Z h0 "com/example/triplewright/triplewright/store/TripleStore$Order" "POS" "Lcom/example/triplewright/triplewright/store/TripleStore$Order;" (.ref aP)) (S_OSP : Sta Z h0 "com/example/triplewright/triplewright/store/TripleStore$Order" "OSP" "Lcom/example/triplewright/triplewright/store/TripleStore$Order;" (.ref aO)) :
    MetFree l (⟨"com/example/triplewright/triplewright/store/TripleStore$Order", "covering", "(III)Lcom/example/triplewright/triplewright/store/TripleStore$Order;"⟩ : MethodName) (head1 (Jvm.Cond.code (⟨"com/example/triplewright/triplewright/store/TripleStore$Order", "covering", "(III)Lcom/example/triplewright/triplewright/store/TripleStore$Order;"⟩ : MethodName) prog_153_method_5_code 3 (some (.object "com/example/triplewright/triplewright/store/TripleStore$Order")) :: ws) ({ frames := 0, cells := 0, slots := 0, locals := 0 } : Room)) (fun a U => a = #[(.int q1), (.int q2), (.int q3)] ∧ Z.Warmed39 U.vm ∧ U.heap = h0) (fun _ _ _ _ _ => True) (fun _ U o U' => ∃ v L, o = .returned v ∧ Q1 Z q1 q2 q3 aS aP aO h0 n0 v U'.heap L ∧ FrameEnd U o U' L ({ frames := 0, cells := 0, slots := 0, locals := 0 } : Room).cells ({ frames := 0, cells := 0, slots := 0, locals := 0 } : Room).slots) := by
  refine MetFree.of_bodySF (plainFor_of_name pn_0) hisR ?_
  intro p e s m args below meth c s₁ Bd hml0 hP hK
  obtain ⟨rfl, hZ, hh⟩ := hP
  have e0 : s₁.heap = h0 := by rw [← hh, Bd.state]; rfl
  rw [ef_1 m q1 q2 q3]
  exact b1 q1 q2 q3 aS aP aO ⟨Bd.exec, hZ, hw, Bd.bytes, hml0, findClass_of_methodNamed Bd.named, Bd.returns, Bd.notSynchronized, (name_of_methodNamed Bd.named Bd.method).1⟩ (Stand.of_body Bd) e0 Z0 (Fr.nil n0) S_SPO S_POS S_OSP
def own_vl (q1 : Int32) : Int32 := (if q1 < (0 : Int32) then (0 : Int32) else (if (2 : Int32) < q1 then (0 : Int32) else (1 : Int32)))
def Q2 (Z : State) (q1 : Int32) (h0 : Heap) (n0 : Nat) (v : Option Value) (h : Heap) (L : List Loc) : Prop := v = some (.int (own_vl q1)) ∧ Fr n0 L ∧ h = h0
theorem d2_0 : decode method_3_code 0 = .ok (.iload_n 0, 1) := by decide +kernel
theorem d2_1 : decode method_3_code 1 = .ok (.ifCond .lt 12, 3) := by decide +kernel
theorem d2_13 : decode method_3_code 13 = .ok (.iconst 0, 1) := by decide +kernel
theorem d2_14 : decode method_3_code 14 = .ok (.ireturn, 1) := by decide +kernel
theorem d2_4 : decode method_3_code 4 = .ok (.iload_n 0, 1) := by decide +kernel
theorem d2_5 : decode method_3_code 5 = .ok (.iconst 2, 1) := by decide +kernel
theorem d2_6 : decode method_3_code 6 = .ok (.if_icmp .gt 7, 3) := by decide +kernel
theorem d2_9 : decode method_3_code 9 = .ok (.iconst 1, 1) := by decide +kernel
theorem d2_10 : decode method_3_code 10 = .ok (.goto 4, 3) := by decide +kernel
set_option maxRecDepth 65536 in
set_option maxHeartbeats 40000000 in
theorem b2 {p : Program} {l : Launch} {e : Env} {s : State} {m : MethodId} {args : Array Value} {below : List Frame} {meth : Method} {c : Code} {T0 : State} {locs : List Loc} {Z : State} {a0 : Array Value} {h0 : Heap} {n0 : Nat} (q1 : Int32)
    (C : own_C p s m meth c Z a0 method_3_code 1 "com/example/triplewright/triplewright/store/OrderCoveringPinLaw" (some .boolean) "valid") (X0 : Stand p l e ({ frames := 0, cells := 0, slots := 0, locals := 0 } : Room) s m args below meth c T0 locs 0 0) (e0 : T0.heap = h0) (Z0 : n0 ≤ h0.size) (N0 : Fr n0 locs) :
    own_Go p.tables e below (T0.setTop (mkF m 0 #[.val (.int q1)] [])) (own_K s (fun (v : Option Value) (h : Heap) (L : List Loc) => Q2 Z q1 h0 n0 v h L) ({ frames := 0, cells := 0, slots := 0, locals := 0 } : Room).cells ({ frames := 0, cells := 0, slots := 0, locals := 0 } : Room).slots) := by
  obtain ⟨hx, hZ, hw, hby, hml, hown, hret, hlk, hnm⟩ := C
  refine own_via (G := T0.setTop (mkF m 1 #[.val (.int q1)] [(.int q1)])) (fun t k => XS.iloadN X0.here hx rfl (hb hby d2_0) rfl k) ?_
  by_cases hc1_1 : q1 < (0 : Int32)
  · refine own_via (G := T0.setTop (mkF m 13 #[.val (.int q1)] [])) (fun t k => XS.ifYes X0.here hx rfl (pc0 := 1) (pc' := 13) rfl (hb hby d2_1) rfl (XT.i0_lt_t hc1_1) (by decide) (by decide) k) ?_
    refine own_via (G := T0.setTop (mkF m 14 #[.val (.int q1)] [(.int (0 : Int32))])) (fun t k => XS.iconst X0.here hx rfl (hb hby d2_13) k) ?_
    exact own_fin X0 e0 (v := some (.int (0 : Int32))) (fun h => by rw [hret] at h; cases h) hlk (fun fs hr => retN X0 hx (t := .boolean) hret (by simp) (hb hby d2_14) hr) (show ((fun (v : Option Value) (h : Heap) (L : List Loc) => Q2 Z q1 h0 n0 v h L)) (some (.int (0 : Int32))) h0 _ from ⟨(by unfold own_vl; rw [if_pos hc1_1]), N0, rfl⟩) (by decide) (by decide)
  · refine own_via (G := T0.setTop (mkF m 4 #[.val (.int q1)] [])) (fun t k => XS.ifNo X0.here hx rfl (hb hby d2_1) rfl (XT.i0_lt_f hc1_1) k) ?_
    refine own_via (G := T0.setTop (mkF m 5 #[.val (.int q1)] [(.int q1)])) (fun t k => XS.iloadN X0.here hx rfl (hb hby d2_4) rfl k) ?_
    refine own_via (G := T0.setTop (mkF m 6 #[.val (.int q1)] [(.int (2 : Int32)), (.int q1)])) (fun t k => XS.iconst X0.here hx rfl (hb hby d2_5) k) ?_
    by_cases hc2_6 : (2 : Int32) < q1
    · refine own_via (G := T0.setTop (mkF m 13 #[.val (.int q1)] [])) (fun t k => XS.icmpYes X0.here hx rfl (pc0 := 6) (pc' := 13) rfl (hb hby d2_6) rfl (XT.ii_gt_t hc2_6) (by decide) (by decide) k) ?_
      refine own_via (G := T0.setTop (mkF m 14 #[.val (.int q1)] [(.int (0 : Int32))])) (fun t k => XS.iconst X0.here hx rfl (hb hby d2_13) k) ?_
      exact own_fin X0 e0 (v := some (.int (0 : Int32))) (fun h => by rw [hret] at h; cases h) hlk (fun fs hr => retN X0 hx (t := .boolean) hret (by simp) (hb hby d2_14) hr) (show ((fun (v : Option Value) (h : Heap) (L : List Loc) => Q2 Z q1 h0 n0 v h L)) (some (.int (0 : Int32))) h0 _ from ⟨(by unfold own_vl; rw [if_neg hc1_1, if_pos hc2_6]), N0, rfl⟩) (by decide) (by decide)
    · refine own_via (G := T0.setTop (mkF m 9 #[.val (.int q1)] [])) (fun t k => XS.icmpNo X0.here hx rfl (hb hby d2_6) rfl (XT.ii_gt_f hc2_6) k) ?_
      refine own_via (G := T0.setTop (mkF m 10 #[.val (.int q1)] [(.int (1 : Int32))])) (fun t k => XS.iconst X0.here hx rfl (hb hby d2_9) k) ?_
      refine own_via (G := T0.setTop (mkF m 14 #[.val (.int q1)] [(.int (1 : Int32))])) (fun t k => XS.goto X0.here hx rfl (pc0 := 10) (pc' := 14) rfl (hb hby d2_10) (by decide) (by decide) k) ?_
      exact own_fin X0 e0 (v := some (.int (1 : Int32))) (fun h => by rw [hret] at h; cases h) hlk (fun fs hr => retN X0 hx (t := .boolean) hret (by simp) (hb hby d2_14) hr) (show ((fun (v : Option Value) (h : Heap) (L : List Loc) => Q2 Z q1 h0 n0 v h L)) (some (.int (1 : Int32))) h0 _ from ⟨(by unfold own_vl; rw [if_neg hc1_1, if_neg hc2_6]), N0, rfl⟩) (by decide) (by decide)
theorem pn_1 : plainName "com/example/triplewright/triplewright/store/OrderCoveringPinLaw" = true := by first | (simp [plainName, overriddenIn]; done) | decide +kernel
theorem ef_2 (m : MethodId) (q1 : Int32) : entryFrame m #[(.int q1)] 1 = mkF m 0 #[.val (.int q1)] [] := by first | (simp [entryFrame, mkF, argsToLocals, Value.category, maxLocals]; done) | rfl
set_option maxRecDepth 65536 in
set_option maxHeartbeats 40000000 in
theorem rm2 (l : Launch) (Z : State) (a0 : Array Value) (hw : ∀ d ∈ tables_1, d.before a0 Z = true) (ws : List Jvm.Cond) (q1 : Int32) (h0 : Heap) (n0 : Nat) (Z0 : n0 ≤ h0.size) :
    MetFree l (⟨"com/example/triplewright/triplewright/store/OrderCoveringPinLaw", "valid", "(I)Z"⟩ : MethodName) (head1 (Jvm.Cond.code (⟨"com/example/triplewright/triplewright/store/OrderCoveringPinLaw", "valid", "(I)Z"⟩ : MethodName) method_3_code 1 (some .boolean) :: ws) ({ frames := 0, cells := 0, slots := 0, locals := 0 } : Room)) (fun a U => a = #[(.int q1)] ∧ Z.Warmed39 U.vm ∧ U.heap = h0) (fun _ _ _ _ _ => True) (fun _ U o U' => ∃ v L, o = .returned v ∧ Q2 Z q1 h0 n0 v U'.heap L ∧ FrameEnd U o U' L ({ frames := 0, cells := 0, slots := 0, locals := 0 } : Room).cells ({ frames := 0, cells := 0, slots := 0, locals := 0 } : Room).slots) := by
  refine MetFree.of_bodySF (plainFor_of_name pn_1) hisR ?_
  intro p e s m args below meth c s₁ Bd hml0 hP hK
  obtain ⟨rfl, hZ, hh⟩ := hP
  have e0 : s₁.heap = h0 := by rw [← hh, Bd.state]; rfl
  rw [ef_2 m q1]
  exact b2 q1 ⟨Bd.exec, hZ, hw, Bd.bytes, hml0, findClass_of_methodNamed Bd.named, Bd.returns, Bd.notSynchronized, (name_of_methodNamed Bd.named Bd.method).1⟩ (Stand.of_body Bd) e0 Z0 (Fr.nil n0)
def own_fx (q1 : Int32) : Int32 := (if q1 = (-1 : Int32) then (0 : Int32) else (1 : Int32))
def Q3 (Z : State) (q1 : Int32) (h0 : Heap) (n0 : Nat) (v : Option Value) (h : Heap) (L : List Loc) : Prop := v = some (.int (own_fx q1)) ∧ Fr n0 L ∧ h = h0
theorem d3_0 : decode method_4_code 0 = .ok (.iload_n 0, 1) := by decide +kernel
theorem d3_1 : decode method_4_code 1 = .ok (.iconst (-1), 1) := by decide +kernel
theorem d3_2 : decode method_4_code 2 = .ok (.if_icmp .eq 7, 3) := by decide +kernel
theorem d3_9 : decode method_4_code 9 = .ok (.iconst 0, 1) := by decide +kernel
theorem d3_10 : decode method_4_code 10 = .ok (.ireturn, 1) := by decide +kernel
theorem d3_5 : decode method_4_code 5 = .ok (.iconst 1, 1) := by decide +kernel
theorem d3_6 : decode method_4_code 6 = .ok (.goto 4, 3) := by decide +kernel
set_option maxRecDepth 65536 in
set_option maxHeartbeats 40000000 in
theorem b3 {p : Program} {l : Launch} {e : Env} {s : State} {m : MethodId} {args : Array Value} {below : List Frame} {meth : Method} {c : Code} {T0 : State} {locs : List Loc} {Z : State} {a0 : Array Value} {h0 : Heap} {n0 : Nat} (q1 : Int32)
    (C : own_C p s m meth c Z a0 method_4_code 1 "com/example/triplewright/triplewright/store/OrderCoveringPinLaw" (some .int) "fixed") (X0 : Stand p l e ({ frames := 0, cells := 0, slots := 0, locals := 0 } : Room) s m args below meth c T0 locs 0 0) (e0 : T0.heap = h0) (Z0 : n0 ≤ h0.size) (N0 : Fr n0 locs) :
    own_Go p.tables e below (T0.setTop (mkF m 0 #[.val (.int q1)] [])) (own_K s (fun (v : Option Value) (h : Heap) (L : List Loc) => Q3 Z q1 h0 n0 v h L) ({ frames := 0, cells := 0, slots := 0, locals := 0 } : Room).cells ({ frames := 0, cells := 0, slots := 0, locals := 0 } : Room).slots) := by
  obtain ⟨hx, hZ, hw, hby, hml, hown, hret, hlk, hnm⟩ := C
  refine own_via (G := T0.setTop (mkF m 1 #[.val (.int q1)] [(.int q1)])) (fun t k => XS.iloadN X0.here hx rfl (hb hby d3_0) rfl k) ?_
  refine own_via (G := T0.setTop (mkF m 2 #[.val (.int q1)] [(.int (-1 : Int32)), (.int q1)])) (fun t k => XS.iconst X0.here hx rfl (hb hby d3_1) k) ?_
  by_cases hc1_2 : q1 = (-1 : Int32)
  · refine own_via (G := T0.setTop (mkF m 9 #[.val (.int q1)] [])) (fun t k => XS.icmpYes X0.here hx rfl (pc0 := 2) (pc' := 9) rfl (hb hby d3_2) rfl (XT.ii_eq_t hc1_2) (by decide) (by decide) k) ?_
    refine own_via (G := T0.setTop (mkF m 10 #[.val (.int q1)] [(.int (0 : Int32))])) (fun t k => XS.iconst X0.here hx rfl (hb hby d3_9) k) ?_
    exact own_fin X0 e0 (v := some (.int (0 : Int32))) (fun h => by rw [hret] at h; cases h) hlk (fun fs hr => retI X0 hx hret (hb hby d3_10) hr) (show ((fun (v : Option Value) (h : Heap) (L : List Loc) => Q3 Z q1 h0 n0 v h L)) (some (.int (0 : Int32))) h0 _ from ⟨(by unfold own_fx; rw [if_pos hc1_2]), N0, rfl⟩) (by decide) (by decide)
  · refine own_via (G := T0.setTop (mkF m 5 #[.val (.int q1)] [])) (fun t k => XS.icmpNo X0.here hx rfl (hb hby d3_2) rfl (XT.ii_eq_f hc1_2) k) ?_
    refine own_via (G := T0.setTop (mkF m 6 #[.val (.int q1)] [(.int (1 : Int32))])) (fun t k => XS.iconst X0.here hx rfl (hb hby d3_5) k) ?_
    refine own_via (G := T0.setTop (mkF m 10 #[.val (.int q1)] [(.int (1 : Int32))])) (fun t k => XS.goto X0.here hx rfl (pc0 := 6) (pc' := 10) rfl (hb hby d3_6) (by decide) (by decide) k) ?_
    exact own_fin X0 e0 (v := some (.int (1 : Int32))) (fun h => by rw [hret] at h; cases h) hlk (fun fs hr => retI X0 hx hret (hb hby d3_10) hr) (show ((fun (v : Option Value) (h : Heap) (L : List Loc) => Q3 Z q1 h0 n0 v h L)) (some (.int (1 : Int32))) h0 _ from ⟨(by unfold own_fx; rw [if_neg hc1_2]), N0, rfl⟩) (by decide) (by decide)
theorem ef_3 (m : MethodId) (q1 : Int32) : entryFrame m #[(.int q1)] 1 = mkF m 0 #[.val (.int q1)] [] := by first | (simp [entryFrame, mkF, argsToLocals, Value.category, maxLocals]; done) | rfl
set_option maxRecDepth 65536 in
set_option maxHeartbeats 40000000 in
theorem rm3 (l : Launch) (Z : State) (a0 : Array Value) (hw : ∀ d ∈ tables_1, d.before a0 Z = true) (ws : List Jvm.Cond) (q1 : Int32) (h0 : Heap) (n0 : Nat) (Z0 : n0 ≤ h0.size) :
    MetFree l (⟨"com/example/triplewright/triplewright/store/OrderCoveringPinLaw", "fixed", "(I)I"⟩ : MethodName) (head1 (Jvm.Cond.code (⟨"com/example/triplewright/triplewright/store/OrderCoveringPinLaw", "fixed", "(I)I"⟩ : MethodName) method_4_code 1 (some .int) :: ws) ({ frames := 0, cells := 0, slots := 0, locals := 0 } : Room)) (fun a U => a = #[(.int q1)] ∧ Z.Warmed39 U.vm ∧ U.heap = h0) (fun _ _ _ _ _ => True) (fun _ U o U' => ∃ v L, o = .returned v ∧ Q3 Z q1 h0 n0 v U'.heap L ∧ FrameEnd U o U' L ({ frames := 0, cells := 0, slots := 0, locals := 0 } : Room).cells ({ frames := 0, cells := 0, slots := 0, locals := 0 } : Room).slots) := by
  refine MetFree.of_bodySF (plainFor_of_name pn_1) hisR ?_
  intro p e s m args below meth c s₁ Bd hml0 hP hK
  obtain ⟨rfl, hZ, hh⟩ := hP
  have e0 : s₁.heap = h0 := by rw [← hh, Bd.state]; rfl
  rw [ef_3 m q1]
  exact b3 q1 ⟨Bd.exec, hZ, hw, Bd.bytes, hml0, findClass_of_methodNamed Bd.named, Bd.returns, Bd.notSynchronized, (name_of_methodNamed Bd.named Bd.method).1⟩ (Stand.of_body Bd) e0 Z0 (Fr.nil n0)
def own_pk (q0 : Int32) (q1 : Int32) (q2 : Int32) (q3 : Int32) : Int32 := (if q0 = (0 : Int32) then q1 else (if q0 = (1 : Int32) then q2 else q3))
def Q4 (Z : State) (q0 : Int32) (q1 : Int32) (q2 : Int32) (q3 : Int32) (h0 : Heap) (n0 : Nat) (v : Option Value) (h : Heap) (L : List Loc) : Prop := v = some (.int (own_pk q0 q1 q2 q3)) ∧ Fr n0 L ∧ h = h0
theorem d4_0 : decode method_5_code 0 = .ok (.iload_n 0, 1) := by decide +kernel
theorem d4_1 : decode method_5_code 1 = .ok (.ifCond .ne 5, 3) := by decide +kernel
theorem d4_4 : decode method_5_code 4 = .ok (.iload_n 1, 1) := by decide +kernel
theorem d4_5 : decode method_5_code 5 = .ok (.ireturn, 1) := by decide +kernel
theorem d4_6 : decode method_5_code 6 = .ok (.iload_n 0, 1) := by decide +kernel
theorem d4_7 : decode method_5_code 7 = .ok (.iconst 1, 1) := by decide +kernel
theorem d4_8 : decode method_5_code 8 = .ok (.if_icmp .ne 5, 3) := by decide +kernel
theorem d4_11 : decode method_5_code 11 = .ok (.iload_n 2, 1) := by decide +kernel
theorem d4_12 : decode method_5_code 12 = .ok (.ireturn, 1) := by decide +kernel
theorem d4_13 : decode method_5_code 13 = .ok (.iload_n 3, 1) := by decide +kernel
theorem d4_14 : decode method_5_code 14 = .ok (.ireturn, 1) := by decide +kernel
set_option maxRecDepth 65536 in
set_option maxHeartbeats 40000000 in
theorem b4 {p : Program} {l : Launch} {e : Env} {s : State} {m : MethodId} {args : Array Value} {below : List Frame} {meth : Method} {c : Code} {T0 : State} {locs : List Loc} {Z : State} {a0 : Array Value} {h0 : Heap} {n0 : Nat} (q0 : Int32) (q1 : Int32) (q2 : Int32) (q3 : Int32)
    (C : own_C p s m meth c Z a0 method_5_code 4 "com/example/triplewright/triplewright/store/OrderCoveringPinLaw" (some .int) "pick") (X0 : Stand p l e ({ frames := 0, cells := 0, slots := 0, locals := 0 } : Room) s m args below meth c T0 locs 0 0) (e0 : T0.heap = h0) (Z0 : n0 ≤ h0.size) (N0 : Fr n0 locs) :
    own_Go p.tables e below (T0.setTop (mkF m 0 #[.val (.int q0), .val (.int q1), .val (.int q2), .val (.int q3)] [])) (own_K s (fun (v : Option Value) (h : Heap) (L : List Loc) => Q4 Z q0 q1 q2 q3 h0 n0 v h L) ({ frames := 0, cells := 0, slots := 0, locals := 0 } : Room).cells ({ frames := 0, cells := 0, slots := 0, locals := 0 } : Room).slots) := by
  obtain ⟨hx, hZ, hw, hby, hml, hown, hret, hlk, hnm⟩ := C
  refine own_via (G := T0.setTop (mkF m 1 #[.val (.int q0), .val (.int q1), .val (.int q2), .val (.int q3)] [(.int q0)])) (fun t k => XS.iloadN X0.here hx rfl (hb hby d4_0) rfl k) ?_
  by_cases hc1_1 : q0 = (0 : Int32)
  · refine own_via (G := T0.setTop (mkF m 4 #[.val (.int q0), .val (.int q1), .val (.int q2), .val (.int q3)] [])) (fun t k => XS.ifNo X0.here hx rfl (hb hby d4_1) rfl (XT.i0_ne_f hc1_1) k) ?_
    refine own_via (G := T0.setTop (mkF m 5 #[.val (.int q0), .val (.int q1), .val (.int q2), .val (.int q3)] [(.int q1)])) (fun t k => XS.iloadN X0.here hx rfl (hb hby d4_4) rfl k) ?_
    exact own_fin X0 e0 (v := some (.int q1)) (fun h => by rw [hret] at h; cases h) hlk (fun fs hr => retI X0 hx hret (hb hby d4_5) hr) (show ((fun (v : Option Value) (h : Heap) (L : List Loc) => Q4 Z q0 q1 q2 q3 h0 n0 v h L)) (some (.int q1)) h0 _ from ⟨(by unfold own_pk; rw [if_pos hc1_1]), N0, rfl⟩) (by decide) (by decide)
  · refine own_via (G := T0.setTop (mkF m 6 #[.val (.int q0), .val (.int q1), .val (.int q2), .val (.int q3)] [])) (fun t k => XS.ifYes X0.here hx rfl (pc0 := 1) (pc' := 6) rfl (hb hby d4_1) rfl (XT.i0_ne_t hc1_1) (by decide) (by decide) k) ?_
    refine own_via (G := T0.setTop (mkF m 7 #[.val (.int q0), .val (.int q1), .val (.int q2), .val (.int q3)] [(.int q0)])) (fun t k => XS.iloadN X0.here hx rfl (hb hby d4_6) rfl k) ?_
    refine own_via (G := T0.setTop (mkF m 8 #[.val (.int q0), .val (.int q1), .val (.int q2), .val (.int q3)] [(.int (1 : Int32)), (.int q0)])) (fun t k => XS.iconst X0.here hx rfl (hb hby d4_7) k) ?_
    by_cases hc2_8 : q0 = (1 : Int32)
    · refine own_via (G := T0.setTop (mkF m 11 #[.val (.int q0), .val (.int q1), .val (.int q2), .val (.int q3)] [])) (fun t k => XS.icmpNo X0.here hx rfl (hb hby d4_8) rfl (XT.ii_ne_f hc2_8) k) ?_
      refine own_via (G := T0.setTop (mkF m 12 #[.val (.int q0), .val (.int q1), .val (.int q2), .val (.int q3)] [(.int q2)])) (fun t k => XS.iloadN X0.here hx rfl (hb hby d4_11) rfl k) ?_
      exact own_fin X0 e0 (v := some (.int q2)) (fun h => by rw [hret] at h; cases h) hlk (fun fs hr => retI X0 hx hret (hb hby d4_12) hr) (show ((fun (v : Option Value) (h : Heap) (L : List Loc) => Q4 Z q0 q1 q2 q3 h0 n0 v h L)) (some (.int q2)) h0 _ from ⟨(by unfold own_pk; rw [if_neg hc1_1, if_pos hc2_8]), N0, rfl⟩) (by decide) (by decide)
    · refine own_via (G := T0.setTop (mkF m 13 #[.val (.int q0), .val (.int q1), .val (.int q2), .val (.int q3)] [])) (fun t k => XS.icmpYes X0.here hx rfl (pc0 := 8) (pc' := 13) rfl (hb hby d4_8) rfl (XT.ii_ne_t hc2_8) (by decide) (by decide) k) ?_
      refine own_via (G := T0.setTop (mkF m 14 #[.val (.int q0), .val (.int q1), .val (.int q2), .val (.int q3)] [(.int q3)])) (fun t k => XS.iloadN X0.here hx rfl (hb hby d4_13) rfl k) ?_
      exact own_fin X0 e0 (v := some (.int q3)) (fun h => by rw [hret] at h; cases h) hlk (fun fs hr => retI X0 hx hret (hb hby d4_14) hr) (show ((fun (v : Option Value) (h : Heap) (L : List Loc) => Q4 Z q0 q1 q2 q3 h0 n0 v h L)) (some (.int q3)) h0 _ from ⟨(by unfold own_pk; rw [if_neg hc1_1, if_neg hc2_8]), N0, rfl⟩) (by decide) (by decide)
theorem ef_4 (m : MethodId) (q0 : Int32) (q1 : Int32) (q2 : Int32) (q3 : Int32) : entryFrame m #[(.int q0), (.int q1), (.int q2), (.int q3)] 4 = mkF m 0 #[.val (.int q0), .val (.int q1), .val (.int q2), .val (.int q3)] [] := by first | (simp [entryFrame, mkF, argsToLocals, Value.category, maxLocals]; done) | rfl
set_option maxRecDepth 65536 in
set_option maxHeartbeats 40000000 in
theorem rm4 (l : Launch) (Z : State) (a0 : Array Value) (hw : ∀ d ∈ tables_1, d.before a0 Z = true) (ws : List Jvm.Cond) (q0 : Int32) (q1 : Int32) (q2 : Int32) (q3 : Int32) (h0 : Heap) (n0 : Nat) (Z0 : n0 ≤ h0.size) :
    MetFree l (⟨"com/example/triplewright/triplewright/store/OrderCoveringPinLaw", "pick", "(IIII)I"⟩ : MethodName) (head1 (Jvm.Cond.code (⟨"com/example/triplewright/triplewright/store/OrderCoveringPinLaw", "pick", "(IIII)I"⟩ : MethodName) method_5_code 4 (some .int) :: ws) ({ frames := 0, cells := 0, slots := 0, locals := 0 } : Room)) (fun a U => a = #[(.int q0), (.int q1), (.int q2), (.int q3)] ∧ Z.Warmed39 U.vm ∧ U.heap = h0) (fun _ _ _ _ _ => True) (fun _ U o U' => ∃ v L, o = .returned v ∧ Q4 Z q0 q1 q2 q3 h0 n0 v U'.heap L ∧ FrameEnd U o U' L ({ frames := 0, cells := 0, slots := 0, locals := 0 } : Room).cells ({ frames := 0, cells := 0, slots := 0, locals := 0 } : Room).slots) := by
  refine MetFree.of_bodySF (plainFor_of_name pn_1) hisR ?_
  intro p e s m args below meth c s₁ Bd hml0 hP hK
  obtain ⟨rfl, hZ, hh⟩ := hP
  have e0 : s₁.heap = h0 := by rw [← hh, Bd.state]; rfl
  rw [ef_4 m q0 q1 q2 q3]
  exact b4 q0 q1 q2 q3 ⟨Bd.exec, hZ, hw, Bd.bytes, hml0, findClass_of_methodNamed Bd.named, Bd.returns, Bd.notSynchronized, (name_of_methodNamed Bd.named Bd.method).1⟩ (Stand.of_body Bd) e0 Z0 (Fr.nil n0)
theorem own_fx0 {x : Int32} (h : x = (-1 : Int32)) : own_fx x = 0 := by unfold own_fx; rw [if_pos h]
theorem own_fx1 {x : Int32} (h : ¬ x = (-1 : Int32)) : own_fx x = 1 := by unfold own_fx; rw [if_neg h]
theorem own_pk0 (a b c : Int32) : own_pk (0 : Int32) a b c = a := rfl
theorem own_pk1 (a b c : Int32) : own_pk (1 : Int32) a b c = b := rfl
theorem own_pk2 (a b c : Int32) : own_pk (2 : Int32) a b c = c := rfl
theorem pd_0 : parseMethodDescriptor "(I)Z" = some ⟨[.int], some .boolean⟩ := by decide +kernel
theorem pd_1 : parseMethodDescriptor "(I)I" = some ⟨[.int], some .int⟩ := by decide +kernel
theorem pd_2 : parseMethodDescriptor "(IIII)I" = some ⟨[.int, .int, .int, .int], some .int⟩ := by decide +kernel
set_option maxRecDepth 65536 in
set_option maxHeartbeats 40000000 in
theorem b0_48 {p : Program} {l : Launch} {e : Env} {s : State} {m : MethodId} {args : Array Value} {below : List Frame} {meth : Method} {c : Code} {T0 : State} {locs : List Loc} {Z : State} {a0 : Array Value} {h0 : Heap} {n0 : Nat} (z0 : Slot) (z1 : Slot) (z2 : Slot) (z3 : Slot) (sj : Int32) (pj : Int32) (oj : Int32) (oO : Addr) (oA : Addr) (kA : ClassId) (v0 : Int32) (v1 : Int32) (v2 : Int32)
    (C : own_C p s m meth c Z a0 code maxLocals "com/example/triplewright/triplewright/store/OrderCoveringPinLaw" ret "law") (X0 : Stand p l e room_1 s m args below meth c T0 locs 0 0) (e0 : T0.heap = h0) (Z0 : n0 ≤ h0.size) (N0 : Fr n0 locs) (FP : Fld Z h0 oO "com/example/triplewright/triplewright/store/TripleStore$Order" "positions" "[I" (.ref oA)) (VA : Arv Z h0 oA kA .int (3 : Int32) [(.int v0), (.int v1), (.int v2)] (.int (0 : Int32))) (w0 : ¬ own_vl v0 = 0) (w1 : ¬ own_vl v1 = 0) (w2 : ¬ own_vl v2 = 0) (d01 : ¬ v0 = v1) (d02 : ¬ v0 = v2) (d12 : ¬ v1 = v2) (c0 : own_fx (own_pk v0 sj pj oj) = if (0 : Int32) < ((own_fx sj + own_fx pj) + own_fx oj) then 1 else 0) (c1 : own_fx (own_pk v1 sj pj oj) = if (1 : Int32) < ((own_fx sj + own_fx pj) + own_fx oj) then 1 else 0) (c2 : own_fx (own_pk v2 sj pj oj) = if (2 : Int32) < ((own_fx sj + own_fx pj) + own_fx oj) then 1 else 0) :
    own_Go p.tables e below (T0.setTop (mkF m 48 #[z0, z1, z2, z3, .val (.int sj), .val (.int pj), .val (.int oj), .unset, .unset, .unset] [(.ref oO)])) (own_K s (fun (v : Option Value) (h : Heap) (L : List Loc) => v = some (.int (1 : Int32)) ∧ Fr n0 L) room_1.cells room_1.slots) := by
  obtain ⟨hx, hZ, hw, hby, hml, hown, hret, hlk, hnm⟩ := C
  refine own_via (G := T0.setTop (mkF m 50 #[z0, z1, z2, z3, .val (.int sj), .val (.int pj), .val (.int oj), .val (.ref oO), .unset, .unset] [])) (fun t k => XS.astore X0.here hx rfl (hb hby at_48) rfl rfl (l' := #[z0, z1, z2, z3, .val (.int sj), .val (.int pj), .val (.int oj), .val (.ref oO), .unset, .unset]) rfl k) ?_
  refine own_via (G := T0.setTop (mkF m 52 #[z0, z1, z2, z3, .val (.int sj), .val (.int pj), .val (.int oj), .val (.ref oO), .unset, .unset] [(.ref oO)])) (fun t k => XS.aload X0.here hx rfl (hb hby at_50) rfl rfl k) ?_
  refine own_via (G := T0.setTop (mkF m 57 #[z0, z1, z2, z3, .val (.int sj), .val (.int pj), .val (.int oj), .val (.ref oO), .unset, .unset] [])) (fun t k => XT.ifnonnullYes X0.here hx rfl (pc0 := 52) (pc' := 57) rfl (hb hby at_52) rfl (by decide) (by decide) k) ?_
  refine own_via (G := T0.setTop (mkF m 59 #[z0, z1, z2, z3, .val (.int sj), .val (.int pj), .val (.int oj), .val (.ref oO), .unset, .unset] [(.ref oO)])) (fun t k => XS.aload X0.here hx rfl (hb hby at_57) rfl rfl k) ?_
  obtain ⟨T1, X1, e1, st1⟩ := getF X0 hx hZ hown (host := "") (Or.inl (hw _ (List.mem_of_getElem? (i := 6) rfl))) Via.refl e0 FP (g := (mkF m 59 #[z0, z1, z2, z3, .val (.int sj), .val (.int pj), .val (.int oj), .val (.ref oO), .unset, .unset] [(.ref oO)])) rfl rfl (hb hby at_59)
  refine own_via (G := T1.setTop (mkF m 62 #[z0, z1, z2, z3, .val (.int sj), .val (.int pj), .val (.int oj), .val (.ref oO), .unset, .unset] [(.ref oA)])) (fun t k => st1 t k) ?_
  refine own_via (G := T1.setTop (mkF m 64 #[z0, z1, z2, z3, .val (.int sj), .val (.int pj), .val (.int oj), .val (.ref oO), .val (.ref oA), .unset] [])) (fun t k => XS.astore X1.here hx rfl (hb hby at_62) rfl rfl (l' := #[z0, z1, z2, z3, .val (.int sj), .val (.int pj), .val (.int oj), .val (.ref oO), .val (.ref oA), .unset]) rfl k) ?_
  refine own_via (G := T1.setTop (mkF m 66 #[z0, z1, z2, z3, .val (.int sj), .val (.int pj), .val (.int oj), .val (.ref oO), .val (.ref oA), .unset] [(.ref oA)])) (fun t k => XS.aload X1.here hx rfl (hb hby at_64) rfl rfl k) ?_
  refine own_via (G := T1.setTop (mkF m 69 #[z0, z1, z2, z3, .val (.int sj), .val (.int pj), .val (.int oj), .val (.ref oO), .val (.ref oA), .unset] [])) (fun t k => XS.ifnullNo X1.here hx rfl (hb hby at_66) rfl k) ?_
  refine own_via (G := T1.setTop (mkF m 71 #[z0, z1, z2, z3, .val (.int sj), .val (.int pj), .val (.int oj), .val (.ref oO), .val (.ref oA), .unset] [(.ref oA)])) (fun t k => XS.aload X1.here hx rfl (hb hby at_69) rfl rfl k) ?_
  obtain ⟨cl2, Ar2, -, S2, NN2, -, -⟩ := id VA
  refine own_via (G := T1.setTop (mkF m 72 #[z0, z1, z2, z3, .val (.int sj), .val (.int pj), .val (.int oj), .val (.ref oO), .val (.ref oA), .unset] [(.int (3 : Int32))])) (fun t k => own_len X1 hx hZ e1 Ar2 S2 NN2 (g := (mkF m 71 #[z0, z1, z2, z3, .val (.int sj), .val (.int pj), .val (.int oj), .val (.ref oO), .val (.ref oA), .unset] [(.ref oA)])) rfl rfl (hb hby at_71) k) ?_
  refine own_via (G := T1.setTop (mkF m 73 #[z0, z1, z2, z3, .val (.int sj), .val (.int pj), .val (.int oj), .val (.ref oO), .val (.ref oA), .unset] [(.int (3 : Int32)), (.int (3 : Int32))])) (fun t k => XS.iconst X1.here hx rfl (hb hby at_72) k) ?_
  have hc3_73 : (3 : Int32) = (3 : Int32) := (by decide)
  refine own_via (G := T1.setTop (mkF m 78 #[z0, z1, z2, z3, .val (.int sj), .val (.int pj), .val (.int oj), .val (.ref oO), .val (.ref oA), .unset] [])) (fun t k => XS.icmpYes X1.here hx rfl (pc0 := 73) (pc' := 78) rfl (hb hby at_73) rfl (XT.ii_eq_t hc3_73) (by decide) (by decide) k) ?_
  refine own_via (G := T1.setTop (mkF m 80 #[z0, z1, z2, z3, .val (.int sj), .val (.int pj), .val (.int oj), .val (.ref oO), .val (.ref oA), .unset] [(.ref oA)])) (fun t k => XS.aload X1.here hx rfl (hb hby at_78) rfl rfl k) ?_
  refine own_via (G := T1.setTop (mkF m 81 #[z0, z1, z2, z3, .val (.int sj), .val (.int pj), .val (.int oj), .val (.ref oO), .val (.ref oA), .unset] [(.int (0 : Int32)), (.ref oA)])) (fun t k => XS.iconst X1.here hx rfl (hb hby at_80) k) ?_
  obtain ⟨cl4, Ar4, q4, S4, NN4, H4, G4⟩ := id VA
  have in4 := inb_of (j := (0 : Int32)) S4 ⟨by decide, by decide⟩
  have hat4 : cl4.slots[((0 : Int32)).toNatClampNeg]? = some (.int v0) := H4.at in4 rfl
  refine own_via (G := T1.setTop (mkF m 82 #[z0, z1, z2, z3, .val (.int sj), .val (.int pj), .val (.int oj), .val (.ref oO), .val (.ref oA), .unset] [(.int v0)])) (fun t k => X1.iaload hx (j := (0 : Int32)) (v := (.int v0)) (by rw [e1]; exact Ar4.1) (State.isArrayOf_alike hZ.alike Ar4.2.1) Ar4.2.2 in4 hat4 (g := (mkF m 81 #[z0, z1, z2, z3, .val (.int sj), .val (.int pj), .val (.int oj), .val (.ref oO), .val (.ref oA), .unset] [(.int (0 : Int32)), (.ref oA)])) rfl rfl (hb hby at_81) t k) ?_
  obtain ⟨_, _, ⟨T5, L5, k5, n5⟩, -, X5, ⟨Lc5, hQ5, l5, y5, z5⟩, st5⟩ := Jvm.LawKit.callS X1 hx (y := (⟨"com/example/triplewright/triplewright/store/OrderCoveringPinLaw", "valid", "(I)Z"⟩ : MethodName)) hown (mvT hZ (hw _ (List.mem_of_getElem? (i := 8) rfl))) (mvT hZ (hw _ (List.mem_of_getElem? (i := 9) rfl))) (mvT hZ (hw _ (List.mem_of_getElem? (i := 10) rfl))) (mvT hZ (hw _ (List.mem_of_getElem? (i := 11) rfl))) (by decide) (backOf (W := 0) (rm2 l Z a0 hw [] v0 h0 n0 Z0) hZ (hw _ (List.mem_of_getElem? (i := 11) rfl)) (hw _ (List.mem_of_getElem? (i := 10) rfl)) (by decide) (by decide)) (g := (mkF m 82 #[z0, z1, z2, z3, .val (.int sj), .val (.int pj), .val (.int oj), .val (.ref oO), .val (.ref oA), .unset] [(.int v0)])) rfl (by rw [hml]; rfl) (argsL := [(.int v0)]) (rest := []) (lenOf pd_0 rfl) rfl (by show 2 * 0 + _ ≤ _; exact Nat.le_of_eq rfl) (hb hby at_82) (fun _ _ => ⟨rfl, e1, (by decide : 0 + 0 ≤ _), (by decide : 0 + 0 ≤ _)⟩)
  dsimp only [Pt.U, Pt.locs, Pt.cells, Pt.slots] at X5 l5 y5 z5 st5 hQ5
  subst l5 y5 z5
  obtain ⟨rfl, Nq5, eh5⟩ := hQ5
  have N5 := Fr.app N0 Nq5
  refine own_via (G := T5.setTop (mkF m 85 #[z0, z1, z2, z3, .val (.int sj), .val (.int pj), .val (.int oj), .val (.ref oO), .val (.ref oA), .unset] [(.int (own_vl v0))])) (fun t k => st5 t k) ?_
  have hc6_85 : ¬ ((own_vl v0) = (0 : Int32)) := w0
  refine own_via (G := T5.setTop (mkF m 88 #[z0, z1, z2, z3, .val (.int sj), .val (.int pj), .val (.int oj), .val (.ref oO), .val (.ref oA), .unset] [])) (fun t k => XS.ifNo X5.here hx rfl (hb hby at_85) rfl (XT.i0_eq_f hc6_85) k) ?_
  refine own_via (G := T5.setTop (mkF m 90 #[z0, z1, z2, z3, .val (.int sj), .val (.int pj), .val (.int oj), .val (.ref oO), .val (.ref oA), .unset] [(.ref oA)])) (fun t k => XS.aload X5.here hx rfl (hb hby at_88) rfl rfl k) ?_
  refine own_via (G := T5.setTop (mkF m 91 #[z0, z1, z2, z3, .val (.int sj), .val (.int pj), .val (.int oj), .val (.ref oO), .val (.ref oA), .unset] [(.int (1 : Int32)), (.ref oA)])) (fun t k => XS.iconst X5.here hx rfl (hb hby at_90) k) ?_
  obtain ⟨cl7, Ar7, q7, S7, NN7, H7, G7⟩ := id VA
  have in7 := inb_of (j := (1 : Int32)) S7 ⟨by decide, by decide⟩
  have hat7 : cl7.slots[((1 : Int32)).toNatClampNeg]? = some (.int v1) := H7.at in7 rfl
  refine own_via (G := T5.setTop (mkF m 92 #[z0, z1, z2, z3, .val (.int sj), .val (.int pj), .val (.int oj), .val (.ref oO), .val (.ref oA), .unset] [(.int v1)])) (fun t k => X5.iaload hx (j := (1 : Int32)) (v := (.int v1)) (by rw [eh5]; exact Ar7.1) (State.isArrayOf_alike hZ.alike Ar7.2.1) Ar7.2.2 in7 hat7 (g := (mkF m 91 #[z0, z1, z2, z3, .val (.int sj), .val (.int pj), .val (.int oj), .val (.ref oO), .val (.ref oA), .unset] [(.int (1 : Int32)), (.ref oA)])) rfl rfl (hb hby at_91) t k) ?_
  obtain ⟨_, _, ⟨T8, L8, k8, n8⟩, -, X8, ⟨Lc8, hQ8, l8, y8, z8⟩, st8⟩ := Jvm.LawKit.callS X5 hx (y := (⟨"com/example/triplewright/triplewright/store/OrderCoveringPinLaw", "valid", "(I)Z"⟩ : MethodName)) hown (mvT hZ (hw _ (List.mem_of_getElem? (i := 8) rfl))) (mvT hZ (hw _ (List.mem_of_getElem? (i := 9) rfl))) (mvT hZ (hw _ (List.mem_of_getElem? (i := 10) rfl))) (mvT hZ (hw _ (List.mem_of_getElem? (i := 11) rfl))) (by decide) (backOf (W := 0) (rm2 l Z a0 hw [] v1 h0 n0 Z0) hZ (hw _ (List.mem_of_getElem? (i := 11) rfl)) (hw _ (List.mem_of_getElem? (i := 10) rfl)) (by decide) (by decide)) (g := (mkF m 92 #[z0, z1, z2, z3, .val (.int sj), .val (.int pj), .val (.int oj), .val (.ref oO), .val (.ref oA), .unset] [(.int v1)])) rfl (by rw [hml]; rfl) (argsL := [(.int v1)]) (rest := []) (lenOf pd_0 rfl) rfl (by show 2 * 0 + _ ≤ _; exact Nat.le_of_eq rfl) (hb hby at_92) (fun _ _ => ⟨rfl, eh5, (by decide : (0 + 0) + 0 ≤ _), (by decide : (0 + 0) + 0 ≤ _)⟩)
  dsimp only [Pt.U, Pt.locs, Pt.cells, Pt.slots] at X8 l8 y8 z8 st8 hQ8
  subst l8 y8 z8
  obtain ⟨rfl, Nq8, eh8⟩ := hQ8
  have N8 := Fr.app N5 Nq8
  refine own_via (G := T8.setTop (mkF m 95 #[z0, z1, z2, z3, .val (.int sj), .val (.int pj), .val (.int oj), .val (.ref oO), .val (.ref oA), .unset] [(.int (own_vl v1))])) (fun t k => st8 t k) ?_
  have hc9_95 : ¬ ((own_vl v1) = (0 : Int32)) := w1
  refine own_via (G := T8.setTop (mkF m 98 #[z0, z1, z2, z3, .val (.int sj), .val (.int pj), .val (.int oj), .val (.ref oO), .val (.ref oA), .unset] [])) (fun t k => XS.ifNo X8.here hx rfl (hb hby at_95) rfl (XT.i0_eq_f hc9_95) k) ?_
  refine own_via (G := T8.setTop (mkF m 100 #[z0, z1, z2, z3, .val (.int sj), .val (.int pj), .val (.int oj), .val (.ref oO), .val (.ref oA), .unset] [(.ref oA)])) (fun t k => XS.aload X8.here hx rfl (hb hby at_98) rfl rfl k) ?_
  refine own_via (G := T8.setTop (mkF m 101 #[z0, z1, z2, z3, .val (.int sj), .val (.int pj), .val (.int oj), .val (.ref oO), .val (.ref oA), .unset] [(.int (2 : Int32)), (.ref oA)])) (fun t k => XS.iconst X8.here hx rfl (hb hby at_100) k) ?_
  obtain ⟨cl10, Ar10, q10, S10, NN10, H10, G10⟩ := id VA
  have in10 := inb_of (j := (2 : Int32)) S10 ⟨by decide, by decide⟩
  have hat10 : cl10.slots[((2 : Int32)).toNatClampNeg]? = some (.int v2) := H10.at in10 rfl
  refine own_via (G := T8.setTop (mkF m 102 #[z0, z1, z2, z3, .val (.int sj), .val (.int pj), .val (.int oj), .val (.ref oO), .val (.ref oA), .unset] [(.int v2)])) (fun t k => X8.iaload hx (j := (2 : Int32)) (v := (.int v2)) (by rw [eh8]; exact Ar10.1) (State.isArrayOf_alike hZ.alike Ar10.2.1) Ar10.2.2 in10 hat10 (g := (mkF m 101 #[z0, z1, z2, z3, .val (.int sj), .val (.int pj), .val (.int oj), .val (.ref oO), .val (.ref oA), .unset] [(.int (2 : Int32)), (.ref oA)])) rfl rfl (hb hby at_101) t k) ?_
  obtain ⟨_, _, ⟨T11, L11, k11, n11⟩, -, X11, ⟨Lc11, hQ11, l11, y11, z11⟩, st11⟩ := Jvm.LawKit.callS X8 hx (y := (⟨"com/example/triplewright/triplewright/store/OrderCoveringPinLaw", "valid", "(I)Z"⟩ : MethodName)) hown (mvT hZ (hw _ (List.mem_of_getElem? (i := 8) rfl))) (mvT hZ (hw _ (List.mem_of_getElem? (i := 9) rfl))) (mvT hZ (hw _ (List.mem_of_getElem? (i := 10) rfl))) (mvT hZ (hw _ (List.mem_of_getElem? (i := 11) rfl))) (by decide) (backOf (W := 0) (rm2 l Z a0 hw [] v2 h0 n0 Z0) hZ (hw _ (List.mem_of_getElem? (i := 11) rfl)) (hw _ (List.mem_of_getElem? (i := 10) rfl)) (by decide) (by decide)) (g := (mkF m 102 #[z0, z1, z2, z3, .val (.int sj), .val (.int pj), .val (.int oj), .val (.ref oO), .val (.ref oA), .unset] [(.int v2)])) rfl (by rw [hml]; rfl) (argsL := [(.int v2)]) (rest := []) (lenOf pd_0 rfl) rfl (by show 2 * 0 + _ ≤ _; exact Nat.le_of_eq rfl) (hb hby at_102) (fun _ _ => ⟨rfl, eh8, (by decide : ((0 + 0) + 0) + 0 ≤ _), (by decide : ((0 + 0) + 0) + 0 ≤ _)⟩)
  dsimp only [Pt.U, Pt.locs, Pt.cells, Pt.slots] at X11 l11 y11 z11 st11 hQ11
  subst l11 y11 z11
  obtain ⟨rfl, Nq11, eh11⟩ := hQ11
  have N11 := Fr.app N8 Nq11
  refine own_via (G := T11.setTop (mkF m 105 #[z0, z1, z2, z3, .val (.int sj), .val (.int pj), .val (.int oj), .val (.ref oO), .val (.ref oA), .unset] [(.int (own_vl v2))])) (fun t k => st11 t k) ?_
  have hc12_105 : ¬ ((own_vl v2) = (0 : Int32)) := w2
  refine own_via (G := T11.setTop (mkF m 108 #[z0, z1, z2, z3, .val (.int sj), .val (.int pj), .val (.int oj), .val (.ref oO), .val (.ref oA), .unset] [])) (fun t k => XS.ifNo X11.here hx rfl (hb hby at_105) rfl (XT.i0_eq_f hc12_105) k) ?_
  refine own_via (G := T11.setTop (mkF m 110 #[z0, z1, z2, z3, .val (.int sj), .val (.int pj), .val (.int oj), .val (.ref oO), .val (.ref oA), .unset] [(.ref oA)])) (fun t k => XS.aload X11.here hx rfl (hb hby at_108) rfl rfl k) ?_
  refine own_via (G := T11.setTop (mkF m 111 #[z0, z1, z2, z3, .val (.int sj), .val (.int pj), .val (.int oj), .val (.ref oO), .val (.ref oA), .unset] [(.int (0 : Int32)), (.ref oA)])) (fun t k => XS.iconst X11.here hx rfl (hb hby at_110) k) ?_
  obtain ⟨cl13, Ar13, q13, S13, NN13, H13, G13⟩ := id VA
  have in13 := inb_of (j := (0 : Int32)) S13 ⟨by decide, by decide⟩
  have hat13 : cl13.slots[((0 : Int32)).toNatClampNeg]? = some (.int v0) := H13.at in13 rfl
  refine own_via (G := T11.setTop (mkF m 112 #[z0, z1, z2, z3, .val (.int sj), .val (.int pj), .val (.int oj), .val (.ref oO), .val (.ref oA), .unset] [(.int v0)])) (fun t k => X11.iaload hx (j := (0 : Int32)) (v := (.int v0)) (by rw [eh11]; exact Ar13.1) (State.isArrayOf_alike hZ.alike Ar13.2.1) Ar13.2.2 in13 hat13 (g := (mkF m 111 #[z0, z1, z2, z3, .val (.int sj), .val (.int pj), .val (.int oj), .val (.ref oO), .val (.ref oA), .unset] [(.int (0 : Int32)), (.ref oA)])) rfl rfl (hb hby at_111) t k) ?_
  refine own_via (G := T11.setTop (mkF m 114 #[z0, z1, z2, z3, .val (.int sj), .val (.int pj), .val (.int oj), .val (.ref oO), .val (.ref oA), .unset] [(.ref oA), (.int v0)])) (fun t k => XS.aload X11.here hx rfl (hb hby at_112) rfl rfl k) ?_
  refine own_via (G := T11.setTop (mkF m 115 #[z0, z1, z2, z3, .val (.int sj), .val (.int pj), .val (.int oj), .val (.ref oO), .val (.ref oA), .unset] [(.int (1 : Int32)), (.ref oA), (.int v0)])) (fun t k => XS.iconst X11.here hx rfl (hb hby at_114) k) ?_
  obtain ⟨cl14, Ar14, q14, S14, NN14, H14, G14⟩ := id VA
  have in14 := inb_of (j := (1 : Int32)) S14 ⟨by decide, by decide⟩
  have hat14 : cl14.slots[((1 : Int32)).toNatClampNeg]? = some (.int v1) := H14.at in14 rfl
  refine own_via (G := T11.setTop (mkF m 116 #[z0, z1, z2, z3, .val (.int sj), .val (.int pj), .val (.int oj), .val (.ref oO), .val (.ref oA), .unset] [(.int v1), (.int v0)])) (fun t k => X11.iaload hx (j := (1 : Int32)) (v := (.int v1)) (by rw [eh11]; exact Ar14.1) (State.isArrayOf_alike hZ.alike Ar14.2.1) Ar14.2.2 in14 hat14 (g := (mkF m 115 #[z0, z1, z2, z3, .val (.int sj), .val (.int pj), .val (.int oj), .val (.ref oO), .val (.ref oA), .unset] [(.int (1 : Int32)), (.ref oA), (.int v0)])) rfl rfl (hb hby at_115) t k) ?_
  have hc15_116 : ¬ (v0 = v1) := d01
  refine own_via (G := T11.setTop (mkF m 119 #[z0, z1, z2, z3, .val (.int sj), .val (.int pj), .val (.int oj), .val (.ref oO), .val (.ref oA), .unset] [])) (fun t k => XS.icmpNo X11.here hx rfl (hb hby at_116) rfl (XT.ii_eq_f hc15_116) k) ?_
  refine own_via (G := T11.setTop (mkF m 121 #[z0, z1, z2, z3, .val (.int sj), .val (.int pj), .val (.int oj), .val (.ref oO), .val (.ref oA), .unset] [(.ref oA)])) (fun t k => XS.aload X11.here hx rfl (hb hby at_119) rfl rfl k) ?_
  refine own_via (G := T11.setTop (mkF m 122 #[z0, z1, z2, z3, .val (.int sj), .val (.int pj), .val (.int oj), .val (.ref oO), .val (.ref oA), .unset] [(.int (0 : Int32)), (.ref oA)])) (fun t k => XS.iconst X11.here hx rfl (hb hby at_121) k) ?_
  obtain ⟨cl16, Ar16, q16, S16, NN16, H16, G16⟩ := id VA
  have in16 := inb_of (j := (0 : Int32)) S16 ⟨by decide, by decide⟩
  have hat16 : cl16.slots[((0 : Int32)).toNatClampNeg]? = some (.int v0) := H16.at in16 rfl
  refine own_via (G := T11.setTop (mkF m 123 #[z0, z1, z2, z3, .val (.int sj), .val (.int pj), .val (.int oj), .val (.ref oO), .val (.ref oA), .unset] [(.int v0)])) (fun t k => X11.iaload hx (j := (0 : Int32)) (v := (.int v0)) (by rw [eh11]; exact Ar16.1) (State.isArrayOf_alike hZ.alike Ar16.2.1) Ar16.2.2 in16 hat16 (g := (mkF m 122 #[z0, z1, z2, z3, .val (.int sj), .val (.int pj), .val (.int oj), .val (.ref oO), .val (.ref oA), .unset] [(.int (0 : Int32)), (.ref oA)])) rfl rfl (hb hby at_122) t k) ?_
  refine own_via (G := T11.setTop (mkF m 125 #[z0, z1, z2, z3, .val (.int sj), .val (.int pj), .val (.int oj), .val (.ref oO), .val (.ref oA), .unset] [(.ref oA), (.int v0)])) (fun t k => XS.aload X11.here hx rfl (hb hby at_123) rfl rfl k) ?_
  refine own_via (G := T11.setTop (mkF m 126 #[z0, z1, z2, z3, .val (.int sj), .val (.int pj), .val (.int oj), .val (.ref oO), .val (.ref oA), .unset] [(.int (2 : Int32)), (.ref oA), (.int v0)])) (fun t k => XS.iconst X11.here hx rfl (hb hby at_125) k) ?_
  obtain ⟨cl17, Ar17, q17, S17, NN17, H17, G17⟩ := id VA
  have in17 := inb_of (j := (2 : Int32)) S17 ⟨by decide, by decide⟩
  have hat17 : cl17.slots[((2 : Int32)).toNatClampNeg]? = some (.int v2) := H17.at in17 rfl
  refine own_via (G := T11.setTop (mkF m 127 #[z0, z1, z2, z3, .val (.int sj), .val (.int pj), .val (.int oj), .val (.ref oO), .val (.ref oA), .unset] [(.int v2), (.int v0)])) (fun t k => X11.iaload hx (j := (2 : Int32)) (v := (.int v2)) (by rw [eh11]; exact Ar17.1) (State.isArrayOf_alike hZ.alike Ar17.2.1) Ar17.2.2 in17 hat17 (g := (mkF m 126 #[z0, z1, z2, z3, .val (.int sj), .val (.int pj), .val (.int oj), .val (.ref oO), .val (.ref oA), .unset] [(.int (2 : Int32)), (.ref oA), (.int v0)])) rfl rfl (hb hby at_126) t k) ?_
  have hc18_127 : ¬ (v0 = v2) := d02
  refine own_via (G := T11.setTop (mkF m 130 #[z0, z1, z2, z3, .val (.int sj), .val (.int pj), .val (.int oj), .val (.ref oO), .val (.ref oA), .unset] [])) (fun t k => XS.icmpNo X11.here hx rfl (hb hby at_127) rfl (XT.ii_eq_f hc18_127) k) ?_
  refine own_via (G := T11.setTop (mkF m 132 #[z0, z1, z2, z3, .val (.int sj), .val (.int pj), .val (.int oj), .val (.ref oO), .val (.ref oA), .unset] [(.ref oA)])) (fun t k => XS.aload X11.here hx rfl (hb hby at_130) rfl rfl k) ?_
  refine own_via (G := T11.setTop (mkF m 133 #[z0, z1, z2, z3, .val (.int sj), .val (.int pj), .val (.int oj), .val (.ref oO), .val (.ref oA), .unset] [(.int (1 : Int32)), (.ref oA)])) (fun t k => XS.iconst X11.here hx rfl (hb hby at_132) k) ?_
  obtain ⟨cl19, Ar19, q19, S19, NN19, H19, G19⟩ := id VA
  have in19 := inb_of (j := (1 : Int32)) S19 ⟨by decide, by decide⟩
  have hat19 : cl19.slots[((1 : Int32)).toNatClampNeg]? = some (.int v1) := H19.at in19 rfl
  refine own_via (G := T11.setTop (mkF m 134 #[z0, z1, z2, z3, .val (.int sj), .val (.int pj), .val (.int oj), .val (.ref oO), .val (.ref oA), .unset] [(.int v1)])) (fun t k => X11.iaload hx (j := (1 : Int32)) (v := (.int v1)) (by rw [eh11]; exact Ar19.1) (State.isArrayOf_alike hZ.alike Ar19.2.1) Ar19.2.2 in19 hat19 (g := (mkF m 133 #[z0, z1, z2, z3, .val (.int sj), .val (.int pj), .val (.int oj), .val (.ref oO), .val (.ref oA), .unset] [(.int (1 : Int32)), (.ref oA)])) rfl rfl (hb hby at_133) t k) ?_
  refine own_via (G := T11.setTop (mkF m 136 #[z0, z1, z2, z3, .val (.int sj), .val (.int pj), .val (.int oj), .val (.ref oO), .val (.ref oA), .unset] [(.ref oA), (.int v1)])) (fun t k => XS.aload X11.here hx rfl (hb hby at_134) rfl rfl k) ?_
  refine own_via (G := T11.setTop (mkF m 137 #[z0, z1, z2, z3, .val (.int sj), .val (.int pj), .val (.int oj), .val (.ref oO), .val (.ref oA), .unset] [(.int (2 : Int32)), (.ref oA), (.int v1)])) (fun t k => XS.iconst X11.here hx rfl (hb hby at_136) k) ?_
  obtain ⟨cl20, Ar20, q20, S20, NN20, H20, G20⟩ := id VA
  have in20 := inb_of (j := (2 : Int32)) S20 ⟨by decide, by decide⟩
  have hat20 : cl20.slots[((2 : Int32)).toNatClampNeg]? = some (.int v2) := H20.at in20 rfl
  refine own_via (G := T11.setTop (mkF m 138 #[z0, z1, z2, z3, .val (.int sj), .val (.int pj), .val (.int oj), .val (.ref oO), .val (.ref oA), .unset] [(.int v2), (.int v1)])) (fun t k => X11.iaload hx (j := (2 : Int32)) (v := (.int v2)) (by rw [eh11]; exact Ar20.1) (State.isArrayOf_alike hZ.alike Ar20.2.1) Ar20.2.2 in20 hat20 (g := (mkF m 137 #[z0, z1, z2, z3, .val (.int sj), .val (.int pj), .val (.int oj), .val (.ref oO), .val (.ref oA), .unset] [(.int (2 : Int32)), (.ref oA), (.int v1)])) rfl rfl (hb hby at_137) t k) ?_
  have hc21_138 : ¬ (v1 = v2) := d12
  refine own_via (G := T11.setTop (mkF m 143 #[z0, z1, z2, z3, .val (.int sj), .val (.int pj), .val (.int oj), .val (.ref oO), .val (.ref oA), .unset] [])) (fun t k => XS.icmpYes X11.here hx rfl (pc0 := 138) (pc' := 143) rfl (hb hby at_138) rfl (XT.ii_ne_t hc21_138) (by decide) (by decide) k) ?_
  refine own_via (G := T11.setTop (mkF m 145 #[z0, z1, z2, z3, .val (.int sj), .val (.int pj), .val (.int oj), .val (.ref oO), .val (.ref oA), .unset] [(.int sj)])) (fun t k => XS.iload X11.here hx rfl (hb hby at_143) rfl k) ?_
  obtain ⟨_, _, ⟨T22, L22, k22, n22⟩, -, X22, ⟨Lc22, hQ22, l22, y22, z22⟩, st22⟩ := Jvm.LawKit.callS X11 hx (y := (⟨"com/example/triplewright/triplewright/store/OrderCoveringPinLaw", "fixed", "(I)I"⟩ : MethodName)) hown (mvT hZ (hw _ (List.mem_of_getElem? (i := 12) rfl))) (mvT hZ (hw _ (List.mem_of_getElem? (i := 13) rfl))) (mvT hZ (hw _ (List.mem_of_getElem? (i := 10) rfl))) (mvT hZ (hw _ (List.mem_of_getElem? (i := 14) rfl))) (by decide) (backOf (W := 0) (rm3 l Z a0 hw [] sj h0 n0 Z0) hZ (hw _ (List.mem_of_getElem? (i := 14) rfl)) (hw _ (List.mem_of_getElem? (i := 10) rfl)) (by decide) (by decide)) (g := (mkF m 145 #[z0, z1, z2, z3, .val (.int sj), .val (.int pj), .val (.int oj), .val (.ref oO), .val (.ref oA), .unset] [(.int sj)])) rfl (by rw [hml]; rfl) (argsL := [(.int sj)]) (rest := []) (lenOf pd_1 rfl) rfl (by show 2 * 0 + _ ≤ _; exact Nat.le_of_eq rfl) (hb hby at_145) (fun _ _ => ⟨rfl, eh11, (by decide : (((0 + 0) + 0) + 0) + 0 ≤ _), (by decide : (((0 + 0) + 0) + 0) + 0 ≤ _)⟩)
  dsimp only [Pt.U, Pt.locs, Pt.cells, Pt.slots] at X22 l22 y22 z22 st22 hQ22
  subst l22 y22 z22
  obtain ⟨rfl, Nq22, eh22⟩ := hQ22
  have N22 := Fr.app N11 Nq22
  refine own_via (G := T22.setTop (mkF m 148 #[z0, z1, z2, z3, .val (.int sj), .val (.int pj), .val (.int oj), .val (.ref oO), .val (.ref oA), .unset] [(.int (own_fx sj))])) (fun t k => st22 t k) ?_
  refine own_via (G := T22.setTop (mkF m 150 #[z0, z1, z2, z3, .val (.int sj), .val (.int pj), .val (.int oj), .val (.ref oO), .val (.ref oA), .unset] [(.int pj), (.int (own_fx sj))])) (fun t k => XS.iload X22.here hx rfl (hb hby at_148) rfl k) ?_
  obtain ⟨_, _, ⟨T23, L23, k23, n23⟩, -, X23, ⟨Lc23, hQ23, l23, y23, z23⟩, st23⟩ := Jvm.LawKit.callS X22 hx (y := (⟨"com/example/triplewright/triplewright/store/OrderCoveringPinLaw", "fixed", "(I)I"⟩ : MethodName)) hown (mvT hZ (hw _ (List.mem_of_getElem? (i := 12) rfl))) (mvT hZ (hw _ (List.mem_of_getElem? (i := 13) rfl))) (mvT hZ (hw _ (List.mem_of_getElem? (i := 10) rfl))) (mvT hZ (hw _ (List.mem_of_getElem? (i := 14) rfl))) (by decide) (backOf (W := 1) (rm3 l Z a0 hw [] pj h0 n0 Z0) hZ (hw _ (List.mem_of_getElem? (i := 14) rfl)) (hw _ (List.mem_of_getElem? (i := 10) rfl)) (by decide) (by decide)) (g := (mkF m 150 #[z0, z1, z2, z3, .val (.int sj), .val (.int pj), .val (.int oj), .val (.ref oO), .val (.ref oA), .unset] [(.int pj), (.int (own_fx sj))])) rfl (by rw [hml]; rfl) (argsL := [(.int pj)]) (rest := [(.int (own_fx sj))]) (lenOf pd_1 rfl) rfl (by show 2 * 0 + _ ≤ _; exact Nat.le_of_eq rfl) (hb hby at_150) (fun _ _ => ⟨rfl, eh22, (by decide : ((((0 + 0) + 0) + 0) + 0) + 0 ≤ _), (by decide : ((((0 + 0) + 0) + 0) + 0) + 0 ≤ _)⟩)
  dsimp only [Pt.U, Pt.locs, Pt.cells, Pt.slots] at X23 l23 y23 z23 st23 hQ23
  subst l23 y23 z23
  obtain ⟨rfl, Nq23, eh23⟩ := hQ23
  have N23 := Fr.app N22 Nq23
  refine own_via (G := T23.setTop (mkF m 153 #[z0, z1, z2, z3, .val (.int sj), .val (.int pj), .val (.int oj), .val (.ref oO), .val (.ref oA), .unset] [(.int (own_fx pj)), (.int (own_fx sj))])) (fun t k => st23 t k) ?_
  refine own_via (G := T23.setTop (mkF m 154 #[z0, z1, z2, z3, .val (.int sj), .val (.int pj), .val (.int oj), .val (.ref oO), .val (.ref oA), .unset] [(.int ((own_fx sj) + (own_fx pj)))])) (fun t k => XS.iadd X23.here hx rfl (hb hby at_153) rfl k) ?_
  refine own_via (G := T23.setTop (mkF m 156 #[z0, z1, z2, z3, .val (.int sj), .val (.int pj), .val (.int oj), .val (.ref oO), .val (.ref oA), .unset] [(.int oj), (.int ((own_fx sj) + (own_fx pj)))])) (fun t k => XS.iload X23.here hx rfl (hb hby at_154) rfl k) ?_
  obtain ⟨_, _, ⟨T24, L24, k24, n24⟩, -, X24, ⟨Lc24, hQ24, l24, y24, z24⟩, st24⟩ := Jvm.LawKit.callS X23 hx (y := (⟨"com/example/triplewright/triplewright/store/OrderCoveringPinLaw", "fixed", "(I)I"⟩ : MethodName)) hown (mvT hZ (hw _ (List.mem_of_getElem? (i := 12) rfl))) (mvT hZ (hw _ (List.mem_of_getElem? (i := 13) rfl))) (mvT hZ (hw _ (List.mem_of_getElem? (i := 10) rfl))) (mvT hZ (hw _ (List.mem_of_getElem? (i := 14) rfl))) (by decide) (backOf (W := 1) (rm3 l Z a0 hw [] oj h0 n0 Z0) hZ (hw _ (List.mem_of_getElem? (i := 14) rfl)) (hw _ (List.mem_of_getElem? (i := 10) rfl)) (by decide) (by decide)) (g := (mkF m 156 #[z0, z1, z2, z3, .val (.int sj), .val (.int pj), .val (.int oj), .val (.ref oO), .val (.ref oA), .unset] [(.int oj), (.int ((own_fx sj) + (own_fx pj)))])) rfl (by rw [hml]; rfl) (argsL := [(.int oj)]) (rest := [(.int ((own_fx sj) + (own_fx pj)))]) (lenOf pd_1 rfl) rfl (by show 2 * 0 + _ ≤ _; exact Nat.le_of_eq rfl) (hb hby at_156) (fun _ _ => ⟨rfl, eh23, (by decide : (((((0 + 0) + 0) + 0) + 0) + 0) + 0 ≤ _), (by decide : (((((0 + 0) + 0) + 0) + 0) + 0) + 0 ≤ _)⟩)
  dsimp only [Pt.U, Pt.locs, Pt.cells, Pt.slots] at X24 l24 y24 z24 st24 hQ24
  subst l24 y24 z24
  obtain ⟨rfl, Nq24, eh24⟩ := hQ24
  have N24 := Fr.app N23 Nq24
  refine own_via (G := T24.setTop (mkF m 159 #[z0, z1, z2, z3, .val (.int sj), .val (.int pj), .val (.int oj), .val (.ref oO), .val (.ref oA), .unset] [(.int (own_fx oj)), (.int ((own_fx sj) + (own_fx pj)))])) (fun t k => st24 t k) ?_
  refine own_via (G := T24.setTop (mkF m 160 #[z0, z1, z2, z3, .val (.int sj), .val (.int pj), .val (.int oj), .val (.ref oO), .val (.ref oA), .unset] [(.int (((own_fx sj) + (own_fx pj)) + (own_fx oj)))])) (fun t k => XS.iadd X24.here hx rfl (hb hby at_159) rfl k) ?_
  refine own_via (G := T24.setTop (mkF m 162 #[z0, z1, z2, z3, .val (.int sj), .val (.int pj), .val (.int oj), .val (.ref oO), .val (.ref oA), .val (.int (((own_fx sj) + (own_fx pj)) + (own_fx oj)))] [])) (fun t k => XS.istore X24.here hx rfl (hb hby at_160) rfl (l' := #[z0, z1, z2, z3, .val (.int sj), .val (.int pj), .val (.int oj), .val (.ref oO), .val (.ref oA), .val (.int (((own_fx sj) + (own_fx pj)) + (own_fx oj)))]) rfl k) ?_
  refine own_via (G := T24.setTop (mkF m 164 #[z0, z1, z2, z3, .val (.int sj), .val (.int pj), .val (.int oj), .val (.ref oO), .val (.ref oA), .val (.int (((own_fx sj) + (own_fx pj)) + (own_fx oj)))] [(.ref oA)])) (fun t k => XS.aload X24.here hx rfl (hb hby at_162) rfl rfl k) ?_
  refine own_via (G := T24.setTop (mkF m 165 #[z0, z1, z2, z3, .val (.int sj), .val (.int pj), .val (.int oj), .val (.ref oO), .val (.ref oA), .val (.int (((own_fx sj) + (own_fx pj)) + (own_fx oj)))] [(.int (0 : Int32)), (.ref oA)])) (fun t k => XS.iconst X24.here hx rfl (hb hby at_164) k) ?_
  obtain ⟨cl25, Ar25, q25, S25, NN25, H25, G25⟩ := id VA
  have in25 := inb_of (j := (0 : Int32)) S25 ⟨by decide, by decide⟩
  have hat25 : cl25.slots[((0 : Int32)).toNatClampNeg]? = some (.int v0) := H25.at in25 rfl
  refine own_via (G := T24.setTop (mkF m 166 #[z0, z1, z2, z3, .val (.int sj), .val (.int pj), .val (.int oj), .val (.ref oO), .val (.ref oA), .val (.int (((own_fx sj) + (own_fx pj)) + (own_fx oj)))] [(.int v0)])) (fun t k => X24.iaload hx (j := (0 : Int32)) (v := (.int v0)) (by rw [eh24]; exact Ar25.1) (State.isArrayOf_alike hZ.alike Ar25.2.1) Ar25.2.2 in25 hat25 (g := (mkF m 165 #[z0, z1, z2, z3, .val (.int sj), .val (.int pj), .val (.int oj), .val (.ref oO), .val (.ref oA), .val (.int (((own_fx sj) + (own_fx pj)) + (own_fx oj)))] [(.int (0 : Int32)), (.ref oA)])) rfl rfl (hb hby at_165) t k) ?_
  refine own_via (G := T24.setTop (mkF m 168 #[z0, z1, z2, z3, .val (.int sj), .val (.int pj), .val (.int oj), .val (.ref oO), .val (.ref oA), .val (.int (((own_fx sj) + (own_fx pj)) + (own_fx oj)))] [(.int sj), (.int v0)])) (fun t k => XS.iload X24.here hx rfl (hb hby at_166) rfl k) ?_
  refine own_via (G := T24.setTop (mkF m 170 #[z0, z1, z2, z3, .val (.int sj), .val (.int pj), .val (.int oj), .val (.ref oO), .val (.ref oA), .val (.int (((own_fx sj) + (own_fx pj)) + (own_fx oj)))] [(.int pj), (.int sj), (.int v0)])) (fun t k => XS.iload X24.here hx rfl (hb hby at_168) rfl k) ?_
  refine own_via (G := T24.setTop (mkF m 172 #[z0, z1, z2, z3, .val (.int sj), .val (.int pj), .val (.int oj), .val (.ref oO), .val (.ref oA), .val (.int (((own_fx sj) + (own_fx pj)) + (own_fx oj)))] [(.int oj), (.int pj), (.int sj), (.int v0)])) (fun t k => XS.iload X24.here hx rfl (hb hby at_170) rfl k) ?_
  obtain ⟨_, _, ⟨T26, L26, k26, n26⟩, -, X26, ⟨Lc26, hQ26, l26, y26, z26⟩, st26⟩ := Jvm.LawKit.callS X24 hx (y := (⟨"com/example/triplewright/triplewright/store/OrderCoveringPinLaw", "pick", "(IIII)I"⟩ : MethodName)) hown (mvT hZ (hw _ (List.mem_of_getElem? (i := 15) rfl))) (mvT hZ (hw _ (List.mem_of_getElem? (i := 16) rfl))) (mvT hZ (hw _ (List.mem_of_getElem? (i := 10) rfl))) (mvT hZ (hw _ (List.mem_of_getElem? (i := 17) rfl))) (by decide) (backOf (W := 0) (rm4 l Z a0 hw [] v0 sj pj oj h0 n0 Z0) hZ (hw _ (List.mem_of_getElem? (i := 17) rfl)) (hw _ (List.mem_of_getElem? (i := 10) rfl)) (by decide) (by decide)) (g := (mkF m 172 #[z0, z1, z2, z3, .val (.int sj), .val (.int pj), .val (.int oj), .val (.ref oO), .val (.ref oA), .val (.int (((own_fx sj) + (own_fx pj)) + (own_fx oj)))] [(.int oj), (.int pj), (.int sj), (.int v0)])) rfl (by rw [hml]; rfl) (argsL := [(.int v0), (.int sj), (.int pj), (.int oj)]) (rest := []) (lenOf pd_2 rfl) rfl (by show 2 * 0 + _ ≤ _; exact Nat.le_of_eq rfl) (hb hby at_172) (fun _ _ => ⟨rfl, eh24, (by decide : ((((((0 + 0) + 0) + 0) + 0) + 0) + 0) + 0 ≤ _), (by decide : ((((((0 + 0) + 0) + 0) + 0) + 0) + 0) + 0 ≤ _)⟩)
  dsimp only [Pt.U, Pt.locs, Pt.cells, Pt.slots] at X26 l26 y26 z26 st26 hQ26
  subst l26 y26 z26
  obtain ⟨rfl, Nq26, eh26⟩ := hQ26
  have N26 := Fr.app N24 Nq26
  refine own_via (G := T26.setTop (mkF m 175 #[z0, z1, z2, z3, .val (.int sj), .val (.int pj), .val (.int oj), .val (.ref oO), .val (.ref oA), .val (.int (((own_fx sj) + (own_fx pj)) + (own_fx oj)))] [(.int (own_pk v0 sj pj oj))])) (fun t k => st26 t k) ?_
  obtain ⟨_, _, ⟨T27, L27, k27, n27⟩, -, X27, ⟨Lc27, hQ27, l27, y27, z27⟩, st27⟩ := Jvm.LawKit.callS X26 hx (y := (⟨"com/example/triplewright/triplewright/store/OrderCoveringPinLaw", "fixed", "(I)I"⟩ : MethodName)) hown (mvT hZ (hw _ (List.mem_of_getElem? (i := 12) rfl))) (mvT hZ (hw _ (List.mem_of_getElem? (i := 13) rfl))) (mvT hZ (hw _ (List.mem_of_getElem? (i := 10) rfl))) (mvT hZ (hw _ (List.mem_of_getElem? (i := 14) rfl))) (by decide) (backOf (W := 0) (rm3 l Z a0 hw [] (own_pk v0 sj pj oj) h0 n0 Z0) hZ (hw _ (List.mem_of_getElem? (i := 14) rfl)) (hw _ (List.mem_of_getElem? (i := 10) rfl)) (by decide) (by decide)) (g := (mkF m 175 #[z0, z1, z2, z3, .val (.int sj), .val (.int pj), .val (.int oj), .val (.ref oO), .val (.ref oA), .val (.int (((own_fx sj) + (own_fx pj)) + (own_fx oj)))] [(.int (own_pk v0 sj pj oj))])) rfl (by rw [hml]; rfl) (argsL := [(.int (own_pk v0 sj pj oj))]) (rest := []) (lenOf pd_1 rfl) rfl (by show 2 * 0 + _ ≤ _; exact Nat.le_of_eq rfl) (hb hby at_175) (fun _ _ => ⟨rfl, eh26, (by decide : (((((((0 + 0) + 0) + 0) + 0) + 0) + 0) + 0) + 0 ≤ _), (by decide : (((((((0 + 0) + 0) + 0) + 0) + 0) + 0) + 0) + 0 ≤ _)⟩)
  dsimp only [Pt.U, Pt.locs, Pt.cells, Pt.slots] at X27 l27 y27 z27 st27 hQ27
  subst l27 y27 z27
  obtain ⟨rfl, Nq27, eh27⟩ := hQ27
  have N27 := Fr.app N26 Nq27
  refine own_via (G := T27.setTop (mkF m 178 #[z0, z1, z2, z3, .val (.int sj), .val (.int pj), .val (.int oj), .val (.ref oO), .val (.ref oA), .val (.int (((own_fx sj) + (own_fx pj)) + (own_fx oj)))] [(.int (own_fx (own_pk v0 sj pj oj)))])) (fun t k => st27 t k) ?_
  refine own_via (G := T27.setTop (mkF m 179 #[z0, z1, z2, z3, .val (.int sj), .val (.int pj), .val (.int oj), .val (.ref oO), .val (.ref oA), .val (.int (((own_fx sj) + (own_fx pj)) + (own_fx oj)))] [(.int (0 : Int32)), (.int (own_fx (own_pk v0 sj pj oj)))])) (fun t k => XS.iconst X27.here hx rfl (hb hby at_178) k) ?_
  refine own_via (G := T27.setTop (mkF m 181 #[z0, z1, z2, z3, .val (.int sj), .val (.int pj), .val (.int oj), .val (.ref oO), .val (.ref oA), .val (.int (((own_fx sj) + (own_fx pj)) + (own_fx oj)))] [(.int (((own_fx sj) + (own_fx pj)) + (own_fx oj))), (.int (0 : Int32)), (.int (own_fx (own_pk v0 sj pj oj)))])) (fun t k => XS.iload X27.here hx rfl (hb hby at_179) rfl k) ?_
  by_cases hc28_181 : (0 : Int32) < (((own_fx sj) + (own_fx pj)) + (own_fx oj))
  · refine own_via (G := T27.setTop (mkF m 184 #[z0, z1, z2, z3, .val (.int sj), .val (.int pj), .val (.int oj), .val (.ref oO), .val (.ref oA), .val (.int (((own_fx sj) + (own_fx pj)) + (own_fx oj)))] [(.int (own_fx (own_pk v0 sj pj oj)))])) (fun t k => XS.icmpNo X27.here hx rfl (hb hby at_181) rfl (XT.ii_ge_f hc28_181) k) ?_
    refine own_via (G := T27.setTop (mkF m 185 #[z0, z1, z2, z3, .val (.int sj), .val (.int pj), .val (.int oj), .val (.ref oO), .val (.ref oA), .val (.int (((own_fx sj) + (own_fx pj)) + (own_fx oj)))] [(.int (1 : Int32)), (.int (own_fx (own_pk v0 sj pj oj)))])) (fun t k => XS.iconst X27.here hx rfl (hb hby at_184) k) ?_
    refine own_via (G := T27.setTop (mkF m 189 #[z0, z1, z2, z3, .val (.int sj), .val (.int pj), .val (.int oj), .val (.ref oO), .val (.ref oA), .val (.int (((own_fx sj) + (own_fx pj)) + (own_fx oj)))] [(.int (1 : Int32)), (.int (own_fx (own_pk v0 sj pj oj)))])) (fun t k => XS.goto X27.here hx rfl (pc0 := 185) (pc' := 189) rfl (hb hby at_185) (by decide) (by decide) k) ?_
    have hc29_189 : (own_fx (own_pk v0 sj pj oj)) = (1 : Int32) := c0.trans (if_pos hc28_181)
    refine own_via (G := T27.setTop (mkF m 192 #[z0, z1, z2, z3, .val (.int sj), .val (.int pj), .val (.int oj), .val (.ref oO), .val (.ref oA), .val (.int (((own_fx sj) + (own_fx pj)) + (own_fx oj)))] [])) (fun t k => XS.icmpNo X27.here hx rfl (hb hby at_189) rfl (XT.ii_ne_f hc29_189) k) ?_
    refine own_via (G := T27.setTop (mkF m 194 #[z0, z1, z2, z3, .val (.int sj), .val (.int pj), .val (.int oj), .val (.ref oO), .val (.ref oA), .val (.int (((own_fx sj) + (own_fx pj)) + (own_fx oj)))] [(.ref oA)])) (fun t k => XS.aload X27.here hx rfl (hb hby at_192) rfl rfl k) ?_
    refine own_via (G := T27.setTop (mkF m 195 #[z0, z1, z2, z3, .val (.int sj), .val (.int pj), .val (.int oj), .val (.ref oO), .val (.ref oA), .val (.int (((own_fx sj) + (own_fx pj)) + (own_fx oj)))] [(.int (1 : Int32)), (.ref oA)])) (fun t k => XS.iconst X27.here hx rfl (hb hby at_194) k) ?_
    obtain ⟨cl30, Ar30, q30, S30, NN30, H30, G30⟩ := id VA
    have in30 := inb_of (j := (1 : Int32)) S30 ⟨by decide, by decide⟩
    have hat30 : cl30.slots[((1 : Int32)).toNatClampNeg]? = some (.int v1) := H30.at in30 rfl
    refine own_via (G := T27.setTop (mkF m 196 #[z0, z1, z2, z3, .val (.int sj), .val (.int pj), .val (.int oj), .val (.ref oO), .val (.ref oA), .val (.int (((own_fx sj) + (own_fx pj)) + (own_fx oj)))] [(.int v1)])) (fun t k => X27.iaload hx (j := (1 : Int32)) (v := (.int v1)) (by rw [eh27]; exact Ar30.1) (State.isArrayOf_alike hZ.alike Ar30.2.1) Ar30.2.2 in30 hat30 (g := (mkF m 195 #[z0, z1, z2, z3, .val (.int sj), .val (.int pj), .val (.int oj), .val (.ref oO), .val (.ref oA), .val (.int (((own_fx sj) + (own_fx pj)) + (own_fx oj)))] [(.int (1 : Int32)), (.ref oA)])) rfl rfl (hb hby at_195) t k) ?_
    refine own_via (G := T27.setTop (mkF m 198 #[z0, z1, z2, z3, .val (.int sj), .val (.int pj), .val (.int oj), .val (.ref oO), .val (.ref oA), .val (.int (((own_fx sj) + (own_fx pj)) + (own_fx oj)))] [(.int sj), (.int v1)])) (fun t k => XS.iload X27.here hx rfl (hb hby at_196) rfl k) ?_
    refine own_via (G := T27.setTop (mkF m 200 #[z0, z1, z2, z3, .val (.int sj), .val (.int pj), .val (.int oj), .val (.ref oO), .val (.ref oA), .val (.int (((own_fx sj) + (own_fx pj)) + (own_fx oj)))] [(.int pj), (.int sj), (.int v1)])) (fun t k => XS.iload X27.here hx rfl (hb hby at_198) rfl k) ?_
    refine own_via (G := T27.setTop (mkF m 202 #[z0, z1, z2, z3, .val (.int sj), .val (.int pj), .val (.int oj), .val (.ref oO), .val (.ref oA), .val (.int (((own_fx sj) + (own_fx pj)) + (own_fx oj)))] [(.int oj), (.int pj), (.int sj), (.int v1)])) (fun t k => XS.iload X27.here hx rfl (hb hby at_200) rfl k) ?_
    obtain ⟨_, _, ⟨T31, L31, k31, n31⟩, -, X31, ⟨Lc31, hQ31, l31, y31, z31⟩, st31⟩ := Jvm.LawKit.callS X27 hx (y := (⟨"com/example/triplewright/triplewright/store/OrderCoveringPinLaw", "pick", "(IIII)I"⟩ : MethodName)) hown (mvT hZ (hw _ (List.mem_of_getElem? (i := 15) rfl))) (mvT hZ (hw _ (List.mem_of_getElem? (i := 16) rfl))) (mvT hZ (hw _ (List.mem_of_getElem? (i := 10) rfl))) (mvT hZ (hw _ (List.mem_of_getElem? (i := 17) rfl))) (by decide) (backOf (W := 0) (rm4 l Z a0 hw [] v1 sj pj oj h0 n0 Z0) hZ (hw _ (List.mem_of_getElem? (i := 17) rfl)) (hw _ (List.mem_of_getElem? (i := 10) rfl)) (by decide) (by decide)) (g := (mkF m 202 #[z0, z1, z2, z3, .val (.int sj), .val (.int pj), .val (.int oj), .val (.ref oO), .val (.ref oA), .val (.int (((own_fx sj) + (own_fx pj)) + (own_fx oj)))] [(.int oj), (.int pj), (.int sj), (.int v1)])) rfl (by rw [hml]; rfl) (argsL := [(.int v1), (.int sj), (.int pj), (.int oj)]) (rest := []) (lenOf pd_2 rfl) rfl (by show 2 * 0 + _ ≤ _; exact Nat.le_of_eq rfl) (hb hby at_202) (fun _ _ => ⟨rfl, eh27, (by decide : ((((((((0 + 0) + 0) + 0) + 0) + 0) + 0) + 0) + 0) + 0 ≤ _), (by decide : ((((((((0 + 0) + 0) + 0) + 0) + 0) + 0) + 0) + 0) + 0 ≤ _)⟩)
    dsimp only [Pt.U, Pt.locs, Pt.cells, Pt.slots] at X31 l31 y31 z31 st31 hQ31
    subst l31 y31 z31
    obtain ⟨rfl, Nq31, eh31⟩ := hQ31
    have N31 := Fr.app N27 Nq31
    refine own_via (G := T31.setTop (mkF m 205 #[z0, z1, z2, z3, .val (.int sj), .val (.int pj), .val (.int oj), .val (.ref oO), .val (.ref oA), .val (.int (((own_fx sj) + (own_fx pj)) + (own_fx oj)))] [(.int (own_pk v1 sj pj oj))])) (fun t k => st31 t k) ?_
    obtain ⟨_, _, ⟨T32, L32, k32, n32⟩, -, X32, ⟨Lc32, hQ32, l32, y32, z32⟩, st32⟩ := Jvm.LawKit.callS X31 hx (y := (⟨"com/example/triplewright/triplewright/store/OrderCoveringPinLaw", "fixed", "(I)I"⟩ : MethodName)) hown (mvT hZ (hw _ (List.mem_of_getElem? (i := 12) rfl))) (mvT hZ (hw _ (List.mem_of_getElem? (i := 13) rfl))) (mvT hZ (hw _ (List.mem_of_getElem? (i := 10) rfl))) (mvT hZ (hw _ (List.mem_of_getElem? (i := 14) rfl))) (by decide) (backOf (W := 0) (rm3 l Z a0 hw [] (own_pk v1 sj pj oj) h0 n0 Z0) hZ (hw _ (List.mem_of_getElem? (i := 14) rfl)) (hw _ (List.mem_of_getElem? (i := 10) rfl)) (by decide) (by decide)) (g := (mkF m 205 #[z0, z1, z2, z3, .val (.int sj), .val (.int pj), .val (.int oj), .val (.ref oO), .val (.ref oA), .val (.int (((own_fx sj) + (own_fx pj)) + (own_fx oj)))] [(.int (own_pk v1 sj pj oj))])) rfl (by rw [hml]; rfl) (argsL := [(.int (own_pk v1 sj pj oj))]) (rest := []) (lenOf pd_1 rfl) rfl (by show 2 * 0 + _ ≤ _; exact Nat.le_of_eq rfl) (hb hby at_205) (fun _ _ => ⟨rfl, eh31, (by decide : (((((((((0 + 0) + 0) + 0) + 0) + 0) + 0) + 0) + 0) + 0) + 0 ≤ _), (by decide : (((((((((0 + 0) + 0) + 0) + 0) + 0) + 0) + 0) + 0) + 0) + 0 ≤ _)⟩)
    dsimp only [Pt.U, Pt.locs, Pt.cells, Pt.slots] at X32 l32 y32 z32 st32 hQ32
    subst l32 y32 z32
    obtain ⟨rfl, Nq32, eh32⟩ := hQ32
    have N32 := Fr.app N31 Nq32
    refine own_via (G := T32.setTop (mkF m 208 #[z0, z1, z2, z3, .val (.int sj), .val (.int pj), .val (.int oj), .val (.ref oO), .val (.ref oA), .val (.int (((own_fx sj) + (own_fx pj)) + (own_fx oj)))] [(.int (own_fx (own_pk v1 sj pj oj)))])) (fun t k => st32 t k) ?_
    refine own_via (G := T32.setTop (mkF m 209 #[z0, z1, z2, z3, .val (.int sj), .val (.int pj), .val (.int oj), .val (.ref oO), .val (.ref oA), .val (.int (((own_fx sj) + (own_fx pj)) + (own_fx oj)))] [(.int (1 : Int32)), (.int (own_fx (own_pk v1 sj pj oj)))])) (fun t k => XS.iconst X32.here hx rfl (hb hby at_208) k) ?_
    refine own_via (G := T32.setTop (mkF m 211 #[z0, z1, z2, z3, .val (.int sj), .val (.int pj), .val (.int oj), .val (.ref oO), .val (.ref oA), .val (.int (((own_fx sj) + (own_fx pj)) + (own_fx oj)))] [(.int (((own_fx sj) + (own_fx pj)) + (own_fx oj))), (.int (1 : Int32)), (.int (own_fx (own_pk v1 sj pj oj)))])) (fun t k => XS.iload X32.here hx rfl (hb hby at_209) rfl k) ?_
    by_cases hc33_211 : (1 : Int32) < (((own_fx sj) + (own_fx pj)) + (own_fx oj))
    · refine own_via (G := T32.setTop (mkF m 214 #[z0, z1, z2, z3, .val (.int sj), .val (.int pj), .val (.int oj), .val (.ref oO), .val (.ref oA), .val (.int (((own_fx sj) + (own_fx pj)) + (own_fx oj)))] [(.int (own_fx (own_pk v1 sj pj oj)))])) (fun t k => XS.icmpNo X32.here hx rfl (hb hby at_211) rfl (XT.ii_ge_f hc33_211) k) ?_
      refine own_via (G := T32.setTop (mkF m 215 #[z0, z1, z2, z3, .val (.int sj), .val (.int pj), .val (.int oj), .val (.ref oO), .val (.ref oA), .val (.int (((own_fx sj) + (own_fx pj)) + (own_fx oj)))] [(.int (1 : Int32)), (.int (own_fx (own_pk v1 sj pj oj)))])) (fun t k => XS.iconst X32.here hx rfl (hb hby at_214) k) ?_
      refine own_via (G := T32.setTop (mkF m 219 #[z0, z1, z2, z3, .val (.int sj), .val (.int pj), .val (.int oj), .val (.ref oO), .val (.ref oA), .val (.int (((own_fx sj) + (own_fx pj)) + (own_fx oj)))] [(.int (1 : Int32)), (.int (own_fx (own_pk v1 sj pj oj)))])) (fun t k => XS.goto X32.here hx rfl (pc0 := 215) (pc' := 219) rfl (hb hby at_215) (by decide) (by decide) k) ?_
      have hc34_219 : (own_fx (own_pk v1 sj pj oj)) = (1 : Int32) := c1.trans (if_pos hc33_211)
      refine own_via (G := T32.setTop (mkF m 222 #[z0, z1, z2, z3, .val (.int sj), .val (.int pj), .val (.int oj), .val (.ref oO), .val (.ref oA), .val (.int (((own_fx sj) + (own_fx pj)) + (own_fx oj)))] [])) (fun t k => XS.icmpNo X32.here hx rfl (hb hby at_219) rfl (XT.ii_ne_f hc34_219) k) ?_
      refine own_via (G := T32.setTop (mkF m 224 #[z0, z1, z2, z3, .val (.int sj), .val (.int pj), .val (.int oj), .val (.ref oO), .val (.ref oA), .val (.int (((own_fx sj) + (own_fx pj)) + (own_fx oj)))] [(.ref oA)])) (fun t k => XS.aload X32.here hx rfl (hb hby at_222) rfl rfl k) ?_
      refine own_via (G := T32.setTop (mkF m 225 #[z0, z1, z2, z3, .val (.int sj), .val (.int pj), .val (.int oj), .val (.ref oO), .val (.ref oA), .val (.int (((own_fx sj) + (own_fx pj)) + (own_fx oj)))] [(.int (2 : Int32)), (.ref oA)])) (fun t k => XS.iconst X32.here hx rfl (hb hby at_224) k) ?_
      obtain ⟨cl35, Ar35, q35, S35, NN35, H35, G35⟩ := id VA
      have in35 := inb_of (j := (2 : Int32)) S35 ⟨by decide, by decide⟩
      have hat35 : cl35.slots[((2 : Int32)).toNatClampNeg]? = some (.int v2) := H35.at in35 rfl
      refine own_via (G := T32.setTop (mkF m 226 #[z0, z1, z2, z3, .val (.int sj), .val (.int pj), .val (.int oj), .val (.ref oO), .val (.ref oA), .val (.int (((own_fx sj) + (own_fx pj)) + (own_fx oj)))] [(.int v2)])) (fun t k => X32.iaload hx (j := (2 : Int32)) (v := (.int v2)) (by rw [eh32]; exact Ar35.1) (State.isArrayOf_alike hZ.alike Ar35.2.1) Ar35.2.2 in35 hat35 (g := (mkF m 225 #[z0, z1, z2, z3, .val (.int sj), .val (.int pj), .val (.int oj), .val (.ref oO), .val (.ref oA), .val (.int (((own_fx sj) + (own_fx pj)) + (own_fx oj)))] [(.int (2 : Int32)), (.ref oA)])) rfl rfl (hb hby at_225) t k) ?_
      refine own_via (G := T32.setTop (mkF m 228 #[z0, z1, z2, z3, .val (.int sj), .val (.int pj), .val (.int oj), .val (.ref oO), .val (.ref oA), .val (.int (((own_fx sj) + (own_fx pj)) + (own_fx oj)))] [(.int sj), (.int v2)])) (fun t k => XS.iload X32.here hx rfl (hb hby at_226) rfl k) ?_
      refine own_via (G := T32.setTop (mkF m 230 #[z0, z1, z2, z3, .val (.int sj), .val (.int pj), .val (.int oj), .val (.ref oO), .val (.ref oA), .val (.int (((own_fx sj) + (own_fx pj)) + (own_fx oj)))] [(.int pj), (.int sj), (.int v2)])) (fun t k => XS.iload X32.here hx rfl (hb hby at_228) rfl k) ?_
      refine own_via (G := T32.setTop (mkF m 232 #[z0, z1, z2, z3, .val (.int sj), .val (.int pj), .val (.int oj), .val (.ref oO), .val (.ref oA), .val (.int (((own_fx sj) + (own_fx pj)) + (own_fx oj)))] [(.int oj), (.int pj), (.int sj), (.int v2)])) (fun t k => XS.iload X32.here hx rfl (hb hby at_230) rfl k) ?_
      obtain ⟨_, _, ⟨T36, L36, k36, n36⟩, -, X36, ⟨Lc36, hQ36, l36, y36, z36⟩, st36⟩ := Jvm.LawKit.callS X32 hx (y := (⟨"com/example/triplewright/triplewright/store/OrderCoveringPinLaw", "pick", "(IIII)I"⟩ : MethodName)) hown (mvT hZ (hw _ (List.mem_of_getElem? (i := 15) rfl))) (mvT hZ (hw _ (List.mem_of_getElem? (i := 16) rfl))) (mvT hZ (hw _ (List.mem_of_getElem? (i := 10) rfl))) (mvT hZ (hw _ (List.mem_of_getElem? (i := 17) rfl))) (by decide) (backOf (W := 0) (rm4 l Z a0 hw [] v2 sj pj oj h0 n0 Z0) hZ (hw _ (List.mem_of_getElem? (i := 17) rfl)) (hw _ (List.mem_of_getElem? (i := 10) rfl)) (by decide) (by decide)) (g := (mkF m 232 #[z0, z1, z2, z3, .val (.int sj), .val (.int pj), .val (.int oj), .val (.ref oO), .val (.ref oA), .val (.int (((own_fx sj) + (own_fx pj)) + (own_fx oj)))] [(.int oj), (.int pj), (.int sj), (.int v2)])) rfl (by rw [hml]; rfl) (argsL := [(.int v2), (.int sj), (.int pj), (.int oj)]) (rest := []) (lenOf pd_2 rfl) rfl (by show 2 * 0 + _ ≤ _; exact Nat.le_of_eq rfl) (hb hby at_232) (fun _ _ => ⟨rfl, eh32, (by decide : ((((((((((0 + 0) + 0) + 0) + 0) + 0) + 0) + 0) + 0) + 0) + 0) + 0 ≤ _), (by decide : ((((((((((0 + 0) + 0) + 0) + 0) + 0) + 0) + 0) + 0) + 0) + 0) + 0 ≤ _)⟩)
      dsimp only [Pt.U, Pt.locs, Pt.cells, Pt.slots] at X36 l36 y36 z36 st36 hQ36
      subst l36 y36 z36
      obtain ⟨rfl, Nq36, eh36⟩ := hQ36
      have N36 := Fr.app N32 Nq36
      refine own_via (G := T36.setTop (mkF m 235 #[z0, z1, z2, z3, .val (.int sj), .val (.int pj), .val (.int oj), .val (.ref oO), .val (.ref oA), .val (.int (((own_fx sj) + (own_fx pj)) + (own_fx oj)))] [(.int (own_pk v2 sj pj oj))])) (fun t k => st36 t k) ?_
      obtain ⟨_, _, ⟨T37, L37, k37, n37⟩, -, X37, ⟨Lc37, hQ37, l37, y37, z37⟩, st37⟩ := Jvm.LawKit.callS X36 hx (y := (⟨"com/example/triplewright/triplewright/store/OrderCoveringPinLaw", "fixed", "(I)I"⟩ : MethodName)) hown (mvT hZ (hw _ (List.mem_of_getElem? (i := 12) rfl))) (mvT hZ (hw _ (List.mem_of_getElem? (i := 13) rfl))) (mvT hZ (hw _ (List.mem_of_getElem? (i := 10) rfl))) (mvT hZ (hw _ (List.mem_of_getElem? (i := 14) rfl))) (by decide) (backOf (W := 0) (rm3 l Z a0 hw [] (own_pk v2 sj pj oj) h0 n0 Z0) hZ (hw _ (List.mem_of_getElem? (i := 14) rfl)) (hw _ (List.mem_of_getElem? (i := 10) rfl)) (by decide) (by decide)) (g := (mkF m 235 #[z0, z1, z2, z3, .val (.int sj), .val (.int pj), .val (.int oj), .val (.ref oO), .val (.ref oA), .val (.int (((own_fx sj) + (own_fx pj)) + (own_fx oj)))] [(.int (own_pk v2 sj pj oj))])) rfl (by rw [hml]; rfl) (argsL := [(.int (own_pk v2 sj pj oj))]) (rest := []) (lenOf pd_1 rfl) rfl (by show 2 * 0 + _ ≤ _; exact Nat.le_of_eq rfl) (hb hby at_235) (fun _ _ => ⟨rfl, eh36, (by decide : (((((((((((0 + 0) + 0) + 0) + 0) + 0) + 0) + 0) + 0) + 0) + 0) + 0) + 0 ≤ _), (by decide : (((((((((((0 + 0) + 0) + 0) + 0) + 0) + 0) + 0) + 0) + 0) + 0) + 0) + 0 ≤ _)⟩)
      dsimp only [Pt.U, Pt.locs, Pt.cells, Pt.slots] at X37 l37 y37 z37 st37 hQ37
      subst l37 y37 z37
      obtain ⟨rfl, Nq37, eh37⟩ := hQ37
      have N37 := Fr.app N36 Nq37
      refine own_via (G := T37.setTop (mkF m 238 #[z0, z1, z2, z3, .val (.int sj), .val (.int pj), .val (.int oj), .val (.ref oO), .val (.ref oA), .val (.int (((own_fx sj) + (own_fx pj)) + (own_fx oj)))] [(.int (own_fx (own_pk v2 sj pj oj)))])) (fun t k => st37 t k) ?_
      refine own_via (G := T37.setTop (mkF m 239 #[z0, z1, z2, z3, .val (.int sj), .val (.int pj), .val (.int oj), .val (.ref oO), .val (.ref oA), .val (.int (((own_fx sj) + (own_fx pj)) + (own_fx oj)))] [(.int (2 : Int32)), (.int (own_fx (own_pk v2 sj pj oj)))])) (fun t k => XS.iconst X37.here hx rfl (hb hby at_238) k) ?_
      refine own_via (G := T37.setTop (mkF m 241 #[z0, z1, z2, z3, .val (.int sj), .val (.int pj), .val (.int oj), .val (.ref oO), .val (.ref oA), .val (.int (((own_fx sj) + (own_fx pj)) + (own_fx oj)))] [(.int (((own_fx sj) + (own_fx pj)) + (own_fx oj))), (.int (2 : Int32)), (.int (own_fx (own_pk v2 sj pj oj)))])) (fun t k => XS.iload X37.here hx rfl (hb hby at_239) rfl k) ?_
      by_cases hc38_241 : (2 : Int32) < (((own_fx sj) + (own_fx pj)) + (own_fx oj))
      · refine own_via (G := T37.setTop (mkF m 244 #[z0, z1, z2, z3, .val (.int sj), .val (.int pj), .val (.int oj), .val (.ref oO), .val (.ref oA), .val (.int (((own_fx sj) + (own_fx pj)) + (own_fx oj)))] [(.int (own_fx (own_pk v2 sj pj oj)))])) (fun t k => XS.icmpNo X37.here hx rfl (hb hby at_241) rfl (XT.ii_ge_f hc38_241) k) ?_
        refine own_via (G := T37.setTop (mkF m 245 #[z0, z1, z2, z3, .val (.int sj), .val (.int pj), .val (.int oj), .val (.ref oO), .val (.ref oA), .val (.int (((own_fx sj) + (own_fx pj)) + (own_fx oj)))] [(.int (1 : Int32)), (.int (own_fx (own_pk v2 sj pj oj)))])) (fun t k => XS.iconst X37.here hx rfl (hb hby at_244) k) ?_
        refine own_via (G := T37.setTop (mkF m 249 #[z0, z1, z2, z3, .val (.int sj), .val (.int pj), .val (.int oj), .val (.ref oO), .val (.ref oA), .val (.int (((own_fx sj) + (own_fx pj)) + (own_fx oj)))] [(.int (1 : Int32)), (.int (own_fx (own_pk v2 sj pj oj)))])) (fun t k => XS.goto X37.here hx rfl (pc0 := 245) (pc' := 249) rfl (hb hby at_245) (by decide) (by decide) k) ?_
        have hc39_249 : (own_fx (own_pk v2 sj pj oj)) = (1 : Int32) := c2.trans (if_pos hc38_241)
        refine own_via (G := T37.setTop (mkF m 252 #[z0, z1, z2, z3, .val (.int sj), .val (.int pj), .val (.int oj), .val (.ref oO), .val (.ref oA), .val (.int (((own_fx sj) + (own_fx pj)) + (own_fx oj)))] [])) (fun t k => XS.icmpNo X37.here hx rfl (hb hby at_249) rfl (XT.ii_ne_f hc39_249) k) ?_
        refine own_via (G := T37.setTop (mkF m 253 #[z0, z1, z2, z3, .val (.int sj), .val (.int pj), .val (.int oj), .val (.ref oO), .val (.ref oA), .val (.int (((own_fx sj) + (own_fx pj)) + (own_fx oj)))] [(.int (1 : Int32))])) (fun t k => XS.iconst X37.here hx rfl (hb hby at_252) k) ?_
        refine own_via (G := T37.setTop (mkF m 257 #[z0, z1, z2, z3, .val (.int sj), .val (.int pj), .val (.int oj), .val (.ref oO), .val (.ref oA), .val (.int (((own_fx sj) + (own_fx pj)) + (own_fx oj)))] [(.int (1 : Int32))])) (fun t k => XS.goto X37.here hx rfl (pc0 := 253) (pc' := 257) rfl (hb hby at_253) (by decide) (by decide) k) ?_
        exact own_fin X37 eh37 (v := some (.int (1 : Int32))) (fun h => by rw [hret] at h; cases h) hlk (fun fs hr => retN X37 hx (t := .boolean) hret (by simp) (hb hby at_257) hr) (show ((fun (v : Option Value) (h : Heap) (L : List Loc) => v = some (.int (1 : Int32)) ∧ Fr n0 L)) (some (.int (1 : Int32))) h0 _ from ⟨rfl, N37⟩) (by decide) (by decide)
      · refine own_via (G := T37.setTop (mkF m 248 #[z0, z1, z2, z3, .val (.int sj), .val (.int pj), .val (.int oj), .val (.ref oO), .val (.ref oA), .val (.int (((own_fx sj) + (own_fx pj)) + (own_fx oj)))] [(.int (own_fx (own_pk v2 sj pj oj)))])) (fun t k => XS.icmpYes X37.here hx rfl (pc0 := 241) (pc' := 248) rfl (hb hby at_241) rfl (XT.ii_ge_t hc38_241) (by decide) (by decide) k) ?_
        refine own_via (G := T37.setTop (mkF m 249 #[z0, z1, z2, z3, .val (.int sj), .val (.int pj), .val (.int oj), .val (.ref oO), .val (.ref oA), .val (.int (((own_fx sj) + (own_fx pj)) + (own_fx oj)))] [(.int (0 : Int32)), (.int (own_fx (own_pk v2 sj pj oj)))])) (fun t k => XS.iconst X37.here hx rfl (hb hby at_248) k) ?_
        have hc40_249 : (own_fx (own_pk v2 sj pj oj)) = (0 : Int32) := c2.trans (if_neg hc38_241)
        refine own_via (G := T37.setTop (mkF m 252 #[z0, z1, z2, z3, .val (.int sj), .val (.int pj), .val (.int oj), .val (.ref oO), .val (.ref oA), .val (.int (((own_fx sj) + (own_fx pj)) + (own_fx oj)))] [])) (fun t k => XS.icmpNo X37.here hx rfl (hb hby at_249) rfl (XT.ii_ne_f hc40_249) k) ?_
        refine own_via (G := T37.setTop (mkF m 253 #[z0, z1, z2, z3, .val (.int sj), .val (.int pj), .val (.int oj), .val (.ref oO), .val (.ref oA), .val (.int (((own_fx sj) + (own_fx pj)) + (own_fx oj)))] [(.int (1 : Int32))])) (fun t k => XS.iconst X37.here hx rfl (hb hby at_252) k) ?_
        refine own_via (G := T37.setTop (mkF m 257 #[z0, z1, z2, z3, .val (.int sj), .val (.int pj), .val (.int oj), .val (.ref oO), .val (.ref oA), .val (.int (((own_fx sj) + (own_fx pj)) + (own_fx oj)))] [(.int (1 : Int32))])) (fun t k => XS.goto X37.here hx rfl (pc0 := 253) (pc' := 257) rfl (hb hby at_253) (by decide) (by decide) k) ?_
        exact own_fin X37 eh37 (v := some (.int (1 : Int32))) (fun h => by rw [hret] at h; cases h) hlk (fun fs hr => retN X37 hx (t := .boolean) hret (by simp) (hb hby at_257) hr) (show ((fun (v : Option Value) (h : Heap) (L : List Loc) => v = some (.int (1 : Int32)) ∧ Fr n0 L)) (some (.int (1 : Int32))) h0 _ from ⟨rfl, N37⟩) (by decide) (by decide)
    · refine own_via (G := T32.setTop (mkF m 218 #[z0, z1, z2, z3, .val (.int sj), .val (.int pj), .val (.int oj), .val (.ref oO), .val (.ref oA), .val (.int (((own_fx sj) + (own_fx pj)) + (own_fx oj)))] [(.int (own_fx (own_pk v1 sj pj oj)))])) (fun t k => XS.icmpYes X32.here hx rfl (pc0 := 211) (pc' := 218) rfl (hb hby at_211) rfl (XT.ii_ge_t hc33_211) (by decide) (by decide) k) ?_
      refine own_via (G := T32.setTop (mkF m 219 #[z0, z1, z2, z3, .val (.int sj), .val (.int pj), .val (.int oj), .val (.ref oO), .val (.ref oA), .val (.int (((own_fx sj) + (own_fx pj)) + (own_fx oj)))] [(.int (0 : Int32)), (.int (own_fx (own_pk v1 sj pj oj)))])) (fun t k => XS.iconst X32.here hx rfl (hb hby at_218) k) ?_
      have hc41_219 : (own_fx (own_pk v1 sj pj oj)) = (0 : Int32) := c1.trans (if_neg hc33_211)
      refine own_via (G := T32.setTop (mkF m 222 #[z0, z1, z2, z3, .val (.int sj), .val (.int pj), .val (.int oj), .val (.ref oO), .val (.ref oA), .val (.int (((own_fx sj) + (own_fx pj)) + (own_fx oj)))] [])) (fun t k => XS.icmpNo X32.here hx rfl (hb hby at_219) rfl (XT.ii_ne_f hc41_219) k) ?_
      refine own_via (G := T32.setTop (mkF m 224 #[z0, z1, z2, z3, .val (.int sj), .val (.int pj), .val (.int oj), .val (.ref oO), .val (.ref oA), .val (.int (((own_fx sj) + (own_fx pj)) + (own_fx oj)))] [(.ref oA)])) (fun t k => XS.aload X32.here hx rfl (hb hby at_222) rfl rfl k) ?_
      refine own_via (G := T32.setTop (mkF m 225 #[z0, z1, z2, z3, .val (.int sj), .val (.int pj), .val (.int oj), .val (.ref oO), .val (.ref oA), .val (.int (((own_fx sj) + (own_fx pj)) + (own_fx oj)))] [(.int (2 : Int32)), (.ref oA)])) (fun t k => XS.iconst X32.here hx rfl (hb hby at_224) k) ?_
      obtain ⟨cl42, Ar42, q42, S42, NN42, H42, G42⟩ := id VA
      have in42 := inb_of (j := (2 : Int32)) S42 ⟨by decide, by decide⟩
      have hat42 : cl42.slots[((2 : Int32)).toNatClampNeg]? = some (.int v2) := H42.at in42 rfl
      refine own_via (G := T32.setTop (mkF m 226 #[z0, z1, z2, z3, .val (.int sj), .val (.int pj), .val (.int oj), .val (.ref oO), .val (.ref oA), .val (.int (((own_fx sj) + (own_fx pj)) + (own_fx oj)))] [(.int v2)])) (fun t k => X32.iaload hx (j := (2 : Int32)) (v := (.int v2)) (by rw [eh32]; exact Ar42.1) (State.isArrayOf_alike hZ.alike Ar42.2.1) Ar42.2.2 in42 hat42 (g := (mkF m 225 #[z0, z1, z2, z3, .val (.int sj), .val (.int pj), .val (.int oj), .val (.ref oO), .val (.ref oA), .val (.int (((own_fx sj) + (own_fx pj)) + (own_fx oj)))] [(.int (2 : Int32)), (.ref oA)])) rfl rfl (hb hby at_225) t k) ?_
      refine own_via (G := T32.setTop (mkF m 228 #[z0, z1, z2, z3, .val (.int sj), .val (.int pj), .val (.int oj), .val (.ref oO), .val (.ref oA), .val (.int (((own_fx sj) + (own_fx pj)) + (own_fx oj)))] [(.int sj), (.int v2)])) (fun t k => XS.iload X32.here hx rfl (hb hby at_226) rfl k) ?_
      refine own_via (G := T32.setTop (mkF m 230 #[z0, z1, z2, z3, .val (.int sj), .val (.int pj), .val (.int oj), .val (.ref oO), .val (.ref oA), .val (.int (((own_fx sj) + (own_fx pj)) + (own_fx oj)))] [(.int pj), (.int sj), (.int v2)])) (fun t k => XS.iload X32.here hx rfl (hb hby at_228) rfl k) ?_
      refine own_via (G := T32.setTop (mkF m 232 #[z0, z1, z2, z3, .val (.int sj), .val (.int pj), .val (.int oj), .val (.ref oO), .val (.ref oA), .val (.int (((own_fx sj) + (own_fx pj)) + (own_fx oj)))] [(.int oj), (.int pj), (.int sj), (.int v2)])) (fun t k => XS.iload X32.here hx rfl (hb hby at_230) rfl k) ?_
      obtain ⟨_, _, ⟨T43, L43, k43, n43⟩, -, X43, ⟨Lc43, hQ43, l43, y43, z43⟩, st43⟩ := Jvm.LawKit.callS X32 hx (y := (⟨"com/example/triplewright/triplewright/store/OrderCoveringPinLaw", "pick", "(IIII)I"⟩ : MethodName)) hown (mvT hZ (hw _ (List.mem_of_getElem? (i := 15) rfl))) (mvT hZ (hw _ (List.mem_of_getElem? (i := 16) rfl))) (mvT hZ (hw _ (List.mem_of_getElem? (i := 10) rfl))) (mvT hZ (hw _ (List.mem_of_getElem? (i := 17) rfl))) (by decide) (backOf (W := 0) (rm4 l Z a0 hw [] v2 sj pj oj h0 n0 Z0) hZ (hw _ (List.mem_of_getElem? (i := 17) rfl)) (hw _ (List.mem_of_getElem? (i := 10) rfl)) (by decide) (by decide)) (g := (mkF m 232 #[z0, z1, z2, z3, .val (.int sj), .val (.int pj), .val (.int oj), .val (.ref oO), .val (.ref oA), .val (.int (((own_fx sj) + (own_fx pj)) + (own_fx oj)))] [(.int oj), (.int pj), (.int sj), (.int v2)])) rfl (by rw [hml]; rfl) (argsL := [(.int v2), (.int sj), (.int pj), (.int oj)]) (rest := []) (lenOf pd_2 rfl) rfl (by show 2 * 0 + _ ≤ _; exact Nat.le_of_eq rfl) (hb hby at_232) (fun _ _ => ⟨rfl, eh32, (by decide : ((((((((((0 + 0) + 0) + 0) + 0) + 0) + 0) + 0) + 0) + 0) + 0) + 0 ≤ _), (by decide : ((((((((((0 + 0) + 0) + 0) + 0) + 0) + 0) + 0) + 0) + 0) + 0) + 0 ≤ _)⟩)
      dsimp only [Pt.U, Pt.locs, Pt.cells, Pt.slots] at X43 l43 y43 z43 st43 hQ43
      subst l43 y43 z43
      obtain ⟨rfl, Nq43, eh43⟩ := hQ43
      have N43 := Fr.app N32 Nq43
      refine own_via (G := T43.setTop (mkF m 235 #[z0, z1, z2, z3, .val (.int sj), .val (.int pj), .val (.int oj), .val (.ref oO), .val (.ref oA), .val (.int (((own_fx sj) + (own_fx pj)) + (own_fx oj)))] [(.int (own_pk v2 sj pj oj))])) (fun t k => st43 t k) ?_
      obtain ⟨_, _, ⟨T44, L44, k44, n44⟩, -, X44, ⟨Lc44, hQ44, l44, y44, z44⟩, st44⟩ := Jvm.LawKit.callS X43 hx (y := (⟨"com/example/triplewright/triplewright/store/OrderCoveringPinLaw", "fixed", "(I)I"⟩ : MethodName)) hown (mvT hZ (hw _ (List.mem_of_getElem? (i := 12) rfl))) (mvT hZ (hw _ (List.mem_of_getElem? (i := 13) rfl))) (mvT hZ (hw _ (List.mem_of_getElem? (i := 10) rfl))) (mvT hZ (hw _ (List.mem_of_getElem? (i := 14) rfl))) (by decide) (backOf (W := 0) (rm3 l Z a0 hw [] (own_pk v2 sj pj oj) h0 n0 Z0) hZ (hw _ (List.mem_of_getElem? (i := 14) rfl)) (hw _ (List.mem_of_getElem? (i := 10) rfl)) (by decide) (by decide)) (g := (mkF m 235 #[z0, z1, z2, z3, .val (.int sj), .val (.int pj), .val (.int oj), .val (.ref oO), .val (.ref oA), .val (.int (((own_fx sj) + (own_fx pj)) + (own_fx oj)))] [(.int (own_pk v2 sj pj oj))])) rfl (by rw [hml]; rfl) (argsL := [(.int (own_pk v2 sj pj oj))]) (rest := []) (lenOf pd_1 rfl) rfl (by show 2 * 0 + _ ≤ _; exact Nat.le_of_eq rfl) (hb hby at_235) (fun _ _ => ⟨rfl, eh43, (by decide : (((((((((((0 + 0) + 0) + 0) + 0) + 0) + 0) + 0) + 0) + 0) + 0) + 0) + 0 ≤ _), (by decide : (((((((((((0 + 0) + 0) + 0) + 0) + 0) + 0) + 0) + 0) + 0) + 0) + 0) + 0 ≤ _)⟩)
      dsimp only [Pt.U, Pt.locs, Pt.cells, Pt.slots] at X44 l44 y44 z44 st44 hQ44
      subst l44 y44 z44
      obtain ⟨rfl, Nq44, eh44⟩ := hQ44
      have N44 := Fr.app N43 Nq44
      refine own_via (G := T44.setTop (mkF m 238 #[z0, z1, z2, z3, .val (.int sj), .val (.int pj), .val (.int oj), .val (.ref oO), .val (.ref oA), .val (.int (((own_fx sj) + (own_fx pj)) + (own_fx oj)))] [(.int (own_fx (own_pk v2 sj pj oj)))])) (fun t k => st44 t k) ?_
      refine own_via (G := T44.setTop (mkF m 239 #[z0, z1, z2, z3, .val (.int sj), .val (.int pj), .val (.int oj), .val (.ref oO), .val (.ref oA), .val (.int (((own_fx sj) + (own_fx pj)) + (own_fx oj)))] [(.int (2 : Int32)), (.int (own_fx (own_pk v2 sj pj oj)))])) (fun t k => XS.iconst X44.here hx rfl (hb hby at_238) k) ?_
      refine own_via (G := T44.setTop (mkF m 241 #[z0, z1, z2, z3, .val (.int sj), .val (.int pj), .val (.int oj), .val (.ref oO), .val (.ref oA), .val (.int (((own_fx sj) + (own_fx pj)) + (own_fx oj)))] [(.int (((own_fx sj) + (own_fx pj)) + (own_fx oj))), (.int (2 : Int32)), (.int (own_fx (own_pk v2 sj pj oj)))])) (fun t k => XS.iload X44.here hx rfl (hb hby at_239) rfl k) ?_
      by_cases hc45_241 : (2 : Int32) < (((own_fx sj) + (own_fx pj)) + (own_fx oj))
      · refine own_via (G := T44.setTop (mkF m 244 #[z0, z1, z2, z3, .val (.int sj), .val (.int pj), .val (.int oj), .val (.ref oO), .val (.ref oA), .val (.int (((own_fx sj) + (own_fx pj)) + (own_fx oj)))] [(.int (own_fx (own_pk v2 sj pj oj)))])) (fun t k => XS.icmpNo X44.here hx rfl (hb hby at_241) rfl (XT.ii_ge_f hc45_241) k) ?_
        refine own_via (G := T44.setTop (mkF m 245 #[z0, z1, z2, z3, .val (.int sj), .val (.int pj), .val (.int oj), .val (.ref oO), .val (.ref oA), .val (.int (((own_fx sj) + (own_fx pj)) + (own_fx oj)))] [(.int (1 : Int32)), (.int (own_fx (own_pk v2 sj pj oj)))])) (fun t k => XS.iconst X44.here hx rfl (hb hby at_244) k) ?_
        refine own_via (G := T44.setTop (mkF m 249 #[z0, z1, z2, z3, .val (.int sj), .val (.int pj), .val (.int oj), .val (.ref oO), .val (.ref oA), .val (.int (((own_fx sj) + (own_fx pj)) + (own_fx oj)))] [(.int (1 : Int32)), (.int (own_fx (own_pk v2 sj pj oj)))])) (fun t k => XS.goto X44.here hx rfl (pc0 := 245) (pc' := 249) rfl (hb hby at_245) (by decide) (by decide) k) ?_
        have hc46_249 : (own_fx (own_pk v2 sj pj oj)) = (1 : Int32) := c2.trans (if_pos hc45_241)
        refine own_via (G := T44.setTop (mkF m 252 #[z0, z1, z2, z3, .val (.int sj), .val (.int pj), .val (.int oj), .val (.ref oO), .val (.ref oA), .val (.int (((own_fx sj) + (own_fx pj)) + (own_fx oj)))] [])) (fun t k => XS.icmpNo X44.here hx rfl (hb hby at_249) rfl (XT.ii_ne_f hc46_249) k) ?_
        refine own_via (G := T44.setTop (mkF m 253 #[z0, z1, z2, z3, .val (.int sj), .val (.int pj), .val (.int oj), .val (.ref oO), .val (.ref oA), .val (.int (((own_fx sj) + (own_fx pj)) + (own_fx oj)))] [(.int (1 : Int32))])) (fun t k => XS.iconst X44.here hx rfl (hb hby at_252) k) ?_
        refine own_via (G := T44.setTop (mkF m 257 #[z0, z1, z2, z3, .val (.int sj), .val (.int pj), .val (.int oj), .val (.ref oO), .val (.ref oA), .val (.int (((own_fx sj) + (own_fx pj)) + (own_fx oj)))] [(.int (1 : Int32))])) (fun t k => XS.goto X44.here hx rfl (pc0 := 253) (pc' := 257) rfl (hb hby at_253) (by decide) (by decide) k) ?_
        exact own_fin X44 eh44 (v := some (.int (1 : Int32))) (fun h => by rw [hret] at h; cases h) hlk (fun fs hr => retN X44 hx (t := .boolean) hret (by simp) (hb hby at_257) hr) (show ((fun (v : Option Value) (h : Heap) (L : List Loc) => v = some (.int (1 : Int32)) ∧ Fr n0 L)) (some (.int (1 : Int32))) h0 _ from ⟨rfl, N44⟩) (by decide) (by decide)
      · refine own_via (G := T44.setTop (mkF m 248 #[z0, z1, z2, z3, .val (.int sj), .val (.int pj), .val (.int oj), .val (.ref oO), .val (.ref oA), .val (.int (((own_fx sj) + (own_fx pj)) + (own_fx oj)))] [(.int (own_fx (own_pk v2 sj pj oj)))])) (fun t k => XS.icmpYes X44.here hx rfl (pc0 := 241) (pc' := 248) rfl (hb hby at_241) rfl (XT.ii_ge_t hc45_241) (by decide) (by decide) k) ?_
        refine own_via (G := T44.setTop (mkF m 249 #[z0, z1, z2, z3, .val (.int sj), .val (.int pj), .val (.int oj), .val (.ref oO), .val (.ref oA), .val (.int (((own_fx sj) + (own_fx pj)) + (own_fx oj)))] [(.int (0 : Int32)), (.int (own_fx (own_pk v2 sj pj oj)))])) (fun t k => XS.iconst X44.here hx rfl (hb hby at_248) k) ?_
        have hc47_249 : (own_fx (own_pk v2 sj pj oj)) = (0 : Int32) := c2.trans (if_neg hc45_241)
        refine own_via (G := T44.setTop (mkF m 252 #[z0, z1, z2, z3, .val (.int sj), .val (.int pj), .val (.int oj), .val (.ref oO), .val (.ref oA), .val (.int (((own_fx sj) + (own_fx pj)) + (own_fx oj)))] [])) (fun t k => XS.icmpNo X44.here hx rfl (hb hby at_249) rfl (XT.ii_ne_f hc47_249) k) ?_
        refine own_via (G := T44.setTop (mkF m 253 #[z0, z1, z2, z3, .val (.int sj), .val (.int pj), .val (.int oj), .val (.ref oO), .val (.ref oA), .val (.int (((own_fx sj) + (own_fx pj)) + (own_fx oj)))] [(.int (1 : Int32))])) (fun t k => XS.iconst X44.here hx rfl (hb hby at_252) k) ?_
        refine own_via (G := T44.setTop (mkF m 257 #[z0, z1, z2, z3, .val (.int sj), .val (.int pj), .val (.int oj), .val (.ref oO), .val (.ref oA), .val (.int (((own_fx sj) + (own_fx pj)) + (own_fx oj)))] [(.int (1 : Int32))])) (fun t k => XS.goto X44.here hx rfl (pc0 := 253) (pc' := 257) rfl (hb hby at_253) (by decide) (by decide) k) ?_
        exact own_fin X44 eh44 (v := some (.int (1 : Int32))) (fun h => by rw [hret] at h; cases h) hlk (fun fs hr => retN X44 hx (t := .boolean) hret (by simp) (hb hby at_257) hr) (show ((fun (v : Option Value) (h : Heap) (L : List Loc) => v = some (.int (1 : Int32)) ∧ Fr n0 L)) (some (.int (1 : Int32))) h0 _ from ⟨rfl, N44⟩) (by decide) (by decide)
  · refine own_via (G := T27.setTop (mkF m 188 #[z0, z1, z2, z3, .val (.int sj), .val (.int pj), .val (.int oj), .val (.ref oO), .val (.ref oA), .val (.int (((own_fx sj) + (own_fx pj)) + (own_fx oj)))] [(.int (own_fx (own_pk v0 sj pj oj)))])) (fun t k => XS.icmpYes X27.here hx rfl (pc0 := 181) (pc' := 188) rfl (hb hby at_181) rfl (XT.ii_ge_t hc28_181) (by decide) (by decide) k) ?_
    refine own_via (G := T27.setTop (mkF m 189 #[z0, z1, z2, z3, .val (.int sj), .val (.int pj), .val (.int oj), .val (.ref oO), .val (.ref oA), .val (.int (((own_fx sj) + (own_fx pj)) + (own_fx oj)))] [(.int (0 : Int32)), (.int (own_fx (own_pk v0 sj pj oj)))])) (fun t k => XS.iconst X27.here hx rfl (hb hby at_188) k) ?_
    have hc48_189 : (own_fx (own_pk v0 sj pj oj)) = (0 : Int32) := c0.trans (if_neg hc28_181)
    refine own_via (G := T27.setTop (mkF m 192 #[z0, z1, z2, z3, .val (.int sj), .val (.int pj), .val (.int oj), .val (.ref oO), .val (.ref oA), .val (.int (((own_fx sj) + (own_fx pj)) + (own_fx oj)))] [])) (fun t k => XS.icmpNo X27.here hx rfl (hb hby at_189) rfl (XT.ii_ne_f hc48_189) k) ?_
    refine own_via (G := T27.setTop (mkF m 194 #[z0, z1, z2, z3, .val (.int sj), .val (.int pj), .val (.int oj), .val (.ref oO), .val (.ref oA), .val (.int (((own_fx sj) + (own_fx pj)) + (own_fx oj)))] [(.ref oA)])) (fun t k => XS.aload X27.here hx rfl (hb hby at_192) rfl rfl k) ?_
    refine own_via (G := T27.setTop (mkF m 195 #[z0, z1, z2, z3, .val (.int sj), .val (.int pj), .val (.int oj), .val (.ref oO), .val (.ref oA), .val (.int (((own_fx sj) + (own_fx pj)) + (own_fx oj)))] [(.int (1 : Int32)), (.ref oA)])) (fun t k => XS.iconst X27.here hx rfl (hb hby at_194) k) ?_
    obtain ⟨cl49, Ar49, q49, S49, NN49, H49, G49⟩ := id VA
    have in49 := inb_of (j := (1 : Int32)) S49 ⟨by decide, by decide⟩
    have hat49 : cl49.slots[((1 : Int32)).toNatClampNeg]? = some (.int v1) := H49.at in49 rfl
    refine own_via (G := T27.setTop (mkF m 196 #[z0, z1, z2, z3, .val (.int sj), .val (.int pj), .val (.int oj), .val (.ref oO), .val (.ref oA), .val (.int (((own_fx sj) + (own_fx pj)) + (own_fx oj)))] [(.int v1)])) (fun t k => X27.iaload hx (j := (1 : Int32)) (v := (.int v1)) (by rw [eh27]; exact Ar49.1) (State.isArrayOf_alike hZ.alike Ar49.2.1) Ar49.2.2 in49 hat49 (g := (mkF m 195 #[z0, z1, z2, z3, .val (.int sj), .val (.int pj), .val (.int oj), .val (.ref oO), .val (.ref oA), .val (.int (((own_fx sj) + (own_fx pj)) + (own_fx oj)))] [(.int (1 : Int32)), (.ref oA)])) rfl rfl (hb hby at_195) t k) ?_
    refine own_via (G := T27.setTop (mkF m 198 #[z0, z1, z2, z3, .val (.int sj), .val (.int pj), .val (.int oj), .val (.ref oO), .val (.ref oA), .val (.int (((own_fx sj) + (own_fx pj)) + (own_fx oj)))] [(.int sj), (.int v1)])) (fun t k => XS.iload X27.here hx rfl (hb hby at_196) rfl k) ?_
    refine own_via (G := T27.setTop (mkF m 200 #[z0, z1, z2, z3, .val (.int sj), .val (.int pj), .val (.int oj), .val (.ref oO), .val (.ref oA), .val (.int (((own_fx sj) + (own_fx pj)) + (own_fx oj)))] [(.int pj), (.int sj), (.int v1)])) (fun t k => XS.iload X27.here hx rfl (hb hby at_198) rfl k) ?_
    refine own_via (G := T27.setTop (mkF m 202 #[z0, z1, z2, z3, .val (.int sj), .val (.int pj), .val (.int oj), .val (.ref oO), .val (.ref oA), .val (.int (((own_fx sj) + (own_fx pj)) + (own_fx oj)))] [(.int oj), (.int pj), (.int sj), (.int v1)])) (fun t k => XS.iload X27.here hx rfl (hb hby at_200) rfl k) ?_
    obtain ⟨_, _, ⟨T50, L50, k50, n50⟩, -, X50, ⟨Lc50, hQ50, l50, y50, z50⟩, st50⟩ := Jvm.LawKit.callS X27 hx (y := (⟨"com/example/triplewright/triplewright/store/OrderCoveringPinLaw", "pick", "(IIII)I"⟩ : MethodName)) hown (mvT hZ (hw _ (List.mem_of_getElem? (i := 15) rfl))) (mvT hZ (hw _ (List.mem_of_getElem? (i := 16) rfl))) (mvT hZ (hw _ (List.mem_of_getElem? (i := 10) rfl))) (mvT hZ (hw _ (List.mem_of_getElem? (i := 17) rfl))) (by decide) (backOf (W := 0) (rm4 l Z a0 hw [] v1 sj pj oj h0 n0 Z0) hZ (hw _ (List.mem_of_getElem? (i := 17) rfl)) (hw _ (List.mem_of_getElem? (i := 10) rfl)) (by decide) (by decide)) (g := (mkF m 202 #[z0, z1, z2, z3, .val (.int sj), .val (.int pj), .val (.int oj), .val (.ref oO), .val (.ref oA), .val (.int (((own_fx sj) + (own_fx pj)) + (own_fx oj)))] [(.int oj), (.int pj), (.int sj), (.int v1)])) rfl (by rw [hml]; rfl) (argsL := [(.int v1), (.int sj), (.int pj), (.int oj)]) (rest := []) (lenOf pd_2 rfl) rfl (by show 2 * 0 + _ ≤ _; exact Nat.le_of_eq rfl) (hb hby at_202) (fun _ _ => ⟨rfl, eh27, (by decide : ((((((((0 + 0) + 0) + 0) + 0) + 0) + 0) + 0) + 0) + 0 ≤ _), (by decide : ((((((((0 + 0) + 0) + 0) + 0) + 0) + 0) + 0) + 0) + 0 ≤ _)⟩)
    dsimp only [Pt.U, Pt.locs, Pt.cells, Pt.slots] at X50 l50 y50 z50 st50 hQ50
    subst l50 y50 z50
    obtain ⟨rfl, Nq50, eh50⟩ := hQ50
    have N50 := Fr.app N27 Nq50
    refine own_via (G := T50.setTop (mkF m 205 #[z0, z1, z2, z3, .val (.int sj), .val (.int pj), .val (.int oj), .val (.ref oO), .val (.ref oA), .val (.int (((own_fx sj) + (own_fx pj)) + (own_fx oj)))] [(.int (own_pk v1 sj pj oj))])) (fun t k => st50 t k) ?_
    obtain ⟨_, _, ⟨T51, L51, k51, n51⟩, -, X51, ⟨Lc51, hQ51, l51, y51, z51⟩, st51⟩ := Jvm.LawKit.callS X50 hx (y := (⟨"com/example/triplewright/triplewright/store/OrderCoveringPinLaw", "fixed", "(I)I"⟩ : MethodName)) hown (mvT hZ (hw _ (List.mem_of_getElem? (i := 12) rfl))) (mvT hZ (hw _ (List.mem_of_getElem? (i := 13) rfl))) (mvT hZ (hw _ (List.mem_of_getElem? (i := 10) rfl))) (mvT hZ (hw _ (List.mem_of_getElem? (i := 14) rfl))) (by decide) (backOf (W := 0) (rm3 l Z a0 hw [] (own_pk v1 sj pj oj) h0 n0 Z0) hZ (hw _ (List.mem_of_getElem? (i := 14) rfl)) (hw _ (List.mem_of_getElem? (i := 10) rfl)) (by decide) (by decide)) (g := (mkF m 205 #[z0, z1, z2, z3, .val (.int sj), .val (.int pj), .val (.int oj), .val (.ref oO), .val (.ref oA), .val (.int (((own_fx sj) + (own_fx pj)) + (own_fx oj)))] [(.int (own_pk v1 sj pj oj))])) rfl (by rw [hml]; rfl) (argsL := [(.int (own_pk v1 sj pj oj))]) (rest := []) (lenOf pd_1 rfl) rfl (by show 2 * 0 + _ ≤ _; exact Nat.le_of_eq rfl) (hb hby at_205) (fun _ _ => ⟨rfl, eh50, (by decide : (((((((((0 + 0) + 0) + 0) + 0) + 0) + 0) + 0) + 0) + 0) + 0 ≤ _), (by decide : (((((((((0 + 0) + 0) + 0) + 0) + 0) + 0) + 0) + 0) + 0) + 0 ≤ _)⟩)
    dsimp only [Pt.U, Pt.locs, Pt.cells, Pt.slots] at X51 l51 y51 z51 st51 hQ51
    subst l51 y51 z51
    obtain ⟨rfl, Nq51, eh51⟩ := hQ51
    have N51 := Fr.app N50 Nq51
    refine own_via (G := T51.setTop (mkF m 208 #[z0, z1, z2, z3, .val (.int sj), .val (.int pj), .val (.int oj), .val (.ref oO), .val (.ref oA), .val (.int (((own_fx sj) + (own_fx pj)) + (own_fx oj)))] [(.int (own_fx (own_pk v1 sj pj oj)))])) (fun t k => st51 t k) ?_
    refine own_via (G := T51.setTop (mkF m 209 #[z0, z1, z2, z3, .val (.int sj), .val (.int pj), .val (.int oj), .val (.ref oO), .val (.ref oA), .val (.int (((own_fx sj) + (own_fx pj)) + (own_fx oj)))] [(.int (1 : Int32)), (.int (own_fx (own_pk v1 sj pj oj)))])) (fun t k => XS.iconst X51.here hx rfl (hb hby at_208) k) ?_
    refine own_via (G := T51.setTop (mkF m 211 #[z0, z1, z2, z3, .val (.int sj), .val (.int pj), .val (.int oj), .val (.ref oO), .val (.ref oA), .val (.int (((own_fx sj) + (own_fx pj)) + (own_fx oj)))] [(.int (((own_fx sj) + (own_fx pj)) + (own_fx oj))), (.int (1 : Int32)), (.int (own_fx (own_pk v1 sj pj oj)))])) (fun t k => XS.iload X51.here hx rfl (hb hby at_209) rfl k) ?_
    by_cases hc52_211 : (1 : Int32) < (((own_fx sj) + (own_fx pj)) + (own_fx oj))
    · refine own_via (G := T51.setTop (mkF m 214 #[z0, z1, z2, z3, .val (.int sj), .val (.int pj), .val (.int oj), .val (.ref oO), .val (.ref oA), .val (.int (((own_fx sj) + (own_fx pj)) + (own_fx oj)))] [(.int (own_fx (own_pk v1 sj pj oj)))])) (fun t k => XS.icmpNo X51.here hx rfl (hb hby at_211) rfl (XT.ii_ge_f hc52_211) k) ?_
      refine own_via (G := T51.setTop (mkF m 215 #[z0, z1, z2, z3, .val (.int sj), .val (.int pj), .val (.int oj), .val (.ref oO), .val (.ref oA), .val (.int (((own_fx sj) + (own_fx pj)) + (own_fx oj)))] [(.int (1 : Int32)), (.int (own_fx (own_pk v1 sj pj oj)))])) (fun t k => XS.iconst X51.here hx rfl (hb hby at_214) k) ?_
      refine own_via (G := T51.setTop (mkF m 219 #[z0, z1, z2, z3, .val (.int sj), .val (.int pj), .val (.int oj), .val (.ref oO), .val (.ref oA), .val (.int (((own_fx sj) + (own_fx pj)) + (own_fx oj)))] [(.int (1 : Int32)), (.int (own_fx (own_pk v1 sj pj oj)))])) (fun t k => XS.goto X51.here hx rfl (pc0 := 215) (pc' := 219) rfl (hb hby at_215) (by decide) (by decide) k) ?_
      have hc53_219 : (own_fx (own_pk v1 sj pj oj)) = (1 : Int32) := c1.trans (if_pos hc52_211)
      refine own_via (G := T51.setTop (mkF m 222 #[z0, z1, z2, z3, .val (.int sj), .val (.int pj), .val (.int oj), .val (.ref oO), .val (.ref oA), .val (.int (((own_fx sj) + (own_fx pj)) + (own_fx oj)))] [])) (fun t k => XS.icmpNo X51.here hx rfl (hb hby at_219) rfl (XT.ii_ne_f hc53_219) k) ?_
      refine own_via (G := T51.setTop (mkF m 224 #[z0, z1, z2, z3, .val (.int sj), .val (.int pj), .val (.int oj), .val (.ref oO), .val (.ref oA), .val (.int (((own_fx sj) + (own_fx pj)) + (own_fx oj)))] [(.ref oA)])) (fun t k => XS.aload X51.here hx rfl (hb hby at_222) rfl rfl k) ?_
      refine own_via (G := T51.setTop (mkF m 225 #[z0, z1, z2, z3, .val (.int sj), .val (.int pj), .val (.int oj), .val (.ref oO), .val (.ref oA), .val (.int (((own_fx sj) + (own_fx pj)) + (own_fx oj)))] [(.int (2 : Int32)), (.ref oA)])) (fun t k => XS.iconst X51.here hx rfl (hb hby at_224) k) ?_
      obtain ⟨cl54, Ar54, q54, S54, NN54, H54, G54⟩ := id VA
      have in54 := inb_of (j := (2 : Int32)) S54 ⟨by decide, by decide⟩
      have hat54 : cl54.slots[((2 : Int32)).toNatClampNeg]? = some (.int v2) := H54.at in54 rfl
      refine own_via (G := T51.setTop (mkF m 226 #[z0, z1, z2, z3, .val (.int sj), .val (.int pj), .val (.int oj), .val (.ref oO), .val (.ref oA), .val (.int (((own_fx sj) + (own_fx pj)) + (own_fx oj)))] [(.int v2)])) (fun t k => X51.iaload hx (j := (2 : Int32)) (v := (.int v2)) (by rw [eh51]; exact Ar54.1) (State.isArrayOf_alike hZ.alike Ar54.2.1) Ar54.2.2 in54 hat54 (g := (mkF m 225 #[z0, z1, z2, z3, .val (.int sj), .val (.int pj), .val (.int oj), .val (.ref oO), .val (.ref oA), .val (.int (((own_fx sj) + (own_fx pj)) + (own_fx oj)))] [(.int (2 : Int32)), (.ref oA)])) rfl rfl (hb hby at_225) t k) ?_
      refine own_via (G := T51.setTop (mkF m 228 #[z0, z1, z2, z3, .val (.int sj), .val (.int pj), .val (.int oj), .val (.ref oO), .val (.ref oA), .val (.int (((own_fx sj) + (own_fx pj)) + (own_fx oj)))] [(.int sj), (.int v2)])) (fun t k => XS.iload X51.here hx rfl (hb hby at_226) rfl k) ?_
      refine own_via (G := T51.setTop (mkF m 230 #[z0, z1, z2, z3, .val (.int sj), .val (.int pj), .val (.int oj), .val (.ref oO), .val (.ref oA), .val (.int (((own_fx sj) + (own_fx pj)) + (own_fx oj)))] [(.int pj), (.int sj), (.int v2)])) (fun t k => XS.iload X51.here hx rfl (hb hby at_228) rfl k) ?_
      refine own_via (G := T51.setTop (mkF m 232 #[z0, z1, z2, z3, .val (.int sj), .val (.int pj), .val (.int oj), .val (.ref oO), .val (.ref oA), .val (.int (((own_fx sj) + (own_fx pj)) + (own_fx oj)))] [(.int oj), (.int pj), (.int sj), (.int v2)])) (fun t k => XS.iload X51.here hx rfl (hb hby at_230) rfl k) ?_
      obtain ⟨_, _, ⟨T55, L55, k55, n55⟩, -, X55, ⟨Lc55, hQ55, l55, y55, z55⟩, st55⟩ := Jvm.LawKit.callS X51 hx (y := (⟨"com/example/triplewright/triplewright/store/OrderCoveringPinLaw", "pick", "(IIII)I"⟩ : MethodName)) hown (mvT hZ (hw _ (List.mem_of_getElem? (i := 15) rfl))) (mvT hZ (hw _ (List.mem_of_getElem? (i := 16) rfl))) (mvT hZ (hw _ (List.mem_of_getElem? (i := 10) rfl))) (mvT hZ (hw _ (List.mem_of_getElem? (i := 17) rfl))) (by decide) (backOf (W := 0) (rm4 l Z a0 hw [] v2 sj pj oj h0 n0 Z0) hZ (hw _ (List.mem_of_getElem? (i := 17) rfl)) (hw _ (List.mem_of_getElem? (i := 10) rfl)) (by decide) (by decide)) (g := (mkF m 232 #[z0, z1, z2, z3, .val (.int sj), .val (.int pj), .val (.int oj), .val (.ref oO), .val (.ref oA), .val (.int (((own_fx sj) + (own_fx pj)) + (own_fx oj)))] [(.int oj), (.int pj), (.int sj), (.int v2)])) rfl (by rw [hml]; rfl) (argsL := [(.int v2), (.int sj), (.int pj), (.int oj)]) (rest := []) (lenOf pd_2 rfl) rfl (by show 2 * 0 + _ ≤ _; exact Nat.le_of_eq rfl) (hb hby at_232) (fun _ _ => ⟨rfl, eh51, (by decide : ((((((((((0 + 0) + 0) + 0) + 0) + 0) + 0) + 0) + 0) + 0) + 0) + 0 ≤ _), (by decide : ((((((((((0 + 0) + 0) + 0) + 0) + 0) + 0) + 0) + 0) + 0) + 0) + 0 ≤ _)⟩)
      dsimp only [Pt.U, Pt.locs, Pt.cells, Pt.slots] at X55 l55 y55 z55 st55 hQ55
      subst l55 y55 z55
      obtain ⟨rfl, Nq55, eh55⟩ := hQ55
      have N55 := Fr.app N51 Nq55
      refine own_via (G := T55.setTop (mkF m 235 #[z0, z1, z2, z3, .val (.int sj), .val (.int pj), .val (.int oj), .val (.ref oO), .val (.ref oA), .val (.int (((own_fx sj) + (own_fx pj)) + (own_fx oj)))] [(.int (own_pk v2 sj pj oj))])) (fun t k => st55 t k) ?_
      obtain ⟨_, _, ⟨T56, L56, k56, n56⟩, -, X56, ⟨Lc56, hQ56, l56, y56, z56⟩, st56⟩ := Jvm.LawKit.callS X55 hx (y := (⟨"com/example/triplewright/triplewright/store/OrderCoveringPinLaw", "fixed", "(I)I"⟩ : MethodName)) hown (mvT hZ (hw _ (List.mem_of_getElem? (i := 12) rfl))) (mvT hZ (hw _ (List.mem_of_getElem? (i := 13) rfl))) (mvT hZ (hw _ (List.mem_of_getElem? (i := 10) rfl))) (mvT hZ (hw _ (List.mem_of_getElem? (i := 14) rfl))) (by decide) (backOf (W := 0) (rm3 l Z a0 hw [] (own_pk v2 sj pj oj) h0 n0 Z0) hZ (hw _ (List.mem_of_getElem? (i := 14) rfl)) (hw _ (List.mem_of_getElem? (i := 10) rfl)) (by decide) (by decide)) (g := (mkF m 235 #[z0, z1, z2, z3, .val (.int sj), .val (.int pj), .val (.int oj), .val (.ref oO), .val (.ref oA), .val (.int (((own_fx sj) + (own_fx pj)) + (own_fx oj)))] [(.int (own_pk v2 sj pj oj))])) rfl (by rw [hml]; rfl) (argsL := [(.int (own_pk v2 sj pj oj))]) (rest := []) (lenOf pd_1 rfl) rfl (by show 2 * 0 + _ ≤ _; exact Nat.le_of_eq rfl) (hb hby at_235) (fun _ _ => ⟨rfl, eh55, (by decide : (((((((((((0 + 0) + 0) + 0) + 0) + 0) + 0) + 0) + 0) + 0) + 0) + 0) + 0 ≤ _), (by decide : (((((((((((0 + 0) + 0) + 0) + 0) + 0) + 0) + 0) + 0) + 0) + 0) + 0) + 0 ≤ _)⟩)
      dsimp only [Pt.U, Pt.locs, Pt.cells, Pt.slots] at X56 l56 y56 z56 st56 hQ56
      subst l56 y56 z56
      obtain ⟨rfl, Nq56, eh56⟩ := hQ56
      have N56 := Fr.app N55 Nq56
      refine own_via (G := T56.setTop (mkF m 238 #[z0, z1, z2, z3, .val (.int sj), .val (.int pj), .val (.int oj), .val (.ref oO), .val (.ref oA), .val (.int (((own_fx sj) + (own_fx pj)) + (own_fx oj)))] [(.int (own_fx (own_pk v2 sj pj oj)))])) (fun t k => st56 t k) ?_
      refine own_via (G := T56.setTop (mkF m 239 #[z0, z1, z2, z3, .val (.int sj), .val (.int pj), .val (.int oj), .val (.ref oO), .val (.ref oA), .val (.int (((own_fx sj) + (own_fx pj)) + (own_fx oj)))] [(.int (2 : Int32)), (.int (own_fx (own_pk v2 sj pj oj)))])) (fun t k => XS.iconst X56.here hx rfl (hb hby at_238) k) ?_
      refine own_via (G := T56.setTop (mkF m 241 #[z0, z1, z2, z3, .val (.int sj), .val (.int pj), .val (.int oj), .val (.ref oO), .val (.ref oA), .val (.int (((own_fx sj) + (own_fx pj)) + (own_fx oj)))] [(.int (((own_fx sj) + (own_fx pj)) + (own_fx oj))), (.int (2 : Int32)), (.int (own_fx (own_pk v2 sj pj oj)))])) (fun t k => XS.iload X56.here hx rfl (hb hby at_239) rfl k) ?_
      by_cases hc57_241 : (2 : Int32) < (((own_fx sj) + (own_fx pj)) + (own_fx oj))
      · refine own_via (G := T56.setTop (mkF m 244 #[z0, z1, z2, z3, .val (.int sj), .val (.int pj), .val (.int oj), .val (.ref oO), .val (.ref oA), .val (.int (((own_fx sj) + (own_fx pj)) + (own_fx oj)))] [(.int (own_fx (own_pk v2 sj pj oj)))])) (fun t k => XS.icmpNo X56.here hx rfl (hb hby at_241) rfl (XT.ii_ge_f hc57_241) k) ?_
        refine own_via (G := T56.setTop (mkF m 245 #[z0, z1, z2, z3, .val (.int sj), .val (.int pj), .val (.int oj), .val (.ref oO), .val (.ref oA), .val (.int (((own_fx sj) + (own_fx pj)) + (own_fx oj)))] [(.int (1 : Int32)), (.int (own_fx (own_pk v2 sj pj oj)))])) (fun t k => XS.iconst X56.here hx rfl (hb hby at_244) k) ?_
        refine own_via (G := T56.setTop (mkF m 249 #[z0, z1, z2, z3, .val (.int sj), .val (.int pj), .val (.int oj), .val (.ref oO), .val (.ref oA), .val (.int (((own_fx sj) + (own_fx pj)) + (own_fx oj)))] [(.int (1 : Int32)), (.int (own_fx (own_pk v2 sj pj oj)))])) (fun t k => XS.goto X56.here hx rfl (pc0 := 245) (pc' := 249) rfl (hb hby at_245) (by decide) (by decide) k) ?_
        have hc58_249 : (own_fx (own_pk v2 sj pj oj)) = (1 : Int32) := c2.trans (if_pos hc57_241)
        refine own_via (G := T56.setTop (mkF m 252 #[z0, z1, z2, z3, .val (.int sj), .val (.int pj), .val (.int oj), .val (.ref oO), .val (.ref oA), .val (.int (((own_fx sj) + (own_fx pj)) + (own_fx oj)))] [])) (fun t k => XS.icmpNo X56.here hx rfl (hb hby at_249) rfl (XT.ii_ne_f hc58_249) k) ?_
        refine own_via (G := T56.setTop (mkF m 253 #[z0, z1, z2, z3, .val (.int sj), .val (.int pj), .val (.int oj), .val (.ref oO), .val (.ref oA), .val (.int (((own_fx sj) + (own_fx pj)) + (own_fx oj)))] [(.int (1 : Int32))])) (fun t k => XS.iconst X56.here hx rfl (hb hby at_252) k) ?_
        refine own_via (G := T56.setTop (mkF m 257 #[z0, z1, z2, z3, .val (.int sj), .val (.int pj), .val (.int oj), .val (.ref oO), .val (.ref oA), .val (.int (((own_fx sj) + (own_fx pj)) + (own_fx oj)))] [(.int (1 : Int32))])) (fun t k => XS.goto X56.here hx rfl (pc0 := 253) (pc' := 257) rfl (hb hby at_253) (by decide) (by decide) k) ?_
        exact own_fin X56 eh56 (v := some (.int (1 : Int32))) (fun h => by rw [hret] at h; cases h) hlk (fun fs hr => retN X56 hx (t := .boolean) hret (by simp) (hb hby at_257) hr) (show ((fun (v : Option Value) (h : Heap) (L : List Loc) => v = some (.int (1 : Int32)) ∧ Fr n0 L)) (some (.int (1 : Int32))) h0 _ from ⟨rfl, N56⟩) (by decide) (by decide)
      · refine own_via (G := T56.setTop (mkF m 248 #[z0, z1, z2, z3, .val (.int sj), .val (.int pj), .val (.int oj), .val (.ref oO), .val (.ref oA), .val (.int (((own_fx sj) + (own_fx pj)) + (own_fx oj)))] [(.int (own_fx (own_pk v2 sj pj oj)))])) (fun t k => XS.icmpYes X56.here hx rfl (pc0 := 241) (pc' := 248) rfl (hb hby at_241) rfl (XT.ii_ge_t hc57_241) (by decide) (by decide) k) ?_
        refine own_via (G := T56.setTop (mkF m 249 #[z0, z1, z2, z3, .val (.int sj), .val (.int pj), .val (.int oj), .val (.ref oO), .val (.ref oA), .val (.int (((own_fx sj) + (own_fx pj)) + (own_fx oj)))] [(.int (0 : Int32)), (.int (own_fx (own_pk v2 sj pj oj)))])) (fun t k => XS.iconst X56.here hx rfl (hb hby at_248) k) ?_
        have hc59_249 : (own_fx (own_pk v2 sj pj oj)) = (0 : Int32) := c2.trans (if_neg hc57_241)
        refine own_via (G := T56.setTop (mkF m 252 #[z0, z1, z2, z3, .val (.int sj), .val (.int pj), .val (.int oj), .val (.ref oO), .val (.ref oA), .val (.int (((own_fx sj) + (own_fx pj)) + (own_fx oj)))] [])) (fun t k => XS.icmpNo X56.here hx rfl (hb hby at_249) rfl (XT.ii_ne_f hc59_249) k) ?_
        refine own_via (G := T56.setTop (mkF m 253 #[z0, z1, z2, z3, .val (.int sj), .val (.int pj), .val (.int oj), .val (.ref oO), .val (.ref oA), .val (.int (((own_fx sj) + (own_fx pj)) + (own_fx oj)))] [(.int (1 : Int32))])) (fun t k => XS.iconst X56.here hx rfl (hb hby at_252) k) ?_
        refine own_via (G := T56.setTop (mkF m 257 #[z0, z1, z2, z3, .val (.int sj), .val (.int pj), .val (.int oj), .val (.ref oO), .val (.ref oA), .val (.int (((own_fx sj) + (own_fx pj)) + (own_fx oj)))] [(.int (1 : Int32))])) (fun t k => XS.goto X56.here hx rfl (pc0 := 253) (pc' := 257) rfl (hb hby at_253) (by decide) (by decide) k) ?_
        exact own_fin X56 eh56 (v := some (.int (1 : Int32))) (fun h => by rw [hret] at h; cases h) hlk (fun fs hr => retN X56 hx (t := .boolean) hret (by simp) (hb hby at_257) hr) (show ((fun (v : Option Value) (h : Heap) (L : List Loc) => v = some (.int (1 : Int32)) ∧ Fr n0 L)) (some (.int (1 : Int32))) h0 _ from ⟨rfl, N56⟩) (by decide) (by decide)
    · refine own_via (G := T51.setTop (mkF m 218 #[z0, z1, z2, z3, .val (.int sj), .val (.int pj), .val (.int oj), .val (.ref oO), .val (.ref oA), .val (.int (((own_fx sj) + (own_fx pj)) + (own_fx oj)))] [(.int (own_fx (own_pk v1 sj pj oj)))])) (fun t k => XS.icmpYes X51.here hx rfl (pc0 := 211) (pc' := 218) rfl (hb hby at_211) rfl (XT.ii_ge_t hc52_211) (by decide) (by decide) k) ?_
      refine own_via (G := T51.setTop (mkF m 219 #[z0, z1, z2, z3, .val (.int sj), .val (.int pj), .val (.int oj), .val (.ref oO), .val (.ref oA), .val (.int (((own_fx sj) + (own_fx pj)) + (own_fx oj)))] [(.int (0 : Int32)), (.int (own_fx (own_pk v1 sj pj oj)))])) (fun t k => XS.iconst X51.here hx rfl (hb hby at_218) k) ?_
      have hc60_219 : (own_fx (own_pk v1 sj pj oj)) = (0 : Int32) := c1.trans (if_neg hc52_211)
      refine own_via (G := T51.setTop (mkF m 222 #[z0, z1, z2, z3, .val (.int sj), .val (.int pj), .val (.int oj), .val (.ref oO), .val (.ref oA), .val (.int (((own_fx sj) + (own_fx pj)) + (own_fx oj)))] [])) (fun t k => XS.icmpNo X51.here hx rfl (hb hby at_219) rfl (XT.ii_ne_f hc60_219) k) ?_
      refine own_via (G := T51.setTop (mkF m 224 #[z0, z1, z2, z3, .val (.int sj), .val (.int pj), .val (.int oj), .val (.ref oO), .val (.ref oA), .val (.int (((own_fx sj) + (own_fx pj)) + (own_fx oj)))] [(.ref oA)])) (fun t k => XS.aload X51.here hx rfl (hb hby at_222) rfl rfl k) ?_
      refine own_via (G := T51.setTop (mkF m 225 #[z0, z1, z2, z3, .val (.int sj), .val (.int pj), .val (.int oj), .val (.ref oO), .val (.ref oA), .val (.int (((own_fx sj) + (own_fx pj)) + (own_fx oj)))] [(.int (2 : Int32)), (.ref oA)])) (fun t k => XS.iconst X51.here hx rfl (hb hby at_224) k) ?_
      obtain ⟨cl61, Ar61, q61, S61, NN61, H61, G61⟩ := id VA
      have in61 := inb_of (j := (2 : Int32)) S61 ⟨by decide, by decide⟩
      have hat61 : cl61.slots[((2 : Int32)).toNatClampNeg]? = some (.int v2) := H61.at in61 rfl
      refine own_via (G := T51.setTop (mkF m 226 #[z0, z1, z2, z3, .val (.int sj), .val (.int pj), .val (.int oj), .val (.ref oO), .val (.ref oA), .val (.int (((own_fx sj) + (own_fx pj)) + (own_fx oj)))] [(.int v2)])) (fun t k => X51.iaload hx (j := (2 : Int32)) (v := (.int v2)) (by rw [eh51]; exact Ar61.1) (State.isArrayOf_alike hZ.alike Ar61.2.1) Ar61.2.2 in61 hat61 (g := (mkF m 225 #[z0, z1, z2, z3, .val (.int sj), .val (.int pj), .val (.int oj), .val (.ref oO), .val (.ref oA), .val (.int (((own_fx sj) + (own_fx pj)) + (own_fx oj)))] [(.int (2 : Int32)), (.ref oA)])) rfl rfl (hb hby at_225) t k) ?_
      refine own_via (G := T51.setTop (mkF m 228 #[z0, z1, z2, z3, .val (.int sj), .val (.int pj), .val (.int oj), .val (.ref oO), .val (.ref oA), .val (.int (((own_fx sj) + (own_fx pj)) + (own_fx oj)))] [(.int sj), (.int v2)])) (fun t k => XS.iload X51.here hx rfl (hb hby at_226) rfl k) ?_
      refine own_via (G := T51.setTop (mkF m 230 #[z0, z1, z2, z3, .val (.int sj), .val (.int pj), .val (.int oj), .val (.ref oO), .val (.ref oA), .val (.int (((own_fx sj) + (own_fx pj)) + (own_fx oj)))] [(.int pj), (.int sj), (.int v2)])) (fun t k => XS.iload X51.here hx rfl (hb hby at_228) rfl k) ?_
      refine own_via (G := T51.setTop (mkF m 232 #[z0, z1, z2, z3, .val (.int sj), .val (.int pj), .val (.int oj), .val (.ref oO), .val (.ref oA), .val (.int (((own_fx sj) + (own_fx pj)) + (own_fx oj)))] [(.int oj), (.int pj), (.int sj), (.int v2)])) (fun t k => XS.iload X51.here hx rfl (hb hby at_230) rfl k) ?_
      obtain ⟨_, _, ⟨T62, L62, k62, n62⟩, -, X62, ⟨Lc62, hQ62, l62, y62, z62⟩, st62⟩ := Jvm.LawKit.callS X51 hx (y := (⟨"com/example/triplewright/triplewright/store/OrderCoveringPinLaw", "pick", "(IIII)I"⟩ : MethodName)) hown (mvT hZ (hw _ (List.mem_of_getElem? (i := 15) rfl))) (mvT hZ (hw _ (List.mem_of_getElem? (i := 16) rfl))) (mvT hZ (hw _ (List.mem_of_getElem? (i := 10) rfl))) (mvT hZ (hw _ (List.mem_of_getElem? (i := 17) rfl))) (by decide) (backOf (W := 0) (rm4 l Z a0 hw [] v2 sj pj oj h0 n0 Z0) hZ (hw _ (List.mem_of_getElem? (i := 17) rfl)) (hw _ (List.mem_of_getElem? (i := 10) rfl)) (by decide) (by decide)) (g := (mkF m 232 #[z0, z1, z2, z3, .val (.int sj), .val (.int pj), .val (.int oj), .val (.ref oO), .val (.ref oA), .val (.int (((own_fx sj) + (own_fx pj)) + (own_fx oj)))] [(.int oj), (.int pj), (.int sj), (.int v2)])) rfl (by rw [hml]; rfl) (argsL := [(.int v2), (.int sj), (.int pj), (.int oj)]) (rest := []) (lenOf pd_2 rfl) rfl (by show 2 * 0 + _ ≤ _; exact Nat.le_of_eq rfl) (hb hby at_232) (fun _ _ => ⟨rfl, eh51, (by decide : ((((((((((0 + 0) + 0) + 0) + 0) + 0) + 0) + 0) + 0) + 0) + 0) + 0 ≤ _), (by decide : ((((((((((0 + 0) + 0) + 0) + 0) + 0) + 0) + 0) + 0) + 0) + 0) + 0 ≤ _)⟩)
      dsimp only [Pt.U, Pt.locs, Pt.cells, Pt.slots] at X62 l62 y62 z62 st62 hQ62
      subst l62 y62 z62
      obtain ⟨rfl, Nq62, eh62⟩ := hQ62
      have N62 := Fr.app N51 Nq62
      refine own_via (G := T62.setTop (mkF m 235 #[z0, z1, z2, z3, .val (.int sj), .val (.int pj), .val (.int oj), .val (.ref oO), .val (.ref oA), .val (.int (((own_fx sj) + (own_fx pj)) + (own_fx oj)))] [(.int (own_pk v2 sj pj oj))])) (fun t k => st62 t k) ?_
      obtain ⟨_, _, ⟨T63, L63, k63, n63⟩, -, X63, ⟨Lc63, hQ63, l63, y63, z63⟩, st63⟩ := Jvm.LawKit.callS X62 hx (y := (⟨"com/example/triplewright/triplewright/store/OrderCoveringPinLaw", "fixed", "(I)I"⟩ : MethodName)) hown (mvT hZ (hw _ (List.mem_of_getElem? (i := 12) rfl))) (mvT hZ (hw _ (List.mem_of_getElem? (i := 13) rfl))) (mvT hZ (hw _ (List.mem_of_getElem? (i := 10) rfl))) (mvT hZ (hw _ (List.mem_of_getElem? (i := 14) rfl))) (by decide) (backOf (W := 0) (rm3 l Z a0 hw [] (own_pk v2 sj pj oj) h0 n0 Z0) hZ (hw _ (List.mem_of_getElem? (i := 14) rfl)) (hw _ (List.mem_of_getElem? (i := 10) rfl)) (by decide) (by decide)) (g := (mkF m 235 #[z0, z1, z2, z3, .val (.int sj), .val (.int pj), .val (.int oj), .val (.ref oO), .val (.ref oA), .val (.int (((own_fx sj) + (own_fx pj)) + (own_fx oj)))] [(.int (own_pk v2 sj pj oj))])) rfl (by rw [hml]; rfl) (argsL := [(.int (own_pk v2 sj pj oj))]) (rest := []) (lenOf pd_1 rfl) rfl (by show 2 * 0 + _ ≤ _; exact Nat.le_of_eq rfl) (hb hby at_235) (fun _ _ => ⟨rfl, eh62, (by decide : (((((((((((0 + 0) + 0) + 0) + 0) + 0) + 0) + 0) + 0) + 0) + 0) + 0) + 0 ≤ _), (by decide : (((((((((((0 + 0) + 0) + 0) + 0) + 0) + 0) + 0) + 0) + 0) + 0) + 0) + 0 ≤ _)⟩)
      dsimp only [Pt.U, Pt.locs, Pt.cells, Pt.slots] at X63 l63 y63 z63 st63 hQ63
      subst l63 y63 z63
      obtain ⟨rfl, Nq63, eh63⟩ := hQ63
      have N63 := Fr.app N62 Nq63
      refine own_via (G := T63.setTop (mkF m 238 #[z0, z1, z2, z3, .val (.int sj), .val (.int pj), .val (.int oj), .val (.ref oO), .val (.ref oA), .val (.int (((own_fx sj) + (own_fx pj)) + (own_fx oj)))] [(.int (own_fx (own_pk v2 sj pj oj)))])) (fun t k => st63 t k) ?_
      refine own_via (G := T63.setTop (mkF m 239 #[z0, z1, z2, z3, .val (.int sj), .val (.int pj), .val (.int oj), .val (.ref oO), .val (.ref oA), .val (.int (((own_fx sj) + (own_fx pj)) + (own_fx oj)))] [(.int (2 : Int32)), (.int (own_fx (own_pk v2 sj pj oj)))])) (fun t k => XS.iconst X63.here hx rfl (hb hby at_238) k) ?_
      refine own_via (G := T63.setTop (mkF m 241 #[z0, z1, z2, z3, .val (.int sj), .val (.int pj), .val (.int oj), .val (.ref oO), .val (.ref oA), .val (.int (((own_fx sj) + (own_fx pj)) + (own_fx oj)))] [(.int (((own_fx sj) + (own_fx pj)) + (own_fx oj))), (.int (2 : Int32)), (.int (own_fx (own_pk v2 sj pj oj)))])) (fun t k => XS.iload X63.here hx rfl (hb hby at_239) rfl k) ?_
      by_cases hc64_241 : (2 : Int32) < (((own_fx sj) + (own_fx pj)) + (own_fx oj))
      · refine own_via (G := T63.setTop (mkF m 244 #[z0, z1, z2, z3, .val (.int sj), .val (.int pj), .val (.int oj), .val (.ref oO), .val (.ref oA), .val (.int (((own_fx sj) + (own_fx pj)) + (own_fx oj)))] [(.int (own_fx (own_pk v2 sj pj oj)))])) (fun t k => XS.icmpNo X63.here hx rfl (hb hby at_241) rfl (XT.ii_ge_f hc64_241) k) ?_
        refine own_via (G := T63.setTop (mkF m 245 #[z0, z1, z2, z3, .val (.int sj), .val (.int pj), .val (.int oj), .val (.ref oO), .val (.ref oA), .val (.int (((own_fx sj) + (own_fx pj)) + (own_fx oj)))] [(.int (1 : Int32)), (.int (own_fx (own_pk v2 sj pj oj)))])) (fun t k => XS.iconst X63.here hx rfl (hb hby at_244) k) ?_
        refine own_via (G := T63.setTop (mkF m 249 #[z0, z1, z2, z3, .val (.int sj), .val (.int pj), .val (.int oj), .val (.ref oO), .val (.ref oA), .val (.int (((own_fx sj) + (own_fx pj)) + (own_fx oj)))] [(.int (1 : Int32)), (.int (own_fx (own_pk v2 sj pj oj)))])) (fun t k => XS.goto X63.here hx rfl (pc0 := 245) (pc' := 249) rfl (hb hby at_245) (by decide) (by decide) k) ?_
        have hc65_249 : (own_fx (own_pk v2 sj pj oj)) = (1 : Int32) := c2.trans (if_pos hc64_241)
        refine own_via (G := T63.setTop (mkF m 252 #[z0, z1, z2, z3, .val (.int sj), .val (.int pj), .val (.int oj), .val (.ref oO), .val (.ref oA), .val (.int (((own_fx sj) + (own_fx pj)) + (own_fx oj)))] [])) (fun t k => XS.icmpNo X63.here hx rfl (hb hby at_249) rfl (XT.ii_ne_f hc65_249) k) ?_
        refine own_via (G := T63.setTop (mkF m 253 #[z0, z1, z2, z3, .val (.int sj), .val (.int pj), .val (.int oj), .val (.ref oO), .val (.ref oA), .val (.int (((own_fx sj) + (own_fx pj)) + (own_fx oj)))] [(.int (1 : Int32))])) (fun t k => XS.iconst X63.here hx rfl (hb hby at_252) k) ?_
        refine own_via (G := T63.setTop (mkF m 257 #[z0, z1, z2, z3, .val (.int sj), .val (.int pj), .val (.int oj), .val (.ref oO), .val (.ref oA), .val (.int (((own_fx sj) + (own_fx pj)) + (own_fx oj)))] [(.int (1 : Int32))])) (fun t k => XS.goto X63.here hx rfl (pc0 := 253) (pc' := 257) rfl (hb hby at_253) (by decide) (by decide) k) ?_
        exact own_fin X63 eh63 (v := some (.int (1 : Int32))) (fun h => by rw [hret] at h; cases h) hlk (fun fs hr => retN X63 hx (t := .boolean) hret (by simp) (hb hby at_257) hr) (show ((fun (v : Option Value) (h : Heap) (L : List Loc) => v = some (.int (1 : Int32)) ∧ Fr n0 L)) (some (.int (1 : Int32))) h0 _ from ⟨rfl, N63⟩) (by decide) (by decide)
      · refine own_via (G := T63.setTop (mkF m 248 #[z0, z1, z2, z3, .val (.int sj), .val (.int pj), .val (.int oj), .val (.ref oO), .val (.ref oA), .val (.int (((own_fx sj) + (own_fx pj)) + (own_fx oj)))] [(.int (own_fx (own_pk v2 sj pj oj)))])) (fun t k => XS.icmpYes X63.here hx rfl (pc0 := 241) (pc' := 248) rfl (hb hby at_241) rfl (XT.ii_ge_t hc64_241) (by decide) (by decide) k) ?_
        refine own_via (G := T63.setTop (mkF m 249 #[z0, z1, z2, z3, .val (.int sj), .val (.int pj), .val (.int oj), .val (.ref oO), .val (.ref oA), .val (.int (((own_fx sj) + (own_fx pj)) + (own_fx oj)))] [(.int (0 : Int32)), (.int (own_fx (own_pk v2 sj pj oj)))])) (fun t k => XS.iconst X63.here hx rfl (hb hby at_248) k) ?_
        have hc66_249 : (own_fx (own_pk v2 sj pj oj)) = (0 : Int32) := c2.trans (if_neg hc64_241)
        refine own_via (G := T63.setTop (mkF m 252 #[z0, z1, z2, z3, .val (.int sj), .val (.int pj), .val (.int oj), .val (.ref oO), .val (.ref oA), .val (.int (((own_fx sj) + (own_fx pj)) + (own_fx oj)))] [])) (fun t k => XS.icmpNo X63.here hx rfl (hb hby at_249) rfl (XT.ii_ne_f hc66_249) k) ?_
        refine own_via (G := T63.setTop (mkF m 253 #[z0, z1, z2, z3, .val (.int sj), .val (.int pj), .val (.int oj), .val (.ref oO), .val (.ref oA), .val (.int (((own_fx sj) + (own_fx pj)) + (own_fx oj)))] [(.int (1 : Int32))])) (fun t k => XS.iconst X63.here hx rfl (hb hby at_252) k) ?_
        refine own_via (G := T63.setTop (mkF m 257 #[z0, z1, z2, z3, .val (.int sj), .val (.int pj), .val (.int oj), .val (.ref oO), .val (.ref oA), .val (.int (((own_fx sj) + (own_fx pj)) + (own_fx oj)))] [(.int (1 : Int32))])) (fun t k => XS.goto X63.here hx rfl (pc0 := 253) (pc' := 257) rfl (hb hby at_253) (by decide) (by decide) k) ?_
        exact own_fin X63 eh63 (v := some (.int (1 : Int32))) (fun h => by rw [hret] at h; cases h) hlk (fun fs hr => retN X63 hx (t := .boolean) hret (by simp) (hb hby at_257) hr) (show ((fun (v : Option Value) (h : Heap) (L : List Loc) => v = some (.int (1 : Int32)) ∧ Fr n0 L)) (some (.int (1 : Int32))) h0 _ from ⟨rfl, N63⟩) (by decide) (by decide)
theorem pd_3 : parseMethodDescriptor "(III)Lcom/example/triplewright/triplewright/store/TripleStore$Order;" = some ⟨[.int, .int, .int], some (.object "com/example/triplewright/triplewright/store/TripleStore$Order")⟩ := by decide +kernel
set_option maxRecDepth 65536 in
set_option maxHeartbeats 40000000 in
theorem b0_39 {p : Program} {l : Launch} {e : Env} {s : State} {m : MethodId} {args : Array Value} {below : List Frame} {meth : Method} {c : Code} {T0 : State} {locs : List Loc} {Z : State} {a0 : Array Value} {h0 : Heap} {n0 : Nat} (z0 : Slot) (z1 : Slot) (z2 : Slot) (z3 : Slot) (sj : Int32) (pj : Int32) (oj : Int32) (aS : Addr) (aP : Addr) (aO : Addr) (rS : Addr) (rP : Addr) (rO : Addr) (kS : ClassId) (kP : ClassId) (kO : ClassId)
    (C : own_C p s m meth c Z a0 code maxLocals "com/example/triplewright/triplewright/store/OrderCoveringPinLaw" ret "law") (X0 : Stand p l e room_1 s m args below meth c T0 locs 0 0) (e0 : T0.heap = h0) (Z0 : n0 ≤ h0.size) (N0 : Fr n0 locs) (S_SPO : Sta Z h0 "com/example/triplewright/triplewright/store/TripleStore$Order" "SPO" "Lcom/example/triplewright/triplewright/store/TripleStore$Order;" (.ref aS)) (S_POS : Sta Z h0 "com/example/triplewright/triplewright/store/TripleStore$Order" "POS" "Lcom/example/triplewright/triplewright/store/TripleStore$Order;" (.ref aP)) (S_OSP : Sta Z h0 "com/example/triplewright/triplewright/store/TripleStore$Order" "OSP" "Lcom/example/triplewright/triplewright/store/TripleStore$Order;" (.ref aO)) (FP_SPO : Fld Z h0 aS "com/example/triplewright/triplewright/store/TripleStore$Order" "positions" "[I" (.ref rS)) (FP_POS : Fld Z h0 aP "com/example/triplewright/triplewright/store/TripleStore$Order" "positions" "[I" (.ref rP)) (FP_OSP : Fld Z h0 aO "com/example/triplewright/triplewright/store/TripleStore$Order" "positions" "[I" (.ref rO)) (VA_SPO : Arv Z h0 rS kS .int (3 : Int32) [(.int (0 : Int32)), (.int (1 : Int32)), (.int (2 : Int32))] (.int (0 : Int32))) (VA_POS : Arv Z h0 rP kP .int (3 : Int32) [(.int (1 : Int32)), (.int (2 : Int32)), (.int (0 : Int32))] (.int (0 : Int32))) (VA_OSP : Arv Z h0 rO kO .int (3 : Int32) [(.int (2 : Int32)), (.int (0 : Int32)), (.int (1 : Int32))] (.int (0 : Int32))) :
    own_Go p.tables e below (T0.setTop (mkF m 39 #[z0, z1, z2, z3, .val (.int sj), .val (.int pj), .val (.int oj), .unset, .unset, .unset] [])) (own_K s (fun (v : Option Value) (h : Heap) (L : List Loc) => v = some (.int (1 : Int32)) ∧ Fr n0 L) room_1.cells room_1.slots) := by
  obtain ⟨hx, hZ, hw, hby, hml, hown, hret, hlk, hnm⟩ := C
  refine own_via (G := T0.setTop (mkF m 41 #[z0, z1, z2, z3, .val (.int sj), .val (.int pj), .val (.int oj), .unset, .unset, .unset] [(.int sj)])) (fun t k => XS.iload X0.here hx rfl (hb hby at_39) rfl k) ?_
  refine own_via (G := T0.setTop (mkF m 43 #[z0, z1, z2, z3, .val (.int sj), .val (.int pj), .val (.int oj), .unset, .unset, .unset] [(.int pj), (.int sj)])) (fun t k => XS.iload X0.here hx rfl (hb hby at_41) rfl k) ?_
  refine own_via (G := T0.setTop (mkF m 45 #[z0, z1, z2, z3, .val (.int sj), .val (.int pj), .val (.int oj), .unset, .unset, .unset] [(.int oj), (.int pj), (.int sj)])) (fun t k => XS.iload X0.here hx rfl (hb hby at_43) rfl k) ?_
  obtain ⟨_, _, ⟨T1, L1, k1, n1⟩, -, X1, ⟨Lc1, hQ1, l1, y1, z1⟩, st1⟩ := Jvm.LawKit.callS X0 hx (y := (⟨"com/example/triplewright/triplewright/store/TripleStore$Order", "covering", "(III)Lcom/example/triplewright/triplewright/store/TripleStore$Order;"⟩ : MethodName)) hown (mvT hZ (hw _ (List.mem_of_getElem? (i := 0) rfl))) (mvT hZ (hw _ (List.mem_of_getElem? (i := 1) rfl))) (mvT hZ (hw _ (List.mem_of_getElem? (i := 2) rfl))) (mvT hZ (hw _ (List.mem_of_getElem? (i := 3) rfl))) (by decide) (backOf (W := 0) (rm1 l Z a0 hw [] sj pj oj aS aP aO h0 n0 Z0 S_SPO S_POS S_OSP) hZ (hw _ (List.mem_of_getElem? (i := 3) rfl)) (hw _ (List.mem_of_getElem? (i := 2) rfl)) (by decide) (by decide)) (g := (mkF m 45 #[z0, z1, z2, z3, .val (.int sj), .val (.int pj), .val (.int oj), .unset, .unset, .unset] [(.int oj), (.int pj), (.int sj)])) rfl (by rw [hml]; rfl) (argsL := [(.int sj), (.int pj), (.int oj)]) (rest := []) (lenOf pd_3 rfl) rfl (by show 2 * 0 + _ ≤ _; exact Nat.le_of_eq rfl) (hb hby at_45) (fun _ _ => ⟨rfl, e0, (by decide : 0 + 0 ≤ _), (by decide : 0 + 0 ≤ _)⟩)
  dsimp only [Pt.U, Pt.locs, Pt.cells, Pt.slots] at X1 l1 y1 z1 st1 hQ1
  subst l1 y1 z1
  obtain ⟨rfl, Nq1, eh1⟩ := hQ1
  have N1 := Fr.app N0 Nq1
  refine own_via (G := T1.setTop (mkF m 48 #[z0, z1, z2, z3, .val (.int sj), .val (.int pj), .val (.int oj), .unset, .unset, .unset] [(.ref (own_cov sj pj oj aS aP aO))])) (fun t k => st1 t k) ?_
  by_cases hs : sj = (-1 : Int32)
  · skip
    by_cases hp : pj = (-1 : Int32)
    · skip
      by_cases ho : oj = (-1 : Int32)
      · skip
        have hv : own_cov sj pj oj aS aP aO = aS := by unfold own_cov; simp [hs, hp, ho]
        rw [hv]
        exact b0_48 z0 z1 z2 z3 sj pj oj aS rS kS (0 : Int32) (1 : Int32) (2 : Int32) ⟨hx, hZ, hw, hby, hml, hown, hret, hlk, hnm⟩ X1 eh1 Z0 N1 FP_SPO VA_SPO (by decide) (by decide) (by decide) (by decide) (by decide) (by decide) (by rw [own_pk0, own_fx0 hs, own_fx0 hp, own_fx0 ho]; decide) (by rw [own_pk1, own_fx0 hs, own_fx0 hp, own_fx0 ho]; decide) (by rw [own_pk2, own_fx0 hs, own_fx0 hp, own_fx0 ho]; decide)
      · skip
        have hv : own_cov sj pj oj aS aP aO = aO := by unfold own_cov; simp [hs, hp, ho]
        rw [hv]
        exact b0_48 z0 z1 z2 z3 sj pj oj aO rO kO (2 : Int32) (0 : Int32) (1 : Int32) ⟨hx, hZ, hw, hby, hml, hown, hret, hlk, hnm⟩ X1 eh1 Z0 N1 FP_OSP VA_OSP (by decide) (by decide) (by decide) (by decide) (by decide) (by decide) (by rw [own_pk2, own_fx0 hs, own_fx0 hp, own_fx1 ho]; decide) (by rw [own_pk0, own_fx0 hs, own_fx0 hp, own_fx1 ho]; decide) (by rw [own_pk1, own_fx0 hs, own_fx0 hp, own_fx1 ho]; decide)
    · skip
      by_cases ho : oj = (-1 : Int32)
      · skip
        have hv : own_cov sj pj oj aS aP aO = aP := by unfold own_cov; simp [hs, hp, ho]
        rw [hv]
        exact b0_48 z0 z1 z2 z3 sj pj oj aP rP kP (1 : Int32) (2 : Int32) (0 : Int32) ⟨hx, hZ, hw, hby, hml, hown, hret, hlk, hnm⟩ X1 eh1 Z0 N1 FP_POS VA_POS (by decide) (by decide) (by decide) (by decide) (by decide) (by decide) (by rw [own_pk1, own_fx0 hs, own_fx1 hp, own_fx0 ho]; decide) (by rw [own_pk2, own_fx0 hs, own_fx1 hp, own_fx0 ho]; decide) (by rw [own_pk0, own_fx0 hs, own_fx1 hp, own_fx0 ho]; decide)
      · skip
        have hv : own_cov sj pj oj aS aP aO = aP := by unfold own_cov; simp [hs, hp, ho]
        rw [hv]
        exact b0_48 z0 z1 z2 z3 sj pj oj aP rP kP (1 : Int32) (2 : Int32) (0 : Int32) ⟨hx, hZ, hw, hby, hml, hown, hret, hlk, hnm⟩ X1 eh1 Z0 N1 FP_POS VA_POS (by decide) (by decide) (by decide) (by decide) (by decide) (by decide) (by rw [own_pk1, own_fx0 hs, own_fx1 hp, own_fx1 ho]; decide) (by rw [own_pk2, own_fx0 hs, own_fx1 hp, own_fx1 ho]; decide) (by rw [own_pk0, own_fx0 hs, own_fx1 hp, own_fx1 ho]; decide)
  · skip
    by_cases hp : pj = (-1 : Int32)
    · skip
      by_cases ho : oj = (-1 : Int32)
      · skip
        have hv : own_cov sj pj oj aS aP aO = aS := by unfold own_cov; simp [hs, hp, ho]
        rw [hv]
        exact b0_48 z0 z1 z2 z3 sj pj oj aS rS kS (0 : Int32) (1 : Int32) (2 : Int32) ⟨hx, hZ, hw, hby, hml, hown, hret, hlk, hnm⟩ X1 eh1 Z0 N1 FP_SPO VA_SPO (by decide) (by decide) (by decide) (by decide) (by decide) (by decide) (by rw [own_pk0, own_fx1 hs, own_fx0 hp, own_fx0 ho]; decide) (by rw [own_pk1, own_fx1 hs, own_fx0 hp, own_fx0 ho]; decide) (by rw [own_pk2, own_fx1 hs, own_fx0 hp, own_fx0 ho]; decide)
      · skip
        have hv : own_cov sj pj oj aS aP aO = aO := by unfold own_cov; simp [hs, hp, ho]
        rw [hv]
        exact b0_48 z0 z1 z2 z3 sj pj oj aO rO kO (2 : Int32) (0 : Int32) (1 : Int32) ⟨hx, hZ, hw, hby, hml, hown, hret, hlk, hnm⟩ X1 eh1 Z0 N1 FP_OSP VA_OSP (by decide) (by decide) (by decide) (by decide) (by decide) (by decide) (by rw [own_pk2, own_fx1 hs, own_fx0 hp, own_fx1 ho]; decide) (by rw [own_pk0, own_fx1 hs, own_fx0 hp, own_fx1 ho]; decide) (by rw [own_pk1, own_fx1 hs, own_fx0 hp, own_fx1 ho]; decide)
    · skip
      by_cases ho : oj = (-1 : Int32)
      · skip
        have hv : own_cov sj pj oj aS aP aO = aS := by unfold own_cov; simp [hs, hp, ho]
        rw [hv]
        exact b0_48 z0 z1 z2 z3 sj pj oj aS rS kS (0 : Int32) (1 : Int32) (2 : Int32) ⟨hx, hZ, hw, hby, hml, hown, hret, hlk, hnm⟩ X1 eh1 Z0 N1 FP_SPO VA_SPO (by decide) (by decide) (by decide) (by decide) (by decide) (by decide) (by rw [own_pk0, own_fx1 hs, own_fx1 hp, own_fx0 ho]; decide) (by rw [own_pk1, own_fx1 hs, own_fx1 hp, own_fx0 ho]; decide) (by rw [own_pk2, own_fx1 hs, own_fx1 hp, own_fx0 ho]; decide)
      · skip
        have hv : own_cov sj pj oj aS aP aO = aS := by unfold own_cov; simp [hs, hp, ho]
        rw [hv]
        exact b0_48 z0 z1 z2 z3 sj pj oj aS rS kS (0 : Int32) (1 : Int32) (2 : Int32) ⟨hx, hZ, hw, hby, hml, hown, hret, hlk, hnm⟩ X1 eh1 Z0 N1 FP_SPO VA_SPO (by decide) (by decide) (by decide) (by decide) (by decide) (by decide) (by rw [own_pk0, own_fx1 hs, own_fx1 hp, own_fx1 ho]; decide) (by rw [own_pk1, own_fx1 hs, own_fx1 hp, own_fx1 ho]; decide) (by rw [own_pk2, own_fx1 hs, own_fx1 hp, own_fx1 ho]; decide)
def Q0 (Z : State) (is : Int32) (ip : Int32) (io : Int32) (ig : Int32) (aS : Addr) (aP : Addr) (aO : Addr) (rS : Addr) (rP : Addr) (rO : Addr) (kS : ClassId) (kP : ClassId) (kO : ClassId) (h0 : Heap) (n0 : Nat) (v : Option Value) (h : Heap) (L : List Loc) : Prop := v = some (.int (1 : Int32)) ∧ Fr n0 L
set_option maxRecDepth 65536 in
set_option maxHeartbeats 40000000 in
theorem b0 {p : Program} {l : Launch} {e : Env} {s : State} {m : MethodId} {args : Array Value} {below : List Frame} {meth : Method} {c : Code} {T0 : State} {locs : List Loc} {Z : State} {a0 : Array Value} {h0 : Heap} {n0 : Nat} (is : Int32) (ip : Int32) (io : Int32) (ig : Int32) (aS : Addr) (aP : Addr) (aO : Addr) (rS : Addr) (rP : Addr) (rO : Addr) (kS : ClassId) (kP : ClassId) (kO : ClassId)
    (C : own_C p s m meth c Z a0 code maxLocals "com/example/triplewright/triplewright/store/OrderCoveringPinLaw" ret "law") (X0 : Stand p l e room_1 s m args below meth c T0 locs 0 0) (e0 : T0.heap = h0) (Z0 : n0 ≤ h0.size) (N0 : Fr n0 locs) (S_SPO : Sta Z h0 "com/example/triplewright/triplewright/store/TripleStore$Order" "SPO" "Lcom/example/triplewright/triplewright/store/TripleStore$Order;" (.ref aS)) (S_POS : Sta Z h0 "com/example/triplewright/triplewright/store/TripleStore$Order" "POS" "Lcom/example/triplewright/triplewright/store/TripleStore$Order;" (.ref aP)) (S_OSP : Sta Z h0 "com/example/triplewright/triplewright/store/TripleStore$Order" "OSP" "Lcom/example/triplewright/triplewright/store/TripleStore$Order;" (.ref aO)) (FP_SPO : Fld Z h0 aS "com/example/triplewright/triplewright/store/TripleStore$Order" "positions" "[I" (.ref rS)) (FP_POS : Fld Z h0 aP "com/example/triplewright/triplewright/store/TripleStore$Order" "positions" "[I" (.ref rP)) (FP_OSP : Fld Z h0 aO "com/example/triplewright/triplewright/store/TripleStore$Order" "positions" "[I" (.ref rO)) (VA_SPO : Arv Z h0 rS kS .int (3 : Int32) [(.int (0 : Int32)), (.int (1 : Int32)), (.int (2 : Int32))] (.int (0 : Int32))) (VA_POS : Arv Z h0 rP kP .int (3 : Int32) [(.int (1 : Int32)), (.int (2 : Int32)), (.int (0 : Int32))] (.int (0 : Int32))) (VA_OSP : Arv Z h0 rO kO .int (3 : Int32) [(.int (2 : Int32)), (.int (0 : Int32)), (.int (1 : Int32))] (.int (0 : Int32))) :
    own_Go p.tables e below (T0.setTop (mkF m 0 #[.val (.int is), .val (.int ip), .val (.int io), .val (.int ig), .unset, .unset, .unset, .unset, .unset, .unset] [])) (own_K s (fun (v : Option Value) (h : Heap) (L : List Loc) => Q0 Z is ip io ig aS aP aO rS rP rO kS kP kO h0 n0 v h L) room_1.cells room_1.slots) := by
  obtain ⟨hx, hZ, hw, hby, hml, hown, hret, hlk, hnm⟩ := C
  refine own_via (G := T0.setTop (mkF m 1 #[.val (.int is), .val (.int ip), .val (.int io), .val (.int ig), .unset, .unset, .unset, .unset, .unset, .unset] [(.int ig)])) (fun t k => XS.iloadN X0.here hx rfl (hb hby at_0) rfl k) ?_
  refine own_via (G := T0.setTop (mkF m 2 #[.val (.int is), .val (.int ip), .val (.int io), .val (.int ig), .unset, .unset, .unset, .unset, .unset, .unset] [(.int (1 : Int32)), (.int ig)])) (fun t k => XS.iconst X0.here hx rfl (hb hby at_1) k) ?_
  refine own_via (G := T0.setTop (mkF m 3 #[.val (.int is), .val (.int ip), .val (.int io), .val (.int ig), .unset, .unset, .unset, .unset, .unset, .unset] [(.int (ig &&& (1 : Int32)))])) (fun t k => XS.iand X0.here hx rfl (hb hby at_2) rfl k) ?_
  by_cases hc1_3 : (ig &&& (1 : Int32)) = (0 : Int32)
  · refine own_via (G := T0.setTop (mkF m 10 #[.val (.int is), .val (.int ip), .val (.int io), .val (.int ig), .unset, .unset, .unset, .unset, .unset, .unset] [])) (fun t k => XS.ifYes X0.here hx rfl (pc0 := 3) (pc' := 10) rfl (hb hby at_3) rfl (XT.i0_eq_t hc1_3) (by decide) (by decide) k) ?_
    refine own_via (G := T0.setTop (mkF m 11 #[.val (.int is), .val (.int ip), .val (.int io), .val (.int ig), .unset, .unset, .unset, .unset, .unset, .unset] [(.int is)])) (fun t k => XS.iloadN X0.here hx rfl (hb hby at_10) rfl k) ?_
    refine own_via (G := T0.setTop (mkF m 13 #[.val (.int is), .val (.int ip), .val (.int io), .val (.int ig), .val (.int is), .unset, .unset, .unset, .unset, .unset] [])) (fun t k => XS.istore X0.here hx rfl (hb hby at_11) rfl (l' := #[.val (.int is), .val (.int ip), .val (.int io), .val (.int ig), .val (.int is), .unset, .unset, .unset, .unset, .unset]) rfl k) ?_
    refine own_via (G := T0.setTop (mkF m 14 #[.val (.int is), .val (.int ip), .val (.int io), .val (.int ig), .val (.int is), .unset, .unset, .unset, .unset, .unset] [(.int ig)])) (fun t k => XS.iloadN X0.here hx rfl (hb hby at_13) rfl k) ?_
    refine own_via (G := T0.setTop (mkF m 15 #[.val (.int is), .val (.int ip), .val (.int io), .val (.int ig), .val (.int is), .unset, .unset, .unset, .unset, .unset] [(.int (2 : Int32)), (.int ig)])) (fun t k => XS.iconst X0.here hx rfl (hb hby at_14) k) ?_
    refine own_via (G := T0.setTop (mkF m 16 #[.val (.int is), .val (.int ip), .val (.int io), .val (.int ig), .val (.int is), .unset, .unset, .unset, .unset, .unset] [(.int (ig &&& (2 : Int32)))])) (fun t k => XS.iand X0.here hx rfl (hb hby at_15) rfl k) ?_
    by_cases hc2_16 : (ig &&& (2 : Int32)) = (0 : Int32)
    · refine own_via (G := T0.setTop (mkF m 23 #[.val (.int is), .val (.int ip), .val (.int io), .val (.int ig), .val (.int is), .unset, .unset, .unset, .unset, .unset] [])) (fun t k => XS.ifYes X0.here hx rfl (pc0 := 16) (pc' := 23) rfl (hb hby at_16) rfl (XT.i0_eq_t hc2_16) (by decide) (by decide) k) ?_
      refine own_via (G := T0.setTop (mkF m 24 #[.val (.int is), .val (.int ip), .val (.int io), .val (.int ig), .val (.int is), .unset, .unset, .unset, .unset, .unset] [(.int ip)])) (fun t k => XS.iloadN X0.here hx rfl (hb hby at_23) rfl k) ?_
      refine own_via (G := T0.setTop (mkF m 26 #[.val (.int is), .val (.int ip), .val (.int io), .val (.int ig), .val (.int is), .val (.int ip), .unset, .unset, .unset, .unset] [])) (fun t k => XS.istore X0.here hx rfl (hb hby at_24) rfl (l' := #[.val (.int is), .val (.int ip), .val (.int io), .val (.int ig), .val (.int is), .val (.int ip), .unset, .unset, .unset, .unset]) rfl k) ?_
      refine own_via (G := T0.setTop (mkF m 27 #[.val (.int is), .val (.int ip), .val (.int io), .val (.int ig), .val (.int is), .val (.int ip), .unset, .unset, .unset, .unset] [(.int ig)])) (fun t k => XS.iloadN X0.here hx rfl (hb hby at_26) rfl k) ?_
      refine own_via (G := T0.setTop (mkF m 28 #[.val (.int is), .val (.int ip), .val (.int io), .val (.int ig), .val (.int is), .val (.int ip), .unset, .unset, .unset, .unset] [(.int (4 : Int32)), (.int ig)])) (fun t k => XS.iconst X0.here hx rfl (hb hby at_27) k) ?_
      refine own_via (G := T0.setTop (mkF m 29 #[.val (.int is), .val (.int ip), .val (.int io), .val (.int ig), .val (.int is), .val (.int ip), .unset, .unset, .unset, .unset] [(.int (ig &&& (4 : Int32)))])) (fun t k => XS.iand X0.here hx rfl (hb hby at_28) rfl k) ?_
      by_cases hc3_29 : (ig &&& (4 : Int32)) = (0 : Int32)
      · refine own_via (G := T0.setTop (mkF m 36 #[.val (.int is), .val (.int ip), .val (.int io), .val (.int ig), .val (.int is), .val (.int ip), .unset, .unset, .unset, .unset] [])) (fun t k => XS.ifYes X0.here hx rfl (pc0 := 29) (pc' := 36) rfl (hb hby at_29) rfl (XT.i0_eq_t hc3_29) (by decide) (by decide) k) ?_
        refine own_via (G := T0.setTop (mkF m 37 #[.val (.int is), .val (.int ip), .val (.int io), .val (.int ig), .val (.int is), .val (.int ip), .unset, .unset, .unset, .unset] [(.int io)])) (fun t k => XS.iloadN X0.here hx rfl (hb hby at_36) rfl k) ?_
        refine own_via (G := T0.setTop (mkF m 39 #[.val (.int is), .val (.int ip), .val (.int io), .val (.int ig), .val (.int is), .val (.int ip), .val (.int io), .unset, .unset, .unset] [])) (fun t k => XS.istore X0.here hx rfl (hb hby at_37) rfl (l' := #[.val (.int is), .val (.int ip), .val (.int io), .val (.int ig), .val (.int is), .val (.int ip), .val (.int io), .unset, .unset, .unset]) rfl k) ?_
        exact b0_39 (.val (.int is)) (.val (.int ip)) (.val (.int io)) (.val (.int ig)) is ip io aS aP aO rS rP rO kS kP kO ⟨hx, hZ, hw, hby, hml, hown, hret, hlk, hnm⟩ X0 e0 Z0 N0 S_SPO S_POS S_OSP FP_SPO FP_POS FP_OSP VA_SPO VA_POS VA_OSP
      · refine own_via (G := T0.setTop (mkF m 32 #[.val (.int is), .val (.int ip), .val (.int io), .val (.int ig), .val (.int is), .val (.int ip), .unset, .unset, .unset, .unset] [])) (fun t k => XS.ifNo X0.here hx rfl (hb hby at_29) rfl (XT.i0_eq_f hc3_29) k) ?_
        refine own_via (G := T0.setTop (mkF m 33 #[.val (.int is), .val (.int ip), .val (.int io), .val (.int ig), .val (.int is), .val (.int ip), .unset, .unset, .unset, .unset] [(.int (-1 : Int32))])) (fun t k => XS.iconst X0.here hx rfl (hb hby at_32) k) ?_
        refine own_via (G := T0.setTop (mkF m 37 #[.val (.int is), .val (.int ip), .val (.int io), .val (.int ig), .val (.int is), .val (.int ip), .unset, .unset, .unset, .unset] [(.int (-1 : Int32))])) (fun t k => XS.goto X0.here hx rfl (pc0 := 33) (pc' := 37) rfl (hb hby at_33) (by decide) (by decide) k) ?_
        refine own_via (G := T0.setTop (mkF m 39 #[.val (.int is), .val (.int ip), .val (.int io), .val (.int ig), .val (.int is), .val (.int ip), .val (.int (-1 : Int32)), .unset, .unset, .unset] [])) (fun t k => XS.istore X0.here hx rfl (hb hby at_37) rfl (l' := #[.val (.int is), .val (.int ip), .val (.int io), .val (.int ig), .val (.int is), .val (.int ip), .val (.int (-1 : Int32)), .unset, .unset, .unset]) rfl k) ?_
        exact b0_39 (.val (.int is)) (.val (.int ip)) (.val (.int io)) (.val (.int ig)) is ip (-1 : Int32) aS aP aO rS rP rO kS kP kO ⟨hx, hZ, hw, hby, hml, hown, hret, hlk, hnm⟩ X0 e0 Z0 N0 S_SPO S_POS S_OSP FP_SPO FP_POS FP_OSP VA_SPO VA_POS VA_OSP
    · refine own_via (G := T0.setTop (mkF m 19 #[.val (.int is), .val (.int ip), .val (.int io), .val (.int ig), .val (.int is), .unset, .unset, .unset, .unset, .unset] [])) (fun t k => XS.ifNo X0.here hx rfl (hb hby at_16) rfl (XT.i0_eq_f hc2_16) k) ?_
      refine own_via (G := T0.setTop (mkF m 20 #[.val (.int is), .val (.int ip), .val (.int io), .val (.int ig), .val (.int is), .unset, .unset, .unset, .unset, .unset] [(.int (-1 : Int32))])) (fun t k => XS.iconst X0.here hx rfl (hb hby at_19) k) ?_
      refine own_via (G := T0.setTop (mkF m 24 #[.val (.int is), .val (.int ip), .val (.int io), .val (.int ig), .val (.int is), .unset, .unset, .unset, .unset, .unset] [(.int (-1 : Int32))])) (fun t k => XS.goto X0.here hx rfl (pc0 := 20) (pc' := 24) rfl (hb hby at_20) (by decide) (by decide) k) ?_
      refine own_via (G := T0.setTop (mkF m 26 #[.val (.int is), .val (.int ip), .val (.int io), .val (.int ig), .val (.int is), .val (.int (-1 : Int32)), .unset, .unset, .unset, .unset] [])) (fun t k => XS.istore X0.here hx rfl (hb hby at_24) rfl (l' := #[.val (.int is), .val (.int ip), .val (.int io), .val (.int ig), .val (.int is), .val (.int (-1 : Int32)), .unset, .unset, .unset, .unset]) rfl k) ?_
      refine own_via (G := T0.setTop (mkF m 27 #[.val (.int is), .val (.int ip), .val (.int io), .val (.int ig), .val (.int is), .val (.int (-1 : Int32)), .unset, .unset, .unset, .unset] [(.int ig)])) (fun t k => XS.iloadN X0.here hx rfl (hb hby at_26) rfl k) ?_
      refine own_via (G := T0.setTop (mkF m 28 #[.val (.int is), .val (.int ip), .val (.int io), .val (.int ig), .val (.int is), .val (.int (-1 : Int32)), .unset, .unset, .unset, .unset] [(.int (4 : Int32)), (.int ig)])) (fun t k => XS.iconst X0.here hx rfl (hb hby at_27) k) ?_
      refine own_via (G := T0.setTop (mkF m 29 #[.val (.int is), .val (.int ip), .val (.int io), .val (.int ig), .val (.int is), .val (.int (-1 : Int32)), .unset, .unset, .unset, .unset] [(.int (ig &&& (4 : Int32)))])) (fun t k => XS.iand X0.here hx rfl (hb hby at_28) rfl k) ?_
      by_cases hc4_29 : (ig &&& (4 : Int32)) = (0 : Int32)
      · refine own_via (G := T0.setTop (mkF m 36 #[.val (.int is), .val (.int ip), .val (.int io), .val (.int ig), .val (.int is), .val (.int (-1 : Int32)), .unset, .unset, .unset, .unset] [])) (fun t k => XS.ifYes X0.here hx rfl (pc0 := 29) (pc' := 36) rfl (hb hby at_29) rfl (XT.i0_eq_t hc4_29) (by decide) (by decide) k) ?_
        refine own_via (G := T0.setTop (mkF m 37 #[.val (.int is), .val (.int ip), .val (.int io), .val (.int ig), .val (.int is), .val (.int (-1 : Int32)), .unset, .unset, .unset, .unset] [(.int io)])) (fun t k => XS.iloadN X0.here hx rfl (hb hby at_36) rfl k) ?_
        refine own_via (G := T0.setTop (mkF m 39 #[.val (.int is), .val (.int ip), .val (.int io), .val (.int ig), .val (.int is), .val (.int (-1 : Int32)), .val (.int io), .unset, .unset, .unset] [])) (fun t k => XS.istore X0.here hx rfl (hb hby at_37) rfl (l' := #[.val (.int is), .val (.int ip), .val (.int io), .val (.int ig), .val (.int is), .val (.int (-1 : Int32)), .val (.int io), .unset, .unset, .unset]) rfl k) ?_
        exact b0_39 (.val (.int is)) (.val (.int ip)) (.val (.int io)) (.val (.int ig)) is (-1 : Int32) io aS aP aO rS rP rO kS kP kO ⟨hx, hZ, hw, hby, hml, hown, hret, hlk, hnm⟩ X0 e0 Z0 N0 S_SPO S_POS S_OSP FP_SPO FP_POS FP_OSP VA_SPO VA_POS VA_OSP
      · refine own_via (G := T0.setTop (mkF m 32 #[.val (.int is), .val (.int ip), .val (.int io), .val (.int ig), .val (.int is), .val (.int (-1 : Int32)), .unset, .unset, .unset, .unset] [])) (fun t k => XS.ifNo X0.here hx rfl (hb hby at_29) rfl (XT.i0_eq_f hc4_29) k) ?_
        refine own_via (G := T0.setTop (mkF m 33 #[.val (.int is), .val (.int ip), .val (.int io), .val (.int ig), .val (.int is), .val (.int (-1 : Int32)), .unset, .unset, .unset, .unset] [(.int (-1 : Int32))])) (fun t k => XS.iconst X0.here hx rfl (hb hby at_32) k) ?_
        refine own_via (G := T0.setTop (mkF m 37 #[.val (.int is), .val (.int ip), .val (.int io), .val (.int ig), .val (.int is), .val (.int (-1 : Int32)), .unset, .unset, .unset, .unset] [(.int (-1 : Int32))])) (fun t k => XS.goto X0.here hx rfl (pc0 := 33) (pc' := 37) rfl (hb hby at_33) (by decide) (by decide) k) ?_
        refine own_via (G := T0.setTop (mkF m 39 #[.val (.int is), .val (.int ip), .val (.int io), .val (.int ig), .val (.int is), .val (.int (-1 : Int32)), .val (.int (-1 : Int32)), .unset, .unset, .unset] [])) (fun t k => XS.istore X0.here hx rfl (hb hby at_37) rfl (l' := #[.val (.int is), .val (.int ip), .val (.int io), .val (.int ig), .val (.int is), .val (.int (-1 : Int32)), .val (.int (-1 : Int32)), .unset, .unset, .unset]) rfl k) ?_
        exact b0_39 (.val (.int is)) (.val (.int ip)) (.val (.int io)) (.val (.int ig)) is (-1 : Int32) (-1 : Int32) aS aP aO rS rP rO kS kP kO ⟨hx, hZ, hw, hby, hml, hown, hret, hlk, hnm⟩ X0 e0 Z0 N0 S_SPO S_POS S_OSP FP_SPO FP_POS FP_OSP VA_SPO VA_POS VA_OSP
  · refine own_via (G := T0.setTop (mkF m 6 #[.val (.int is), .val (.int ip), .val (.int io), .val (.int ig), .unset, .unset, .unset, .unset, .unset, .unset] [])) (fun t k => XS.ifNo X0.here hx rfl (hb hby at_3) rfl (XT.i0_eq_f hc1_3) k) ?_
    refine own_via (G := T0.setTop (mkF m 7 #[.val (.int is), .val (.int ip), .val (.int io), .val (.int ig), .unset, .unset, .unset, .unset, .unset, .unset] [(.int (-1 : Int32))])) (fun t k => XS.iconst X0.here hx rfl (hb hby at_6) k) ?_
    refine own_via (G := T0.setTop (mkF m 11 #[.val (.int is), .val (.int ip), .val (.int io), .val (.int ig), .unset, .unset, .unset, .unset, .unset, .unset] [(.int (-1 : Int32))])) (fun t k => XS.goto X0.here hx rfl (pc0 := 7) (pc' := 11) rfl (hb hby at_7) (by decide) (by decide) k) ?_
    refine own_via (G := T0.setTop (mkF m 13 #[.val (.int is), .val (.int ip), .val (.int io), .val (.int ig), .val (.int (-1 : Int32)), .unset, .unset, .unset, .unset, .unset] [])) (fun t k => XS.istore X0.here hx rfl (hb hby at_11) rfl (l' := #[.val (.int is), .val (.int ip), .val (.int io), .val (.int ig), .val (.int (-1 : Int32)), .unset, .unset, .unset, .unset, .unset]) rfl k) ?_
    refine own_via (G := T0.setTop (mkF m 14 #[.val (.int is), .val (.int ip), .val (.int io), .val (.int ig), .val (.int (-1 : Int32)), .unset, .unset, .unset, .unset, .unset] [(.int ig)])) (fun t k => XS.iloadN X0.here hx rfl (hb hby at_13) rfl k) ?_
    refine own_via (G := T0.setTop (mkF m 15 #[.val (.int is), .val (.int ip), .val (.int io), .val (.int ig), .val (.int (-1 : Int32)), .unset, .unset, .unset, .unset, .unset] [(.int (2 : Int32)), (.int ig)])) (fun t k => XS.iconst X0.here hx rfl (hb hby at_14) k) ?_
    refine own_via (G := T0.setTop (mkF m 16 #[.val (.int is), .val (.int ip), .val (.int io), .val (.int ig), .val (.int (-1 : Int32)), .unset, .unset, .unset, .unset, .unset] [(.int (ig &&& (2 : Int32)))])) (fun t k => XS.iand X0.here hx rfl (hb hby at_15) rfl k) ?_
    by_cases hc5_16 : (ig &&& (2 : Int32)) = (0 : Int32)
    · refine own_via (G := T0.setTop (mkF m 23 #[.val (.int is), .val (.int ip), .val (.int io), .val (.int ig), .val (.int (-1 : Int32)), .unset, .unset, .unset, .unset, .unset] [])) (fun t k => XS.ifYes X0.here hx rfl (pc0 := 16) (pc' := 23) rfl (hb hby at_16) rfl (XT.i0_eq_t hc5_16) (by decide) (by decide) k) ?_
      refine own_via (G := T0.setTop (mkF m 24 #[.val (.int is), .val (.int ip), .val (.int io), .val (.int ig), .val (.int (-1 : Int32)), .unset, .unset, .unset, .unset, .unset] [(.int ip)])) (fun t k => XS.iloadN X0.here hx rfl (hb hby at_23) rfl k) ?_
      refine own_via (G := T0.setTop (mkF m 26 #[.val (.int is), .val (.int ip), .val (.int io), .val (.int ig), .val (.int (-1 : Int32)), .val (.int ip), .unset, .unset, .unset, .unset] [])) (fun t k => XS.istore X0.here hx rfl (hb hby at_24) rfl (l' := #[.val (.int is), .val (.int ip), .val (.int io), .val (.int ig), .val (.int (-1 : Int32)), .val (.int ip), .unset, .unset, .unset, .unset]) rfl k) ?_
      refine own_via (G := T0.setTop (mkF m 27 #[.val (.int is), .val (.int ip), .val (.int io), .val (.int ig), .val (.int (-1 : Int32)), .val (.int ip), .unset, .unset, .unset, .unset] [(.int ig)])) (fun t k => XS.iloadN X0.here hx rfl (hb hby at_26) rfl k) ?_
      refine own_via (G := T0.setTop (mkF m 28 #[.val (.int is), .val (.int ip), .val (.int io), .val (.int ig), .val (.int (-1 : Int32)), .val (.int ip), .unset, .unset, .unset, .unset] [(.int (4 : Int32)), (.int ig)])) (fun t k => XS.iconst X0.here hx rfl (hb hby at_27) k) ?_
      refine own_via (G := T0.setTop (mkF m 29 #[.val (.int is), .val (.int ip), .val (.int io), .val (.int ig), .val (.int (-1 : Int32)), .val (.int ip), .unset, .unset, .unset, .unset] [(.int (ig &&& (4 : Int32)))])) (fun t k => XS.iand X0.here hx rfl (hb hby at_28) rfl k) ?_
      by_cases hc6_29 : (ig &&& (4 : Int32)) = (0 : Int32)
      · refine own_via (G := T0.setTop (mkF m 36 #[.val (.int is), .val (.int ip), .val (.int io), .val (.int ig), .val (.int (-1 : Int32)), .val (.int ip), .unset, .unset, .unset, .unset] [])) (fun t k => XS.ifYes X0.here hx rfl (pc0 := 29) (pc' := 36) rfl (hb hby at_29) rfl (XT.i0_eq_t hc6_29) (by decide) (by decide) k) ?_
        refine own_via (G := T0.setTop (mkF m 37 #[.val (.int is), .val (.int ip), .val (.int io), .val (.int ig), .val (.int (-1 : Int32)), .val (.int ip), .unset, .unset, .unset, .unset] [(.int io)])) (fun t k => XS.iloadN X0.here hx rfl (hb hby at_36) rfl k) ?_
        refine own_via (G := T0.setTop (mkF m 39 #[.val (.int is), .val (.int ip), .val (.int io), .val (.int ig), .val (.int (-1 : Int32)), .val (.int ip), .val (.int io), .unset, .unset, .unset] [])) (fun t k => XS.istore X0.here hx rfl (hb hby at_37) rfl (l' := #[.val (.int is), .val (.int ip), .val (.int io), .val (.int ig), .val (.int (-1 : Int32)), .val (.int ip), .val (.int io), .unset, .unset, .unset]) rfl k) ?_
        exact b0_39 (.val (.int is)) (.val (.int ip)) (.val (.int io)) (.val (.int ig)) (-1 : Int32) ip io aS aP aO rS rP rO kS kP kO ⟨hx, hZ, hw, hby, hml, hown, hret, hlk, hnm⟩ X0 e0 Z0 N0 S_SPO S_POS S_OSP FP_SPO FP_POS FP_OSP VA_SPO VA_POS VA_OSP
      · refine own_via (G := T0.setTop (mkF m 32 #[.val (.int is), .val (.int ip), .val (.int io), .val (.int ig), .val (.int (-1 : Int32)), .val (.int ip), .unset, .unset, .unset, .unset] [])) (fun t k => XS.ifNo X0.here hx rfl (hb hby at_29) rfl (XT.i0_eq_f hc6_29) k) ?_
        refine own_via (G := T0.setTop (mkF m 33 #[.val (.int is), .val (.int ip), .val (.int io), .val (.int ig), .val (.int (-1 : Int32)), .val (.int ip), .unset, .unset, .unset, .unset] [(.int (-1 : Int32))])) (fun t k => XS.iconst X0.here hx rfl (hb hby at_32) k) ?_
        refine own_via (G := T0.setTop (mkF m 37 #[.val (.int is), .val (.int ip), .val (.int io), .val (.int ig), .val (.int (-1 : Int32)), .val (.int ip), .unset, .unset, .unset, .unset] [(.int (-1 : Int32))])) (fun t k => XS.goto X0.here hx rfl (pc0 := 33) (pc' := 37) rfl (hb hby at_33) (by decide) (by decide) k) ?_
        refine own_via (G := T0.setTop (mkF m 39 #[.val (.int is), .val (.int ip), .val (.int io), .val (.int ig), .val (.int (-1 : Int32)), .val (.int ip), .val (.int (-1 : Int32)), .unset, .unset, .unset] [])) (fun t k => XS.istore X0.here hx rfl (hb hby at_37) rfl (l' := #[.val (.int is), .val (.int ip), .val (.int io), .val (.int ig), .val (.int (-1 : Int32)), .val (.int ip), .val (.int (-1 : Int32)), .unset, .unset, .unset]) rfl k) ?_
        exact b0_39 (.val (.int is)) (.val (.int ip)) (.val (.int io)) (.val (.int ig)) (-1 : Int32) ip (-1 : Int32) aS aP aO rS rP rO kS kP kO ⟨hx, hZ, hw, hby, hml, hown, hret, hlk, hnm⟩ X0 e0 Z0 N0 S_SPO S_POS S_OSP FP_SPO FP_POS FP_OSP VA_SPO VA_POS VA_OSP
    · refine own_via (G := T0.setTop (mkF m 19 #[.val (.int is), .val (.int ip), .val (.int io), .val (.int ig), .val (.int (-1 : Int32)), .unset, .unset, .unset, .unset, .unset] [])) (fun t k => XS.ifNo X0.here hx rfl (hb hby at_16) rfl (XT.i0_eq_f hc5_16) k) ?_
      refine own_via (G := T0.setTop (mkF m 20 #[.val (.int is), .val (.int ip), .val (.int io), .val (.int ig), .val (.int (-1 : Int32)), .unset, .unset, .unset, .unset, .unset] [(.int (-1 : Int32))])) (fun t k => XS.iconst X0.here hx rfl (hb hby at_19) k) ?_
      refine own_via (G := T0.setTop (mkF m 24 #[.val (.int is), .val (.int ip), .val (.int io), .val (.int ig), .val (.int (-1 : Int32)), .unset, .unset, .unset, .unset, .unset] [(.int (-1 : Int32))])) (fun t k => XS.goto X0.here hx rfl (pc0 := 20) (pc' := 24) rfl (hb hby at_20) (by decide) (by decide) k) ?_
      refine own_via (G := T0.setTop (mkF m 26 #[.val (.int is), .val (.int ip), .val (.int io), .val (.int ig), .val (.int (-1 : Int32)), .val (.int (-1 : Int32)), .unset, .unset, .unset, .unset] [])) (fun t k => XS.istore X0.here hx rfl (hb hby at_24) rfl (l' := #[.val (.int is), .val (.int ip), .val (.int io), .val (.int ig), .val (.int (-1 : Int32)), .val (.int (-1 : Int32)), .unset, .unset, .unset, .unset]) rfl k) ?_
      refine own_via (G := T0.setTop (mkF m 27 #[.val (.int is), .val (.int ip), .val (.int io), .val (.int ig), .val (.int (-1 : Int32)), .val (.int (-1 : Int32)), .unset, .unset, .unset, .unset] [(.int ig)])) (fun t k => XS.iloadN X0.here hx rfl (hb hby at_26) rfl k) ?_
      refine own_via (G := T0.setTop (mkF m 28 #[.val (.int is), .val (.int ip), .val (.int io), .val (.int ig), .val (.int (-1 : Int32)), .val (.int (-1 : Int32)), .unset, .unset, .unset, .unset] [(.int (4 : Int32)), (.int ig)])) (fun t k => XS.iconst X0.here hx rfl (hb hby at_27) k) ?_
      refine own_via (G := T0.setTop (mkF m 29 #[.val (.int is), .val (.int ip), .val (.int io), .val (.int ig), .val (.int (-1 : Int32)), .val (.int (-1 : Int32)), .unset, .unset, .unset, .unset] [(.int (ig &&& (4 : Int32)))])) (fun t k => XS.iand X0.here hx rfl (hb hby at_28) rfl k) ?_
      by_cases hc7_29 : (ig &&& (4 : Int32)) = (0 : Int32)
      · refine own_via (G := T0.setTop (mkF m 36 #[.val (.int is), .val (.int ip), .val (.int io), .val (.int ig), .val (.int (-1 : Int32)), .val (.int (-1 : Int32)), .unset, .unset, .unset, .unset] [])) (fun t k => XS.ifYes X0.here hx rfl (pc0 := 29) (pc' := 36) rfl (hb hby at_29) rfl (XT.i0_eq_t hc7_29) (by decide) (by decide) k) ?_
        refine own_via (G := T0.setTop (mkF m 37 #[.val (.int is), .val (.int ip), .val (.int io), .val (.int ig), .val (.int (-1 : Int32)), .val (.int (-1 : Int32)), .unset, .unset, .unset, .unset] [(.int io)])) (fun t k => XS.iloadN X0.here hx rfl (hb hby at_36) rfl k) ?_
        refine own_via (G := T0.setTop (mkF m 39 #[.val (.int is), .val (.int ip), .val (.int io), .val (.int ig), .val (.int (-1 : Int32)), .val (.int (-1 : Int32)), .val (.int io), .unset, .unset, .unset] [])) (fun t k => XS.istore X0.here hx rfl (hb hby at_37) rfl (l' := #[.val (.int is), .val (.int ip), .val (.int io), .val (.int ig), .val (.int (-1 : Int32)), .val (.int (-1 : Int32)), .val (.int io), .unset, .unset, .unset]) rfl k) ?_
        exact b0_39 (.val (.int is)) (.val (.int ip)) (.val (.int io)) (.val (.int ig)) (-1 : Int32) (-1 : Int32) io aS aP aO rS rP rO kS kP kO ⟨hx, hZ, hw, hby, hml, hown, hret, hlk, hnm⟩ X0 e0 Z0 N0 S_SPO S_POS S_OSP FP_SPO FP_POS FP_OSP VA_SPO VA_POS VA_OSP
      · refine own_via (G := T0.setTop (mkF m 32 #[.val (.int is), .val (.int ip), .val (.int io), .val (.int ig), .val (.int (-1 : Int32)), .val (.int (-1 : Int32)), .unset, .unset, .unset, .unset] [])) (fun t k => XS.ifNo X0.here hx rfl (hb hby at_29) rfl (XT.i0_eq_f hc7_29) k) ?_
        refine own_via (G := T0.setTop (mkF m 33 #[.val (.int is), .val (.int ip), .val (.int io), .val (.int ig), .val (.int (-1 : Int32)), .val (.int (-1 : Int32)), .unset, .unset, .unset, .unset] [(.int (-1 : Int32))])) (fun t k => XS.iconst X0.here hx rfl (hb hby at_32) k) ?_
        refine own_via (G := T0.setTop (mkF m 37 #[.val (.int is), .val (.int ip), .val (.int io), .val (.int ig), .val (.int (-1 : Int32)), .val (.int (-1 : Int32)), .unset, .unset, .unset, .unset] [(.int (-1 : Int32))])) (fun t k => XS.goto X0.here hx rfl (pc0 := 33) (pc' := 37) rfl (hb hby at_33) (by decide) (by decide) k) ?_
        refine own_via (G := T0.setTop (mkF m 39 #[.val (.int is), .val (.int ip), .val (.int io), .val (.int ig), .val (.int (-1 : Int32)), .val (.int (-1 : Int32)), .val (.int (-1 : Int32)), .unset, .unset, .unset] [])) (fun t k => XS.istore X0.here hx rfl (hb hby at_37) rfl (l' := #[.val (.int is), .val (.int ip), .val (.int io), .val (.int ig), .val (.int (-1 : Int32)), .val (.int (-1 : Int32)), .val (.int (-1 : Int32)), .unset, .unset, .unset]) rfl k) ?_
        exact b0_39 (.val (.int is)) (.val (.int ip)) (.val (.int io)) (.val (.int ig)) (-1 : Int32) (-1 : Int32) (-1 : Int32) aS aP aO rS rP rO kS kP kO ⟨hx, hZ, hw, hby, hml, hown, hret, hlk, hnm⟩ X0 e0 Z0 N0 S_SPO S_POS S_OSP FP_SPO FP_POS FP_OSP VA_SPO VA_POS VA_OSP
theorem ef_0 (m : MethodId) (is : Int32) (ip : Int32) (io : Int32) (ig : Int32) : entryFrame m #[(.int is), (.int ip), (.int io), (.int ig)] maxLocals = mkF m 0 #[.val (.int is), .val (.int ip), .val (.int io), .val (.int ig), .unset, .unset, .unset, .unset, .unset, .unset] [] := by first | (simp [entryFrame, mkF, argsToLocals, Value.category, maxLocals]; done) | rfl
set_option maxRecDepth 65536 in
set_option maxHeartbeats 40000000 in
theorem rm0 (l : Launch) (Z : State) (a0 : Array Value) (hw : ∀ d ∈ tables_1, d.before a0 Z = true) (ws : List Jvm.Cond) (is : Int32) (ip : Int32) (io : Int32) (ig : Int32) (aS : Addr) (aP : Addr) (aO : Addr) (rS : Addr) (rP : Addr) (rO : Addr) (kS : ClassId) (kP : ClassId) (kO : ClassId) (h0 : Heap) (n0 : Nat) (Z0 : n0 ≤ h0.size) (S_SPO : Sta Z h0 "com/example/triplewright/triplewright/store/TripleStore$Order" "SPO" "Lcom/example/triplewright/triplewright/store/TripleStore$Order;" (.ref aS)) (S_POS : Sta Z h0 "com/example/triplewright/triplewright/store/TripleStore$Order" "POS" "Lcom/example/triplewright/triplewright/store/TripleStore$Order;" (.ref aP)) (S_OSP : Sta Z h0 "com/example/triplewright/triplewright/store/TripleStore$Order" "OSP" "Lcom/example/triplewright/triplewright/store/TripleStore$Order;" (.ref aO)) (FP_SPO : Fld Z h0 aS "com/example/triplewright/triplewright/store/TripleStore$Order" "positions" "[I" (.ref rS)) (FP_POS : Fld Z h0 aP "com/example/triplewright/triplewright/store/TripleStore$Order" "positions" "[I" (.ref rP)) (FP_OSP : Fld Z h0 aO "com/example/triplewright/triplewright/store/TripleStore$Order" "positions" "[I" (.ref rO)) (VA_SPO : Arv Z h0 rS kS .int (3 : Int32) [(.int (0 : Int32)), (.int (1 : Int32)), (.int (2 : Int32))] (.int (0 : Int32))) (VA_POS : Arv Z h0 rP kP .int (3 : Int32) [(.int (1 : Int32)), (.int (2 : Int32)), (.int (0 : Int32))] (.int (0 : Int32))) (VA_OSP : Arv Z h0 rO kO .int (3 : Int32) [(.int (2 : Int32)), (.int (0 : Int32)), (.int (1 : Int32))] (.int (0 : Int32))) :
    MetFree l x (head1 (Jvm.Cond.code x code maxLocals ret :: ws) room_1) (fun a U => a = #[(.int is), (.int ip), (.int io), (.int ig)] ∧ Z.Warmed39 U.vm ∧ U.heap = h0) (fun _ _ _ _ _ => True) (fun _ U o U' => ∃ v L, o = .returned v ∧ Q0 Z is ip io ig aS aP aO rS rP rO kS kP kO h0 n0 v U'.heap L ∧ FrameEnd U o U' L room_1.cells room_1.slots) := by
  refine MetFree.of_bodySF (plainFor_of_name pn_1) hisR ?_
  intro p e s m args below meth c s₁ Bd hml0 hP hK
  obtain ⟨rfl, hZ, hh⟩ := hP
  have e0 : s₁.heap = h0 := by rw [← hh, Bd.state]; rfl
  rw [ef_0 m is ip io ig]
  exact b0 is ip io ig aS aP aO rS rP rO kS kP kO ⟨Bd.exec, hZ, hw, Bd.bytes, hml0, findClass_of_methodNamed Bd.named, Bd.returns, Bd.notSynchronized, (name_of_methodNamed Bd.named Bd.method).1⟩ (Stand.of_body Bd) e0 Z0 (Fr.nil n0) S_SPO S_POS S_OSP FP_SPO FP_POS FP_OSP VA_SPO VA_POS VA_OSP
set_option maxRecDepth 65536 in
set_option maxHeartbeats 40000000 in
theorem comes_1 {Post : Tables → Env → Array Value → State → Outcome → State → Prop} (hpost : ∀ tb e args s v u, (limb_1_1.after args s (.returned v) u = true ∧ limb_1_2.after args s (.returned v) u = true ∧ True) → FrameEnd s (.returned v) u (Jvm.fieldLocs frame_1_writes args s ++ Jvm.arrayLocs frame_1_arrays args s ++ Jvm.staticLocs frame_1_statics s) 0 0 → Post tb e args s (.returned v) u) :
    ArmFor flags0 classFile x code maxLocals ret World_1 tables_1 room_1 Calls_1 rest_1 Pre_1 Post := by
  intro l hfl _ _ p e ha hc hk s m args below hf hA hF happ hP
  obtain ⟨hcalls, hrest, hpre⟩ := hP
  obtain ⟨-, -, -, hnamed, -, -, -, hat⟩ := (Spec.applies_iff hf).mp happ
  obtain ⟨hg, hn⟩ := and_e (Cond.before_iff.mp (show (Jvm.Cond.and given_1 narrow_1).before args s = true from hpre))
  obtain ⟨hcount, r0⟩ := and_e hg
  obtain ⟨ha0, r1⟩ := and_e r0
  obtain ⟨ha1, r2⟩ := and_e r1
  obtain ⟨ha2, r3⟩ := and_e r2
  obtain ⟨w0, w1, w2, w3, rfl⟩ : ∃ w0 w1 w2 w3 : Value, args = #[w0, w1, w2, w3] := by
    have hs : args.size = 4 := by simpa [Cond.value, given_1] using hcount
    obtain ⟨L⟩ := args
    match L, hs with
    | [w0, w1, w2, w3], _ => exact ⟨w0, w1, w2, w3, rfl⟩
  have hw := fun d (hd : d ∈ tables_1) => atoms_spec (ws := Jvm.Cond.code x code maxLocals ret :: tables_1) hat d (List.mem_cons_of_mem _ hd)
  have hfit : Fit s := fun {y c} hc i hi => by
    obtain ⟨ha, rfl⟩ := Array.getElem?_eq_some_iff.mp hc
    have q := List.all_eq_true.mp ((Array.all_eq_true_iff_forall_mem.mp hF) _ (Array.getElem_mem ha)) i (List.mem_range.mpr hi)
    simpa [Array.getElem?_eq_getElem hi] using q
  obtain ⟨k0, t0⟩ := and_e hn
  obtain ⟨k1, t1⟩ := and_e t0
  obtain ⟨k2, t2⟩ := and_e t1
  obtain ⟨k3, t3⟩ := and_e t2
  obtain ⟨k4, t4⟩ := and_e t3
  obtain ⟨k5, t5⟩ := and_e t4
  obtain ⟨k6, t6⟩ := and_e t5
  obtain ⟨k7, t7⟩ := and_e t6
  obtain ⟨k8, t8⟩ := and_e t7
  obtain ⟨k9, t9⟩ := and_e t8
  obtain ⟨k10, t10⟩ := and_e t9
  obtain ⟨k11, t11⟩ := and_e t10
  obtain ⟨k12, t12⟩ := and_e t11
  obtain ⟨k13, t13⟩ := and_e t12
  obtain ⟨k14, t14⟩ := and_e t13
  obtain ⟨k15, t15⟩ := and_e t14
  obtain ⟨k16, t16⟩ := and_e t15
  obtain ⟨aS, evaS⟩ := exa_v k12
  have S_SPO := Sta.start evaS (Or.inr ⟨(hw _ (List.mem_of_getElem? (i := 2) rfl)), (hw _ (List.mem_of_getElem? (i := 21) rfl))⟩)
  obtain ⟨rS, kS, eraS, VA_SPO⟩ := own_arr3 hfit k13 k14 k15 k16 t16
  have FP_SPO := own_fref evaS eraS
  obtain ⟨aP, evaP⟩ := exa_v k0
  have S_POS := Sta.start evaP (Or.inr ⟨(hw _ (List.mem_of_getElem? (i := 2) rfl)), (hw _ (List.mem_of_getElem? (i := 5) rfl))⟩)
  obtain ⟨rP, kP, eraP, VA_POS⟩ := own_arr3 hfit k1 k2 k3 k4 k5
  have FP_POS := own_fref evaP eraP
  obtain ⟨aO, evaO⟩ := exa_v k6
  have S_OSP := Sta.start evaO (Or.inr ⟨(hw _ (List.mem_of_getElem? (i := 2) rfl)), (hw _ (List.mem_of_getElem? (i := 19) rfl))⟩)
  obtain ⟨rO, kO, eraO, VA_OSP⟩ := own_arr3 hfit k7 k8 k9 k10 k11
  have FP_OSP := own_fref evaO eraO
  obtain ⟨i0, ei0⟩ := is_v ha0
  obtain rfl : w0 = (.int i0) := Option.some.inj ei0
  obtain ⟨i1, ei1⟩ := is_v ha1
  obtain rfl : w1 = (.int i1) := Option.some.inj ei1
  obtain ⟨i2, ei2⟩ := is_v ha2
  obtain rfl : w2 = (.int i2) := Option.some.inj ei2
  obtain ⟨i3, ei3⟩ := is_v r3
  obtain rfl : w3 = (.int i3) := Option.some.inj ei3
  obtain ⟨n, o, h1, h2, h3, _, L, rfl, ⟨rfl, N⟩, hq⟩ := rm0 l s _ hw tables_1 i0 i1 i2 i3 aS aP aO rS rP rO kS kP kO s.heap s.heap.size (Nat.le_refl _) S_SPO S_POS S_OSP FP_SPO FP_POS FP_OSP VA_SPO VA_POS VA_OSP p e ha hc hk s m _ below hf ((Spec.applies_iff_loose hf).mp happ).1 ⟨rfl, State.Warmed39.refl s, rfl⟩ trivial
  refine ⟨n, _, h1, h2, h3, hpost _ _ _ _ _ _ ⟨Cond.after_iff.mpr rfl, Cond.after_iff.mpr (eq_i res_at (Term.int_eval (1)) rfl), trivial⟩ ⟨hq.1, hq.2.1, (hq.2.2.sift fun y hy => Or.inr (N y hy)).mono (by decide) (by decide)⟩⟩
theorem main_1_1 : Claimed_1_1 := comes_1 fun _ _ _ _ _ _ h hF => ⟨h.1, hF⟩
theorem main_1_2 : Claimed_1_2 := comes_1 fun _ _ _ _ _ _ h hF => ⟨h.2.1, hF⟩
end Jvm.Pilot.@@N@@
namespace Jvm.Pilot.@@N@@
open Jvm Jvm.ClassFile Sem Op Lib Jvm.Free Jvm.Stand Jvm.Pilot.@@N@@.Jvm.D
/-! MADE BY PROGRAM (witnessworld.py) out of the Statement's table words and the real class files: 12 classes; the members and pool entries that the words name. The judged class is class 1, her method 1. -/
namespace start1
open Jvm.ClassFile
def u (s : String) : CpInfo := .utf8 (stringToUtf16 s)
/-- a pool by its gaps: so many unusable entries, then the entry; so many at the end -/
def gap : Nat → List CpInfo → List CpInfo
  | 0, r => r
  | n + 1, r => .unusable :: gap n r
def poolList (es : List (Nat × CpInfo)) (last : Nat) : List CpInfo := es.foldr (fun e r => gap e.1 (e.2 :: r)) (gap last [])
def pool (es : List (Nat × CpInfo)) (last : Nat) : Array CpInfo := ⟨poolList es last⟩
def fileOf (pool : Array CpInfo) (this : Nat) (attrs : Array Attribute := #[]) (ms : Array MethodInfo := #[]) (fl : Nat := 33) (sup : Nat := 0) (ifs : Array Nat := #[]) (fds : Array FieldInfo := #[]) : ClassFile where
  minorVersion := 0
  majorVersion := 65
  constantPool := pool
  accessFlags := fl
  thisClass := this
  superClass := sup
  interfaces := ifs
  fields := fds
  methods := ms
  attributes := attrs
def plain (name : String) (sup : Option ClassId) : Class where
  name := name
  kind := .ordinary
  loader := none
  accessFlags := 33
  super := sup
  interfaces := #[]
  cf := none
  fields := #[]
  methods := #[]
  instanceTypes := #[]
  staticTypes := #[]
  resolved := #[]
  callSites := []
  init := .initialized
  statics := none
  mirror := none

def pool0 : Array CpInfo := pool [(5, u "<init>"), (0, u "()V"), (1, .class_ 10), (1, u "java/lang/Object")] 113

def k0m0 : Method := { name := "<init>", desc := "()V", sig := { parameters := [], returnType := none }, accessFlags := 1, code := none }
/-- java/lang/Object -/
def k0 : Class := { plain "java/lang/Object" none with
  accessFlags := 33
  interfaces := #[]
  cf := some (fileOf pool0 8 #[] #[{ accessFlags := 1, nameIndex := 5, descriptorIndex := 6, attributes := #[] }] 33 0 #[] #[])
  fields := #[]
  methods := #[k0m0]
  instanceTypes := #[]
  staticTypes := #[]
  resolved := Array.replicate 124 none
  statics := none }

def pool1 : Array CpInfo := pool [(2, .class_ 4), (1, u "java/lang/Object"), (0, u "<init>"), (0, u "()V"), (2, .methodref 10 11), (0, .class_ 12), (0, .nameAndType 13 14), (0, u "com/example/triplewright/triplewright/store/TripleStore$Order"), (0, u "covering"), (0, u "(III)Lcom/example/triplewright/triplewright/store/TripleStore$Order;"), (0, .fieldref 10 16), (0, .nameAndType 17 18), (0, u "positions"), (0, u "[I"), (0, .methodref 20 21), (0, .class_ 22), (0, .nameAndType 23 24), (0, u "com/example/triplewright/triplewright/store/OrderCoveringPinLaw"), (0, u "valid"), (0, u "(I)Z"), (0, .methodref 20 26), (0, .nameAndType 27 28), (0, u "fixed"), (0, u "(I)I"), (0, .methodref 20 30), (0, .nameAndType 31 32), (0, u "pick"), (0, u "(IIII)I"), (2, u "law"), (0, u "(IIII)Z")] 6

def k1m0 : Method := { name := "<init>", desc := "()V", sig := { parameters := [], returnType := none }, accessFlags := 1, code := none }
def k1c1 : Code := { maxStack := 4, maxLocals := 10, code := code, exceptionTable := #[], attributes := #[] }
def k1m1 : Method := { name := "law", desc := "(IIII)Z", sig := { parameters := [.int, .int, .int, .int], returnType := some .boolean }, accessFlags := 9, code := some k1c1 }
def k1c2 : Code := { maxStack := 2, maxLocals := 1, code := method_3_code, exceptionTable := #[], attributes := #[] }
def k1m2 : Method := { name := "valid", desc := "(I)Z", sig := { parameters := [.int], returnType := some .boolean }, accessFlags := 10, code := some k1c2 }
def k1c3 : Code := { maxStack := 2, maxLocals := 1, code := method_4_code, exceptionTable := #[], attributes := #[] }
def k1m3 : Method := { name := "fixed", desc := "(I)I", sig := { parameters := [.int], returnType := some .int }, accessFlags := 10, code := some k1c3 }
def k1c4 : Code := { maxStack := 2, maxLocals := 4, code := method_5_code, exceptionTable := #[], attributes := #[] }
def k1m4 : Method := { name := "pick", desc := "(IIII)I", sig := { parameters := [.int, .int, .int, .int], returnType := some .int }, accessFlags := 10, code := some k1c4 }
/-- com/example/triplewright/triplewright/store/OrderCoveringPinLaw -/
def k1 : Class := { plain "com/example/triplewright/triplewright/store/OrderCoveringPinLaw" (some 0) with
  accessFlags := 49
  interfaces := #[]
  cf := some (fileOf pool1 20 #[] #[{ accessFlags := 1, nameIndex := 5, descriptorIndex := 6, attributes := #[] }, { accessFlags := 9, nameIndex := 35, descriptorIndex := 36, attributes := #[] }, { accessFlags := 10, nameIndex := 23, descriptorIndex := 24, attributes := #[] }, { accessFlags := 10, nameIndex := 27, descriptorIndex := 28, attributes := #[] }, { accessFlags := 10, nameIndex := 31, descriptorIndex := 32, attributes := #[] }] 49 2 #[] #[])
  fields := #[]
  methods := #[k1m0, k1m1, k1m2, k1m3, k1m4]
  instanceTypes := #[]
  staticTypes := #[]
  resolved := Array.replicate 43 none
  statics := none }

def pool2 : Array CpInfo := pool [(1, .class_ 2), (0, u "java/lang/constant/Constable"), (0, .class_ 4), (0, u "java/lang/Object")] 6

/-- java/lang/constant/Constable -/
def k2 : Class := { plain "java/lang/constant/Constable" (some 0) with
  accessFlags := 1537
  interfaces := #[]
  cf := some (fileOf pool2 1 #[] #[] 1537 3 #[] #[])
  fields := #[]
  methods := #[]
  instanceTypes := #[]
  staticTypes := #[]
  resolved := Array.replicate 11 none
  statics := none }

def pool3 : Array CpInfo := pool [(1, .class_ 2), (0, u "java/lang/Comparable"), (0, .class_ 4), (0, u "java/lang/Object")] 7

/-- java/lang/Comparable -/
def k3 : Class := { plain "java/lang/Comparable" (some 0) with
  accessFlags := 1537
  interfaces := #[]
  cf := some (fileOf pool3 1 #[] #[] 1537 3 #[] #[])
  fields := #[]
  methods := #[]
  instanceTypes := #[]
  staticTypes := #[]
  resolved := Array.replicate 12 none
  statics := none }

def pool4 : Array CpInfo := pool [(1, .class_ 2), (0, u "java/io/Serializable"), (0, .class_ 4), (0, u "java/lang/Object")] 2

/-- java/io/Serializable -/
def k4 : Class := { plain "java/io/Serializable" (some 0) with
  accessFlags := 1537
  interfaces := #[]
  cf := some (fileOf pool4 1 #[] #[] 1537 3 #[] #[])
  fields := #[]
  methods := #[]
  instanceTypes := #[]
  staticTypes := #[]
  resolved := Array.replicate 7 none
  statics := none }

def pool5 : Array CpInfo := pool [(2, .class_ 4), (1, u "java/lang/Enum"), (0, u "name"), (0, u "Ljava/lang/String;"), (2, u "ordinal"), (0, u "I"), (1, .class_ 14), (1, u "java/lang/Object"), (4, u "hash"), (86, .class_ 108), (1, u "java/lang/Enum$EnumDesc"), (2, .class_ 112), (0, u "java/lang/constant/Constable"), (0, .class_ 114), (0, u "java/lang/Comparable"), (0, .class_ 116), (0, u "java/io/Serializable")] 87

/-- java/lang/Enum -/
def k5 : Class := { plain "java/lang/Enum" (some 0) with
  accessFlags := 1057
  interfaces := #[2, 3, 4]
  cf := some (fileOf pool5 2 #[.nestMembers #[106]] #[] 1057 12 #[111, 113, 115] #[{ accessFlags := 18, nameIndex := 5, descriptorIndex := 6, attributes := #[] }, { accessFlags := 18, nameIndex := 9, descriptorIndex := 10, attributes := #[] }, { accessFlags := 2, nameIndex := 19, descriptorIndex := 10, attributes := #[] }])
  fields := #[{ name := "name", type := (.object "java/lang/String"), accessFlags := 18, slot := 0, constantValue := 0 }, { name := "ordinal", type := .int, accessFlags := 18, slot := 1, constantValue := 0 }, { name := "hash", type := .int, accessFlags := 2, slot := 2, constantValue := 0 }]
  methods := #[]
  instanceTypes := #[(.object "java/lang/String"), .int, .int]
  staticTypes := #[]
  resolved := Array.replicate 204 none
  statics := none }

def pool6 : Array CpInfo := pool [(1, .class_ 2), (0, u "com/example/triplewright/triplewright/store/TripleStore"), (0, .class_ 4), (0, u "com/example/triplewright/triplewright/store/TripleStore$Order"), (0, .fieldref 3 6), (0, .nameAndType 7 8), (0, u "SPO"), (0, u "Lcom/example/triplewright/triplewright/store/TripleStore$Order;"), (0, .fieldref 3 10), (0, .nameAndType 11 8), (0, u "POS"), (0, .fieldref 3 13), (0, .nameAndType 14 8), (0, u "OSP"), (2, u "$VALUES"), (0, u "[Lcom/example/triplewright/triplewright/store/TripleStore$Order;"), (6, .class_ 27), (1, u "java/lang/Enum"), (8, u "columns"), (0, u "[I"), (2, u "positions"), (23, u "covering"), (0, u "(III)Lcom/example/triplewright/triplewright/store/TripleStore$Order;")] 8

def k6c0 : Code := { maxStack := 2, maxLocals := 3, code := prog_153_method_5_code, exceptionTable := #[], attributes := #[] }
def k6m0 : Method := { name := "covering", desc := "(III)Lcom/example/triplewright/triplewright/store/TripleStore$Order;", sig := { parameters := [.int, .int, .int], returnType := some (.object "com/example/triplewright/triplewright/store/TripleStore$Order") }, accessFlags := 8, code := some k6c0 }
/-- com/example/triplewright/triplewright/store/TripleStore$Order -/
def k6 : Class := { plain "com/example/triplewright/triplewright/store/TripleStore$Order" (some 5) with
  accessFlags := 16432
  interfaces := #[]
  cf := some (fileOf pool6 3 #[.nestHost 1] #[{ accessFlags := 8, nameIndex := 64, descriptorIndex := 65, attributes := #[] }] 16432 25 #[] #[{ accessFlags := 16409, nameIndex := 7, descriptorIndex := 8, attributes := #[] }, { accessFlags := 16409, nameIndex := 11, descriptorIndex := 8, attributes := #[] }, { accessFlags := 16409, nameIndex := 14, descriptorIndex := 8, attributes := #[] }, { accessFlags := 16, nameIndex := 40, descriptorIndex := 37, attributes := #[] }, { accessFlags := 16, nameIndex := 36, descriptorIndex := 37, attributes := #[] }, { accessFlags := 4122, nameIndex := 17, descriptorIndex := 18, attributes := #[] }])
  fields := #[{ name := "SPO", type := (.object "com/example/triplewright/triplewright/store/TripleStore$Order"), accessFlags := 16409, slot := 0, constantValue := 0 }, { name := "POS", type := (.object "com/example/triplewright/triplewright/store/TripleStore$Order"), accessFlags := 16409, slot := 1, constantValue := 0 }, { name := "OSP", type := (.object "com/example/triplewright/triplewright/store/TripleStore$Order"), accessFlags := 16409, slot := 2, constantValue := 0 }, { name := "positions", type := (.array .int), accessFlags := 16, slot := 3, constantValue := 0 }, { name := "columns", type := (.array .int), accessFlags := 16, slot := 4, constantValue := 0 }, { name := "$VALUES", type := (.array (.object "com/example/triplewright/triplewright/store/TripleStore$Order")), accessFlags := 4122, slot := 3, constantValue := 0 }]
  methods := #[k6m0]
  instanceTypes := #[(.object "java/lang/String"), .int, .int, (.array .int), (.array .int)]
  staticTypes := #[(.object "com/example/triplewright/triplewright/store/TripleStore$Order"), (.object "com/example/triplewright/triplewright/store/TripleStore$Order"), (.object "com/example/triplewright/triplewright/store/TripleStore$Order"), (.array (.object "com/example/triplewright/triplewright/store/TripleStore$Order"))]
  resolved := Array.replicate 74 none
  statics := some 0 }

def pool7 : Array CpInfo := pool [(1, u "java/lang/Cloneable"), (0, .class_ 1), (0, u "java/lang/Object"), (0, .class_ 3)] 3

/-- java/lang/Cloneable -/
def k7 : Class := { plain "java/lang/Cloneable" (some 0) with
  accessFlags := 1537
  interfaces := #[]
  cf := some (fileOf pool7 2 #[] #[] 1537 4 #[] #[])
  fields := #[]
  methods := #[]
  instanceTypes := #[]
  staticTypes := #[]
  resolved := Array.replicate 8 none
  statics := none }

/-- the primitive byte -/
def k8 : Class := { plain "byte" none with kind := .primitive 'B', accessFlags := 0x411 }
/-- [B -/
def k9 : Class := { plain "[B" (some 0) with kind := .array 8 .byte, interfaces := #[7, 4], accessFlags := 1041 }

/-- the primitive int -/
def k10 : Class := { plain "int" none with kind := .primitive 'I', accessFlags := 0x411 }
/-- [I -/
def k11 : Class := { plain "[I" (some 0) with kind := .array 10 .int, interfaces := #[7, 4], accessFlags := 1041 }

def heap : Heap := #[{ cls := 6, slots := #[.ref 4, .ref 5, .ref 6, .null], vm := .statics 6 },
  { cls := 11, slots := #[.int 0, .int 1, .int 2], vm := .none },
  { cls := 11, slots := #[.int 1, .int 2, .int 0], vm := .none },
  { cls := 11, slots := #[.int 2, .int 0, .int 1], vm := .none },
  { cls := 6, slots := #[.null, .int 0, .int 0, .ref 1, .null], vm := .none },
  { cls := 6, slots := #[.null, .int 1, .int 0, .ref 2, .null], vm := .none },
  { cls := 6, slots := #[.null, .int 2, .int 0, .ref 3, .null], vm := .none }]
def classes : Array Class := #[k0, k1, k2, k3, k4, k5, k6, k7, k8, k9, k10, k11]
def interned : List (Array UInt16 × Addr) := []
def slotsUsed : Nat := 28
def theMethod : MethodId := ⟨1, 1⟩
def args0 : Array Value := #[.int 5, .int 6, .int 7, .int 0]
def aboutOver (below : List Frame) : State where
  vm := { classes := classes, interned := interned.toArray }
  heap := heap
  slotsUsed := slotsUsed
  threads := #[{ frames := .invoking theMethod args0 :: below }]
def below0 : List Frame := [.native { method := ⟨0, 0⟩, args := #[] }]
def about1 : State := aboutOver below0
def p0 : Program := .bare "" "" ""
def e0 : Env := launch0.env 0 0 0
theorem w_frames : about1.frames = Frame.invoking theMethod args0 :: below0 := rfl
set_option maxRecDepth 65536 in
theorem w_args : argsFit about1.vm theMethod args0 = true := by decide +kernel
set_option maxRecDepth 65536 in
theorem w_heap : heapFits about1 = true := by decide +kernel
set_option maxRecDepth 65536 in
theorem w_runnable : about1.curStatus? = some .runnable := by decide +kernel
set_option maxRecDepth 65536 in
theorem w_alone : about1.alone = true := by decide +kernel
set_option maxRecDepth 65536 in
theorem w_named : about1.methodNamed? x = some theMethod := by decide +kernel
set_option maxRecDepth 65536 in
theorem w_hears : about1.hears theMethod below0 = true := by decide +kernel
set_option maxRecDepth 65536 in
theorem w_ripe : about1.ripe theMethod args0 below0 = true := by decide +kernel
theorem w_running : about1.status = .running := rfl
set_option maxRecDepth 65536 in
theorem w_room : about1.hasRoom e0.platform room_1 = true :=
  launch0.hasRoom_least _ room_1 (by decide +kernel) (by decide +kernel) (by decide +kernel) (by decide +kernel) (by decide +kernel) (by decide +kernel)
theorem allAtoms_all (ts : List Jvm.Cond) (a : Array Jvm.Value) (st : Jvm.State) : (allAtoms ts).before a st = ts.all (fun c => c.before a st) := by
  induction ts with
  | nil => rfl
  | cons c t ih =>
    show (Jvm.Cond.and c (allAtoms t)).before a st = _
    rw [Jvm.Cond.before_and, ih, List.all_cons]
def words1 : List Jvm.Cond := Jvm.Cond.code x code maxLocals ret :: tables_1
/-- a 'code' word, met by the world's own term for the bytes: nothing is compared byte by byte -/
theorem code_word {y : MethodName} {bytes : ByteArray} {mx : Nat} {rt : Option FieldType} {a : Array Value} {s : State} {m : MethodId} {meth : Method} {c : Code} (h1 : s.methodNamed? y = some m) (h2 : s.vm.method? m = some meth) (h3 : meth.code = some c) (h4 : c.code = bytes)
    (h5 : (c.maxLocals == mx && c.exceptionTable.isEmpty && decide (c.maxStack ≤ mostOperands) && decide (meth.sig.returnType = rt) && !meth.locks && decide (parseMethodDescriptor y.desc = some meth.sig)) = true) : (Jvm.Cond.code y bytes mx rt).before a s = true := by
  simp only [Bool.and_eq_true, beq_iff_eq, Bool.not_eq_true', decide_eq_true_eq] at h5
  obtain ⟨⟨⟨⟨⟨g1, g2⟩, g3⟩, g4⟩, g5⟩, g6⟩ := h5
  simp [Cond.before, Cond.holds, Cond.value, h1, h2, h3, h4, g1, g2, g3, g4, g5, g6]
def isCode : Jvm.Cond → Bool
  | .code _ _ _ _ => true
  | _ => false
theorem all_split {L : List Jvm.Cond} {P : Jvm.Cond → Bool} (h1 : L.all (fun c => isCode c || P c) = true) (h2 : ∀ c ∈ L.filter isCode, P c = true) : L.all P = true := by
  refine List.all_eq_true.mpr fun c hc => ?_
  have h := List.all_eq_true.mp h1 c hc
  rcases Bool.eq_false_or_eq_true (isCode c) with hi | hi
  · exact h2 c (List.mem_filter.mpr ⟨hc, hi⟩)
  · simpa [hi] using h
set_option maxRecDepth 65536 in
theorem w_c0 : (Jvm.Cond.code x code maxLocals ret).before args0 about1 = true := code_word (m := ⟨1, 1⟩) (meth := k1m1) (c := k1c1) (by decide +kernel) rfl rfl rfl (by decide +kernel)
set_option maxRecDepth 65536 in
theorem w_c1 : (Jvm.Cond.code ({ cls := "com/example/triplewright/triplewright/store/TripleStore$Order", name := "covering", desc := "(III)Lcom/example/triplewright/triplewright/store/TripleStore$Order;" } : Jvm.MethodName) prog_153_method_5_code (3 : Nat) (Option.some (Jvm.ClassFile.FieldType.object "com/example/triplewright/triplewright/store/TripleStore$Order"))).before args0 about1 = true := code_word (m := ⟨6, 0⟩) (meth := k6m0) (c := k6c0) (by decide +kernel) rfl rfl rfl (by decide +kernel)
set_option maxRecDepth 65536 in
theorem w_c2 : (Jvm.Cond.code ({ cls := "com/example/triplewright/triplewright/store/OrderCoveringPinLaw", name := "valid", desc := "(I)Z" } : Jvm.MethodName) method_3_code (1 : Nat) (Option.some Jvm.ClassFile.FieldType.boolean)).before args0 about1 = true := code_word (m := ⟨1, 2⟩) (meth := k1m2) (c := k1c2) (by decide +kernel) rfl rfl rfl (by decide +kernel)
set_option maxRecDepth 65536 in
theorem w_c3 : (Jvm.Cond.code ({ cls := "com/example/triplewright/triplewright/store/OrderCoveringPinLaw", name := "fixed", desc := "(I)I" } : Jvm.MethodName) method_4_code (1 : Nat) (Option.some Jvm.ClassFile.FieldType.int)).before args0 about1 = true := code_word (m := ⟨1, 3⟩) (meth := k1m3) (c := k1c3) (by decide +kernel) rfl rfl rfl (by decide +kernel)
set_option maxRecDepth 65536 in
theorem w_c4 : (Jvm.Cond.code ({ cls := "com/example/triplewright/triplewright/store/OrderCoveringPinLaw", name := "pick", desc := "(IIII)I" } : Jvm.MethodName) method_5_code (4 : Nat) (Option.some Jvm.ClassFile.FieldType.int)).before args0 about1 = true := code_word (m := ⟨1, 4⟩) (meth := k1m4) (c := k1c4) (by decide +kernel) rfl rfl rfl (by decide +kernel)
def codes1 : List Jvm.Cond := [Jvm.Cond.code x code maxLocals ret, Jvm.Cond.code ({ cls := "com/example/triplewright/triplewright/store/TripleStore$Order", name := "covering", desc := "(III)Lcom/example/triplewright/triplewright/store/TripleStore$Order;" } : Jvm.MethodName) prog_153_method_5_code (3 : Nat) (Option.some (Jvm.ClassFile.FieldType.object "com/example/triplewright/triplewright/store/TripleStore$Order")), Jvm.Cond.code ({ cls := "com/example/triplewright/triplewright/store/OrderCoveringPinLaw", name := "valid", desc := "(I)Z" } : Jvm.MethodName) method_3_code (1 : Nat) (Option.some Jvm.ClassFile.FieldType.boolean), Jvm.Cond.code ({ cls := "com/example/triplewright/triplewright/store/OrderCoveringPinLaw", name := "fixed", desc := "(I)I" } : Jvm.MethodName) method_4_code (1 : Nat) (Option.some Jvm.ClassFile.FieldType.int), Jvm.Cond.code ({ cls := "com/example/triplewright/triplewright/store/OrderCoveringPinLaw", name := "pick", desc := "(IIII)I" } : Jvm.MethodName) method_5_code (4 : Nat) (Option.some Jvm.ClassFile.FieldType.int)]
set_option maxRecDepth 65536 in
theorem codes_eq : words1.filter isCode = codes1 := rfl
theorem w_codes : ∀ c ∈ words1.filter isCode, c.before args0 about1 = true := by
  rw [codes_eq]
  intro c hc
  simp only [codes1, List.mem_cons, List.not_mem_nil, or_false] at hc
  rcases hc with rfl | rfl | rfl | rfl | rfl
  · exact w_c0
  · exact w_c1
  · exact w_c2
  · exact w_c3
  · exact w_c4
set_option maxRecDepth 65536 in
theorem w_t1 : words1.all (fun c => isCode c || c.before args0 about1) = true := by decide +kernel
theorem w_tables : (allAtoms (Jvm.Cond.code x code maxLocals ret :: tables_1)).before args0 about1 = true := by
  rw [allAtoms_all]
  show words1.all (fun c => c.before args0 about1) = true
  refine all_split ?_ w_codes
  rw [w_t1]
set_option maxRecDepth 65536 in
theorem w_case : (Jvm.Cond.and given_1 narrow_1).before args0 about1 = true := by decide +kernel
theorem w_applies : (headSpec (Jvm.Cond.code x code maxLocals ret :: tables_1) room_1).applies x e0.platform about1 = true :=
  (Spec.applies_iff w_frames).mpr ⟨w_running, w_runnable, w_alone, w_named, w_hears, w_ripe, w_room, w_tables⟩
theorem atStart : AtStart classFile x code maxLocals ret World_1 tables_1 room_1 Calls_1 rest_1 Pre_1 launch0 p0 e0 about1 theMethod args0 below0 :=
  ⟨lists_1, trivial, launch0.admits_env _ _ _, launch0.least_env, fairChoices_fair.cas, fairChoices_fair.clock, w_frames, w_args, w_heap, w_applies, trivial, trivial, w_case⟩
end start1
theorem witness_1 : WitnessClaimed_1 := ⟨start1.p0, start1.e0, start1.about1, start1.theMethod, start1.args0, start1.below0, start1.atStart⟩
end Jvm.Pilot.@@N@@
