import JvmDerived
import JvmDerived.Pilot.@@N@@Statement
import JvmDerived.Pilot.@@N@@Code
set_option linter.unusedVariables false
set_option linter.unusedSimpArgs false
@@BLOCK:NumsL.lean.txt@@
namespace Jvm.RoadKit
open Sem ClassFile Op Lib Jvm.Stand Jvm.Free Jvm.LawKit
section New
variable {p : Program} {l : Launch} {e : Env} {R : Room} {s : State} {m : MethodId} {args : Array Value} {below : List Frame} {meth : Method} {c : Code} {T : State} {locs : List Loc} {cells slots : Nat}
theorem retI (X : Stand p l e R s m args below meth c T locs cells slots) (hx : p.tables.exec = Jvm.exec) {pc : Nat} {Ls : Array Slot} {z : Int32} {rest : List Value} (hret : meth.sig.returnType = some .int) (hd : decode c.code pc = .ok (.ireturn, 1)) {fs : List Frame}
    (hl : ∀ (f : JFrame) (acts : List Action), f.method = m → f.locked = none → f.entered = [] → (doReturn e (T.setTop f) acts (some (.int z))).1 = T.setFrames fs) : Steps p.tables e below (T.setTop (mkF m pc Ls (.int z :: rest))) (T.setFrames fs) := by
  have hm' : T.vm.method? m = some meth := X.method'
  have hn : narrow .int (.int z) = .int z := rfl
  show Steps p.tables e below (T.setTop { method := m, pc := pc, locals := Ls, stack := _ :: rest, locked := none }) _
  jvm_step X.here [X.here.top, hx, hd, hm', hret, hn]
  first | (intro acts; rw [hl _ acts rfl rfl rfl]) | rw [hl _ _ rfl rfl rfl]
  exact Steps.refl _
end New
end Jvm.RoadKit
namespace Jvm.Pilot.@@N@@
open Jvm Jvm.ClassFile Sem Op Lib Jvm.Free Jvm.Stand Jvm.LawKit Jvm.RoadKit Bundle Jvm.Pilot.@@N@@.Jvm.D
/-- from F on the run comes to the method's end, and K holds there -/
def own_Go (tb : Tables) (e : Env) (below : List Frame) (F : State) (K : Outcome → State → Prop) : Prop := ∃ t o, Steps tb e below F t ∧ t.status = .running ∧ Ended t below o ∧ K o t
theorem own_via {tb : Tables} {e : Env} {below : List Frame} {F G : State} {K : Outcome → State → Prop} (h : ∀ t, Steps tb e below G t → Steps tb e below F t) (k : own_Go tb e below G K) : own_Go tb e below F K := by
  obtain ⟨t, o, h1, h2⟩ := k
  exact ⟨t, o, h t h1, h2⟩
/-- what is asked at the end: it has returned, Q holds of the value, the heap and what was written -/
def own_K (s : State) (Q : Option Value → Heap → List Loc → Prop) (kc ks : Nat) (o : Outcome) (t : State) : Prop := ∃ v L, o = .returned v ∧ Q v t.heap L ∧ FrameEnd s o t L kc ks
/-- what a walk knows of its method all along -/
def own_C (p : Program) (s : State) (m : MethodId) (meth : Method) (c : Code) (Z : State) (a0 : Array Value) (bytes : ByteArray) (ml : Nat) (cls : String) (rt : Option FieldType) (nme : String) : Prop :=
  p.tables.exec = Jvm.exec ∧ Z.Warmed39 s.vm ∧ (∀ d ∈ tables_1, d.before a0 Z = true) ∧ c.code = bytes ∧ c.maxLocals = ml ∧ s.vm.findClass cls = some m.cls ∧ meth.sig.returnType = rt ∧ meth.locks = false ∧ meth.name = nme
theorem own_fin {p : Program} {l : Launch} {e : Env} {R : Room} {s : State} {m : MethodId} {args : Array Value} {below : List Frame} {meth : Method} {c : Code} {T : State} {locs : List Loc} {cells slots : Nat} (X : Stand p l e R s m args below meth c T locs cells slots) {F : State} {h : Heap} (eh : T.heap = h) {v : Option Value} {Q : Option Value → Heap → List Loc → Prop} {kc ks : Nat} (hv : meth.sig.returnType = none → v = none) (hlk : meth.locks = false)
    (hstep : ∀ fs, (∀ (f : JFrame) (acts : List Action), f.method = m → f.locked = none → f.entered = [] → (doReturn e (T.setTop f) acts v).1 = T.setFrames fs) → Steps p.tables e below F (T.setFrames fs)) (q : Q v h locs) (hc : cells ≤ kc) (hs : slots ≤ ks) : own_Go p.tables e below F (own_K s Q kc ks) := by
  obtain ⟨fs, hr, hrun, hended, hW, hsame⟩ := X.leave (v := v) hv hlk
  subst eh
  exact ⟨_, _, hstep fs hr, hrun, hended, _, _, rfl, q, ⟨_, rfl⟩, hW, hsame.mono hc hs⟩
theorem own_len {p : Program} {l : Launch} {e : Env} {R : Room} {s : State} {m : MethodId} {args : Array Value} {below : List Frame} {meth : Method} {c : Code} {T : State} {locs : List Loc} {cells slots : Nat} {Z : State} {h : Heap} (X : Stand p l e R s m args below meth c T locs cells slots) (hx : p.tables.exec = Jvm.exec) (hZ : Z.Warmed39 s.vm) (eT : T.heap = h) {a : Addr} {cl : Cell} {ty : FieldType} {n : Int32} (A : Arr Z h a cl ty) (S : cl.slots.size = n.toNatClampNeg) (N : ¬ n < 0)
    {g : JFrame} (hg : g.method = m) {rest : List Value} (hs : g.stack = .ref a :: rest) (hd : decode c.code g.pc = .ok (.arraylength, 1)) {t : State} (k : Steps p.tables e below (T.setTop { g with pc := g.pc + 1, stack := .int n :: rest }) t) : Steps p.tables e below (T.setTop g) t := by
  refine X.arraylength hx (by rw [eT]; exact A.1) (State.isArrayOf_alike hZ.alike A.2.1) hg hs hd _ ?_
  rw [len_of S N]
  exact k
theorem own_ne {c k : Int32} (h : ¬ c = k) : ¬ k.toInt = c.toInt := fun e => h (Int32.toInt_inj.mp e.symm)
def own_iri (ch : Int32) : Int32 := (if ch = (34 : Int32) then (0 : Int32) else (if ch = (60 : Int32) then (0 : Int32) else (if ch = (62 : Int32) then (0 : Int32) else (if ch = (92 : Int32) then (0 : Int32) else (if ch = (94 : Int32) then (0 : Int32) else (if ch = (96 : Int32) then (0 : Int32) else (if ch = (123 : Int32) then (0 : Int32) else (if ch = (124 : Int32) then (0 : Int32) else (if ch = (125 : Int32) then (0 : Int32) else (if (32 : Int32) < ch then (1 : Int32) else (0 : Int32)))))))))))
def Q1 (Z : State) (ch : Int32) (h0 : Heap) (n0 : Nat) (v : Option Value) (h : Heap) (L : List Loc) : Prop := v = some (.int (own_iri ch)) ∧ Fr n0 L ∧ h = h0
theorem d1_0 : decode prog_156_method_11_code 0 = .ok (.iload_n 0, 1) := by decide +kernel
theorem d1_1 : decode prog_156_method_11_code 1 = .ok (.lookupswitch 87 #[(34, 83), (60, 83), (62, 83), (92, 83), (94, 83), (96, 83), (123, 83), (124, 83), (125, 83)], 83) := by decide +kernel
theorem d1_84 : decode prog_156_method_11_code 84 = .ok (.iconst 0, 1) := by decide +kernel
theorem d1_85 : decode prog_156_method_11_code 85 = .ok (.goto 14, 3) := by decide +kernel
theorem d1_99 : decode prog_156_method_11_code 99 = .ok (.ireturn, 1) := by decide +kernel
theorem d1_88 : decode prog_156_method_11_code 88 = .ok (.iload_n 0, 1) := by decide +kernel
theorem d1_89 : decode prog_156_method_11_code 89 = .ok (.bipush 32, 2) := by decide +kernel
theorem d1_91 : decode prog_156_method_11_code 91 = .ok (.if_icmp .le 7, 3) := by decide +kernel
theorem d1_94 : decode prog_156_method_11_code 94 = .ok (.iconst 1, 1) := by decide +kernel
theorem d1_95 : decode prog_156_method_11_code 95 = .ok (.goto 4, 3) := by decide +kernel
theorem d1_98 : decode prog_156_method_11_code 98 = .ok (.iconst 0, 1) := by decide +kernel
set_option maxRecDepth 65536 in
set_option maxHeartbeats 40000000 in
theorem b1 {p : Program} {l : Launch} {e : Env} {s : State} {m : MethodId} {args : Array Value} {below : List Frame} {meth : Method} {c : Code} {T0 : State} {locs : List Loc} {Z : State} {a0 : Array Value} {h0 : Heap} {n0 : Nat} (ch : Int32)
    (C : own_C p s m meth c Z a0 prog_156_method_11_code 1 site_15.cls (some .boolean) "isIriChar") (X0 : Stand p l e ({ frames := 0, cells := 0, slots := 0, locals := 0 } : Room) s m args below meth c T0 locs 0 0) (e0 : T0.heap = h0) (Z0 : n0 ≤ h0.size) (N0 : Fr n0 locs) :
    own_Go p.tables e below (T0.setTop (mkF m 0 #[.val (.int ch)] [])) (own_K s (fun v h L => Q1 Z ch h0 n0 v h L) ({ frames := 0, cells := 0, slots := 0, locals := 0 } : Room).cells ({ frames := 0, cells := 0, slots := 0, locals := 0 } : Room).slots) := by
  obtain ⟨hx, hZ, hw, hby, hml, hown, hret, hlk, hnm⟩ := C
  refine own_via (G := T0.setTop (mkF m 1 #[.val (.int ch)] [(.int ch)])) (fun t k => XS.iloadN X0.here hx rfl (hb hby d1_0) rfl k) ?_
  by_cases hk34 : ch = (34 : Int32)
  · refine own_via (G := T0.setTop (mkF m 84 #[.val (.int ch)] [])) (fun t k => X0.lookupswitchHit hx (g := (mkF m 1 #[.val (.int ch)] [(.int ch)])) rfl rfl (hb hby d1_1) (by decide) (a := 34) (off := 83) (by rw [hk34]; decide) (show (0 : Int) ≤ (1 : Nat) + (83 : Int) by decide) t k) ?_
    refine own_via (G := T0.setTop (mkF m 85 #[.val (.int ch)] [(.int (0 : Int32))])) (fun t k => XS.iconst X0.here hx rfl (hb hby d1_84) k) ?_
    refine own_via (G := T0.setTop (mkF m 99 #[.val (.int ch)] [(.int (0 : Int32))])) (fun t k => XS.goto X0.here hx rfl (pc0 := 85) (pc' := 99) rfl (hb hby d1_85) (by decide) (by decide) k) ?_
    exact own_fin X0 e0 (v := some (.int (0 : Int32))) (fun h => by rw [hret] at h; cases h) hlk (fun fs hr => retN X0 hx (t := .boolean) hret (by simp) (hb hby d1_99) hr) (show ((fun v h L => Q1 Z ch h0 n0 v h L)) (some (.int (0 : Int32))) h0 _ from ⟨(by unfold own_iri; rw [if_pos hk34]), N0, rfl⟩) (by decide) (by decide)
  · skip
    by_cases hk60 : ch = (60 : Int32)
    · refine own_via (G := T0.setTop (mkF m 84 #[.val (.int ch)] [])) (fun t k => X0.lookupswitchHit hx (g := (mkF m 1 #[.val (.int ch)] [(.int ch)])) rfl rfl (hb hby d1_1) (by decide) (a := 60) (off := 83) (by rw [hk60]; decide) (show (0 : Int) ≤ (1 : Nat) + (83 : Int) by decide) t k) ?_
      refine own_via (G := T0.setTop (mkF m 85 #[.val (.int ch)] [(.int (0 : Int32))])) (fun t k => XS.iconst X0.here hx rfl (hb hby d1_84) k) ?_
      refine own_via (G := T0.setTop (mkF m 99 #[.val (.int ch)] [(.int (0 : Int32))])) (fun t k => XS.goto X0.here hx rfl (pc0 := 85) (pc' := 99) rfl (hb hby d1_85) (by decide) (by decide) k) ?_
      exact own_fin X0 e0 (v := some (.int (0 : Int32))) (fun h => by rw [hret] at h; cases h) hlk (fun fs hr => retN X0 hx (t := .boolean) hret (by simp) (hb hby d1_99) hr) (show ((fun v h L => Q1 Z ch h0 n0 v h L)) (some (.int (0 : Int32))) h0 _ from ⟨(by unfold own_iri; rw [if_neg hk34, if_pos hk60]), N0, rfl⟩) (by decide) (by decide)
    · skip
      by_cases hk62 : ch = (62 : Int32)
      · refine own_via (G := T0.setTop (mkF m 84 #[.val (.int ch)] [])) (fun t k => X0.lookupswitchHit hx (g := (mkF m 1 #[.val (.int ch)] [(.int ch)])) rfl rfl (hb hby d1_1) (by decide) (a := 62) (off := 83) (by rw [hk62]; decide) (show (0 : Int) ≤ (1 : Nat) + (83 : Int) by decide) t k) ?_
        refine own_via (G := T0.setTop (mkF m 85 #[.val (.int ch)] [(.int (0 : Int32))])) (fun t k => XS.iconst X0.here hx rfl (hb hby d1_84) k) ?_
        refine own_via (G := T0.setTop (mkF m 99 #[.val (.int ch)] [(.int (0 : Int32))])) (fun t k => XS.goto X0.here hx rfl (pc0 := 85) (pc' := 99) rfl (hb hby d1_85) (by decide) (by decide) k) ?_
        exact own_fin X0 e0 (v := some (.int (0 : Int32))) (fun h => by rw [hret] at h; cases h) hlk (fun fs hr => retN X0 hx (t := .boolean) hret (by simp) (hb hby d1_99) hr) (show ((fun v h L => Q1 Z ch h0 n0 v h L)) (some (.int (0 : Int32))) h0 _ from ⟨(by unfold own_iri; rw [if_neg hk34, if_neg hk60, if_pos hk62]), N0, rfl⟩) (by decide) (by decide)
      · skip
        by_cases hk92 : ch = (92 : Int32)
        · refine own_via (G := T0.setTop (mkF m 84 #[.val (.int ch)] [])) (fun t k => X0.lookupswitchHit hx (g := (mkF m 1 #[.val (.int ch)] [(.int ch)])) rfl rfl (hb hby d1_1) (by decide) (a := 92) (off := 83) (by rw [hk92]; decide) (show (0 : Int) ≤ (1 : Nat) + (83 : Int) by decide) t k) ?_
          refine own_via (G := T0.setTop (mkF m 85 #[.val (.int ch)] [(.int (0 : Int32))])) (fun t k => XS.iconst X0.here hx rfl (hb hby d1_84) k) ?_
          refine own_via (G := T0.setTop (mkF m 99 #[.val (.int ch)] [(.int (0 : Int32))])) (fun t k => XS.goto X0.here hx rfl (pc0 := 85) (pc' := 99) rfl (hb hby d1_85) (by decide) (by decide) k) ?_
          exact own_fin X0 e0 (v := some (.int (0 : Int32))) (fun h => by rw [hret] at h; cases h) hlk (fun fs hr => retN X0 hx (t := .boolean) hret (by simp) (hb hby d1_99) hr) (show ((fun v h L => Q1 Z ch h0 n0 v h L)) (some (.int (0 : Int32))) h0 _ from ⟨(by unfold own_iri; rw [if_neg hk34, if_neg hk60, if_neg hk62, if_pos hk92]), N0, rfl⟩) (by decide) (by decide)
        · skip
          by_cases hk94 : ch = (94 : Int32)
          · refine own_via (G := T0.setTop (mkF m 84 #[.val (.int ch)] [])) (fun t k => X0.lookupswitchHit hx (g := (mkF m 1 #[.val (.int ch)] [(.int ch)])) rfl rfl (hb hby d1_1) (by decide) (a := 94) (off := 83) (by rw [hk94]; decide) (show (0 : Int) ≤ (1 : Nat) + (83 : Int) by decide) t k) ?_
            refine own_via (G := T0.setTop (mkF m 85 #[.val (.int ch)] [(.int (0 : Int32))])) (fun t k => XS.iconst X0.here hx rfl (hb hby d1_84) k) ?_
            refine own_via (G := T0.setTop (mkF m 99 #[.val (.int ch)] [(.int (0 : Int32))])) (fun t k => XS.goto X0.here hx rfl (pc0 := 85) (pc' := 99) rfl (hb hby d1_85) (by decide) (by decide) k) ?_
            exact own_fin X0 e0 (v := some (.int (0 : Int32))) (fun h => by rw [hret] at h; cases h) hlk (fun fs hr => retN X0 hx (t := .boolean) hret (by simp) (hb hby d1_99) hr) (show ((fun v h L => Q1 Z ch h0 n0 v h L)) (some (.int (0 : Int32))) h0 _ from ⟨(by unfold own_iri; rw [if_neg hk34, if_neg hk60, if_neg hk62, if_neg hk92, if_pos hk94]), N0, rfl⟩) (by decide) (by decide)
          · skip
            by_cases hk96 : ch = (96 : Int32)
            · refine own_via (G := T0.setTop (mkF m 84 #[.val (.int ch)] [])) (fun t k => X0.lookupswitchHit hx (g := (mkF m 1 #[.val (.int ch)] [(.int ch)])) rfl rfl (hb hby d1_1) (by decide) (a := 96) (off := 83) (by rw [hk96]; decide) (show (0 : Int) ≤ (1 : Nat) + (83 : Int) by decide) t k) ?_
              refine own_via (G := T0.setTop (mkF m 85 #[.val (.int ch)] [(.int (0 : Int32))])) (fun t k => XS.iconst X0.here hx rfl (hb hby d1_84) k) ?_
              refine own_via (G := T0.setTop (mkF m 99 #[.val (.int ch)] [(.int (0 : Int32))])) (fun t k => XS.goto X0.here hx rfl (pc0 := 85) (pc' := 99) rfl (hb hby d1_85) (by decide) (by decide) k) ?_
              exact own_fin X0 e0 (v := some (.int (0 : Int32))) (fun h => by rw [hret] at h; cases h) hlk (fun fs hr => retN X0 hx (t := .boolean) hret (by simp) (hb hby d1_99) hr) (show ((fun v h L => Q1 Z ch h0 n0 v h L)) (some (.int (0 : Int32))) h0 _ from ⟨(by unfold own_iri; rw [if_neg hk34, if_neg hk60, if_neg hk62, if_neg hk92, if_neg hk94, if_pos hk96]), N0, rfl⟩) (by decide) (by decide)
            · skip
              by_cases hk123 : ch = (123 : Int32)
              · refine own_via (G := T0.setTop (mkF m 84 #[.val (.int ch)] [])) (fun t k => X0.lookupswitchHit hx (g := (mkF m 1 #[.val (.int ch)] [(.int ch)])) rfl rfl (hb hby d1_1) (by decide) (a := 123) (off := 83) (by rw [hk123]; decide) (show (0 : Int) ≤ (1 : Nat) + (83 : Int) by decide) t k) ?_
                refine own_via (G := T0.setTop (mkF m 85 #[.val (.int ch)] [(.int (0 : Int32))])) (fun t k => XS.iconst X0.here hx rfl (hb hby d1_84) k) ?_
                refine own_via (G := T0.setTop (mkF m 99 #[.val (.int ch)] [(.int (0 : Int32))])) (fun t k => XS.goto X0.here hx rfl (pc0 := 85) (pc' := 99) rfl (hb hby d1_85) (by decide) (by decide) k) ?_
                exact own_fin X0 e0 (v := some (.int (0 : Int32))) (fun h => by rw [hret] at h; cases h) hlk (fun fs hr => retN X0 hx (t := .boolean) hret (by simp) (hb hby d1_99) hr) (show ((fun v h L => Q1 Z ch h0 n0 v h L)) (some (.int (0 : Int32))) h0 _ from ⟨(by unfold own_iri; rw [if_neg hk34, if_neg hk60, if_neg hk62, if_neg hk92, if_neg hk94, if_neg hk96, if_pos hk123]), N0, rfl⟩) (by decide) (by decide)
              · skip
                by_cases hk124 : ch = (124 : Int32)
                · refine own_via (G := T0.setTop (mkF m 84 #[.val (.int ch)] [])) (fun t k => X0.lookupswitchHit hx (g := (mkF m 1 #[.val (.int ch)] [(.int ch)])) rfl rfl (hb hby d1_1) (by decide) (a := 124) (off := 83) (by rw [hk124]; decide) (show (0 : Int) ≤ (1 : Nat) + (83 : Int) by decide) t k) ?_
                  refine own_via (G := T0.setTop (mkF m 85 #[.val (.int ch)] [(.int (0 : Int32))])) (fun t k => XS.iconst X0.here hx rfl (hb hby d1_84) k) ?_
                  refine own_via (G := T0.setTop (mkF m 99 #[.val (.int ch)] [(.int (0 : Int32))])) (fun t k => XS.goto X0.here hx rfl (pc0 := 85) (pc' := 99) rfl (hb hby d1_85) (by decide) (by decide) k) ?_
                  exact own_fin X0 e0 (v := some (.int (0 : Int32))) (fun h => by rw [hret] at h; cases h) hlk (fun fs hr => retN X0 hx (t := .boolean) hret (by simp) (hb hby d1_99) hr) (show ((fun v h L => Q1 Z ch h0 n0 v h L)) (some (.int (0 : Int32))) h0 _ from ⟨(by unfold own_iri; rw [if_neg hk34, if_neg hk60, if_neg hk62, if_neg hk92, if_neg hk94, if_neg hk96, if_neg hk123, if_pos hk124]), N0, rfl⟩) (by decide) (by decide)
                · skip
                  by_cases hk125 : ch = (125 : Int32)
                  · refine own_via (G := T0.setTop (mkF m 84 #[.val (.int ch)] [])) (fun t k => X0.lookupswitchHit hx (g := (mkF m 1 #[.val (.int ch)] [(.int ch)])) rfl rfl (hb hby d1_1) (by decide) (a := 125) (off := 83) (by rw [hk125]; decide) (show (0 : Int) ≤ (1 : Nat) + (83 : Int) by decide) t k) ?_
                    refine own_via (G := T0.setTop (mkF m 85 #[.val (.int ch)] [(.int (0 : Int32))])) (fun t k => XS.iconst X0.here hx rfl (hb hby d1_84) k) ?_
                    refine own_via (G := T0.setTop (mkF m 99 #[.val (.int ch)] [(.int (0 : Int32))])) (fun t k => XS.goto X0.here hx rfl (pc0 := 85) (pc' := 99) rfl (hb hby d1_85) (by decide) (by decide) k) ?_
                    exact own_fin X0 e0 (v := some (.int (0 : Int32))) (fun h => by rw [hret] at h; cases h) hlk (fun fs hr => retN X0 hx (t := .boolean) hret (by simp) (hb hby d1_99) hr) (show ((fun v h L => Q1 Z ch h0 n0 v h L)) (some (.int (0 : Int32))) h0 _ from ⟨(by unfold own_iri; rw [if_neg hk34, if_neg hk60, if_neg hk62, if_neg hk92, if_neg hk94, if_neg hk96, if_neg hk123, if_neg hk124, if_pos hk125]), N0, rfl⟩) (by decide) (by decide)
                  · skip
                    have hm : ∀ q ∈ (#[(34, 83), (60, 83), (62, 83), (92, 83), (94, 83), (96, 83), (123, 83), (124, 83), (125, 83)] : Array (Int × Int)).toList, q.1 ≠ ch.toInt := by
                      intro q hq
                      simp only [List.mem_cons, List.not_mem_nil, or_false] at hq
                      rcases hq with rfl | rfl | rfl | rfl | rfl | rfl | rfl | rfl | rfl
                      · exact own_ne hk34
                      · exact own_ne hk60
                      · exact own_ne hk62
                      · exact own_ne hk92
                      · exact own_ne hk94
                      · exact own_ne hk96
                      · exact own_ne hk123
                      · exact own_ne hk124
                      · exact own_ne hk125
                    refine own_via (G := T0.setTop (mkF m 88 #[.val (.int ch)] [])) (fun t k => X0.lookupswitchMiss hx (g := (mkF m 1 #[.val (.int ch)] [(.int ch)])) rfl rfl (hb hby d1_1) (by decide) (find_miss hm) (show (0 : Int) ≤ (1 : Nat) + (87 : Int) by decide) t k) ?_
                    refine own_via (G := T0.setTop (mkF m 89 #[.val (.int ch)] [(.int ch)])) (fun t k => XS.iloadN X0.here hx rfl (hb hby d1_88) rfl k) ?_
                    refine own_via (G := T0.setTop (mkF m 91 #[.val (.int ch)] [(.int (32 : Int32)), (.int ch)])) (fun t k => XS.bipush X0.here hx rfl (hb hby d1_89) k) ?_
                    by_cases hc1_91 : (32 : Int32) < ch
                    · refine own_via (G := T0.setTop (mkF m 94 #[.val (.int ch)] [])) (fun t k => XS.icmpNo X0.here hx rfl (hb hby d1_91) rfl (XT.ii_le_f hc1_91) k) ?_
                      refine own_via (G := T0.setTop (mkF m 95 #[.val (.int ch)] [(.int (1 : Int32))])) (fun t k => XS.iconst X0.here hx rfl (hb hby d1_94) k) ?_
                      refine own_via (G := T0.setTop (mkF m 99 #[.val (.int ch)] [(.int (1 : Int32))])) (fun t k => XS.goto X0.here hx rfl (pc0 := 95) (pc' := 99) rfl (hb hby d1_95) (by decide) (by decide) k) ?_
                      exact own_fin X0 e0 (v := some (.int (1 : Int32))) (fun h => by rw [hret] at h; cases h) hlk (fun fs hr => retN X0 hx (t := .boolean) hret (by simp) (hb hby d1_99) hr) (show ((fun v h L => Q1 Z ch h0 n0 v h L)) (some (.int (1 : Int32))) h0 _ from ⟨(by unfold own_iri; rw [if_neg hk34, if_neg hk60, if_neg hk62, if_neg hk92, if_neg hk94, if_neg hk96, if_neg hk123, if_neg hk124, if_neg hk125, if_pos hc1_91]), N0, rfl⟩) (by decide) (by decide)
                    · refine own_via (G := T0.setTop (mkF m 98 #[.val (.int ch)] [])) (fun t k => XS.icmpYes X0.here hx rfl (pc0 := 91) (pc' := 98) rfl (hb hby d1_91) rfl (XT.ii_le_t hc1_91) (by decide) (by decide) k) ?_
                      refine own_via (G := T0.setTop (mkF m 99 #[.val (.int ch)] [(.int (0 : Int32))])) (fun t k => XS.iconst X0.here hx rfl (hb hby d1_98) k) ?_
                      exact own_fin X0 e0 (v := some (.int (0 : Int32))) (fun h => by rw [hret] at h; cases h) hlk (fun fs hr => retN X0 hx (t := .boolean) hret (by simp) (hb hby d1_99) hr) (show ((fun v h L => Q1 Z ch h0 n0 v h L)) (some (.int (0 : Int32))) h0 _ from ⟨(by unfold own_iri; rw [if_neg hk34, if_neg hk60, if_neg hk62, if_neg hk92, if_neg hk94, if_neg hk96, if_neg hk123, if_neg hk124, if_neg hk125, if_neg hc1_91]), N0, rfl⟩) (by decide) (by decide)
theorem pn_0 : plainName site_15.cls = true := by first | (simp [plainName, overriddenIn]; done) | decide +kernel
theorem ef_1 (m : MethodId) (ch : Int32) : entryFrame m #[(.int ch)] 1 = mkF m 0 #[.val (.int ch)] [] := by first | (simp [entryFrame, mkF, argsToLocals, Value.category, maxLocals]; done) | rfl
set_option maxRecDepth 65536 in
set_option maxHeartbeats 40000000 in
theorem rm1 (l : Launch) (Z : State) (a0 : Array Value) (hw : ∀ d ∈ tables_1, d.before a0 Z = true) (ws : List Jvm.Cond) (ch : Int32) (h0 : Heap) (n0 : Nat) (Z0 : n0 ≤ h0.size) :
    MetFree l site_15 (head1 (Jvm.Cond.code site_15 prog_156_method_11_code 1 (some .boolean) :: ws) ({ frames := 0, cells := 0, slots := 0, locals := 0 } : Room)) (fun a U => a = #[(.int ch)] ∧ Z.Warmed39 U.vm ∧ U.heap = h0) (fun _ _ _ _ _ => True) (fun _ U o U' => ∃ v L, o = .returned v ∧ Q1 Z ch h0 n0 v U'.heap L ∧ FrameEnd U o U' L ({ frames := 0, cells := 0, slots := 0, locals := 0 } : Room).cells ({ frames := 0, cells := 0, slots := 0, locals := 0 } : Room).slots) := by
  refine MetFree.of_bodySF (plainFor_of_name pn_0) hisR ?_
  intro p e s m args below meth c s₁ Bd hml0 hP hK
  obtain ⟨rfl, hZ, hh⟩ := hP
  have e0 : s₁.heap = h0 := by rw [← hh, Bd.state]; rfl
  rw [ef_1 m ch]
  exact b1 ch ⟨Bd.exec, hZ, hw, Bd.bytes, hml0, (by have q := findClass_of_methodNamed Bd.named; exact q), Bd.returns, Bd.notSynchronized, (name_of_methodNamed Bd.named Bd.method).1⟩ (Stand.of_body Bd) e0 Z0 (Fr.nil n0)
def own_exp (ch : Int32) : Int32 := (if ch < (0 : Int32) then (0 : Int32) else (if ch < (128 : Int32) then (if ch < (64 : Int32) then (if ((XT.ushrL (5764607548804038655 : Int64) ch) &&& (1 : Int64)) = (0 : Int64) then (1 : Int32) else (0 : Int32)) else (if ((XT.ushrL (4035225271761108992 : Int64) (ch - (64 : Int32))) &&& (1 : Int64)) = (0 : Int64) then (1 : Int32) else (0 : Int32))) else (1 : Int32)))
def Q2 (Z : State) (ch : Int32) (h0 : Heap) (n0 : Nat) (v : Option Value) (h : Heap) (L : List Loc) : Prop := v = some (.int (own_exp ch)) ∧ Fr n0 L ∧ h = h0
theorem d2_0 : decode method_3_code 0 = .ok (.iload_n 0, 1) := by decide +kernel
theorem d2_1 : decode method_3_code 1 = .ok (.ifCond .ge 5, 3) := by decide +kernel
theorem d2_4 : decode method_3_code 4 = .ok (.iconst 0, 1) := by decide +kernel
theorem d2_5 : decode method_3_code 5 = .ok (.ireturn, 1) := by decide +kernel
theorem d2_6 : decode method_3_code 6 = .ok (.iload_n 0, 1) := by decide +kernel
theorem d2_7 : decode method_3_code 7 = .ok (.sipush 128, 3) := by decide +kernel
theorem d2_10 : decode method_3_code 10 = .ok (.if_icmp .lt 5, 3) := by decide +kernel
theorem d2_15 : decode method_3_code 15 = .ok (.ldc2_w 18, 3) := by decide +kernel
theorem d2_18 : decode method_3_code 18 = .ok (.lstore_n 1, 1) := by decide +kernel
theorem d2_19 : decode method_3_code 19 = .ok (.ldc2_w 20, 3) := by decide +kernel
theorem d2_22 : decode method_3_code 22 = .ok (.lstore_n 3, 1) := by decide +kernel
theorem d2_23 : decode method_3_code 23 = .ok (.iload_n 0, 1) := by decide +kernel
theorem d2_24 : decode method_3_code 24 = .ok (.bipush 64, 2) := by decide +kernel
theorem d2_26 : decode method_3_code 26 = .ok (.if_icmp .ge 19, 3) := by decide +kernel
theorem d2_29 : decode method_3_code 29 = .ok (.lload_n 1, 1) := by decide +kernel
theorem d2_30 : decode method_3_code 30 = .ok (.iload_n 0, 1) := by decide +kernel
theorem d2_31 : decode method_3_code 31 = .ok (.lushr, 1) := by decide +kernel
theorem d2_32 : decode method_3_code 32 = .ok (.lconst 1, 1) := by decide +kernel
theorem d2_33 : decode method_3_code 33 = .ok (.land, 1) := by decide +kernel
theorem d2_34 : decode method_3_code 34 = .ok (.lconst 0, 1) := by decide +kernel
theorem d2_35 : decode method_3_code 35 = .ok (.lcmp, 1) := by decide +kernel
theorem d2_36 : decode method_3_code 36 = .ok (.ifCond .ne 7, 3) := by decide +kernel
theorem d2_39 : decode method_3_code 39 = .ok (.iconst 1, 1) := by decide +kernel
theorem d2_40 : decode method_3_code 40 = .ok (.goto 4, 3) := by decide +kernel
theorem d2_44 : decode method_3_code 44 = .ok (.ireturn, 1) := by decide +kernel
theorem d2_43 : decode method_3_code 43 = .ok (.iconst 0, 1) := by decide +kernel
theorem d2_45 : decode method_3_code 45 = .ok (.lload_n 3, 1) := by decide +kernel
theorem d2_46 : decode method_3_code 46 = .ok (.iload_n 0, 1) := by decide +kernel
theorem d2_47 : decode method_3_code 47 = .ok (.bipush 64, 2) := by decide +kernel
theorem d2_49 : decode method_3_code 49 = .ok (.isub, 1) := by decide +kernel
theorem d2_50 : decode method_3_code 50 = .ok (.lushr, 1) := by decide +kernel
theorem d2_51 : decode method_3_code 51 = .ok (.lconst 1, 1) := by decide +kernel
theorem d2_52 : decode method_3_code 52 = .ok (.land, 1) := by decide +kernel
theorem d2_53 : decode method_3_code 53 = .ok (.lconst 0, 1) := by decide +kernel
theorem d2_54 : decode method_3_code 54 = .ok (.lcmp, 1) := by decide +kernel
theorem d2_55 : decode method_3_code 55 = .ok (.ifCond .ne 7, 3) := by decide +kernel
theorem d2_58 : decode method_3_code 58 = .ok (.iconst 1, 1) := by decide +kernel
theorem d2_59 : decode method_3_code 59 = .ok (.goto 4, 3) := by decide +kernel
theorem d2_63 : decode method_3_code 63 = .ok (.ireturn, 1) := by decide +kernel
theorem d2_62 : decode method_3_code 62 = .ok (.iconst 0, 1) := by decide +kernel
theorem d2_13 : decode method_3_code 13 = .ok (.iconst 1, 1) := by decide +kernel
theorem d2_14 : decode method_3_code 14 = .ok (.ireturn, 1) := by decide +kernel
set_option maxRecDepth 65536 in
set_option maxHeartbeats 40000000 in
theorem b2 {p : Program} {l : Launch} {e : Env} {s : State} {m : MethodId} {args : Array Value} {below : List Frame} {meth : Method} {c : Code} {T0 : State} {locs : List Loc} {Z : State} {a0 : Array Value} {h0 : Heap} {n0 : Nat} (ch : Int32)
    (C : own_C p s m meth c Z a0 method_3_code 5 x.cls (some .boolean) "expected") (X0 : Stand p l e ({ frames := 0, cells := 0, slots := 0, locals := 0 } : Room) s m args below meth c T0 locs 0 0) (e0 : T0.heap = h0) (Z0 : n0 ≤ h0.size) (N0 : Fr n0 locs) :
    own_Go p.tables e below (T0.setTop (mkF m 0 #[.val (.int ch), .unset, .unset, .unset, .unset] [])) (own_K s (fun v h L => Q2 Z ch h0 n0 v h L) ({ frames := 0, cells := 0, slots := 0, locals := 0 } : Room).cells ({ frames := 0, cells := 0, slots := 0, locals := 0 } : Room).slots) := by
  obtain ⟨hx, hZ, hw, hby, hml, hown, hret, hlk, hnm⟩ := C
  refine own_via (G := T0.setTop (mkF m 1 #[.val (.int ch), .unset, .unset, .unset, .unset] [(.int ch)])) (fun t k => XS.iloadN X0.here hx rfl (hb hby d2_0) rfl k) ?_
  by_cases hc1_1 : ch < (0 : Int32)
  · refine own_via (G := T0.setTop (mkF m 4 #[.val (.int ch), .unset, .unset, .unset, .unset] [])) (fun t k => XS.ifNo X0.here hx rfl (hb hby d2_1) rfl (XT.i0_ge_f hc1_1) k) ?_
    refine own_via (G := T0.setTop (mkF m 5 #[.val (.int ch), .unset, .unset, .unset, .unset] [(.int (0 : Int32))])) (fun t k => XS.iconst X0.here hx rfl (hb hby d2_4) k) ?_
    exact own_fin X0 e0 (v := some (.int (0 : Int32))) (fun h => by rw [hret] at h; cases h) hlk (fun fs hr => retN X0 hx (t := .boolean) hret (by simp) (hb hby d2_5) hr) (show ((fun v h L => Q2 Z ch h0 n0 v h L)) (some (.int (0 : Int32))) h0 _ from ⟨(by unfold own_exp; rw [if_pos hc1_1]), N0, rfl⟩) (by decide) (by decide)
  · refine own_via (G := T0.setTop (mkF m 6 #[.val (.int ch), .unset, .unset, .unset, .unset] [])) (fun t k => XS.ifYes X0.here hx rfl (pc0 := 1) (pc' := 6) rfl (hb hby d2_1) rfl (XT.i0_ge_t hc1_1) (by decide) (by decide) k) ?_
    refine own_via (G := T0.setTop (mkF m 7 #[.val (.int ch), .unset, .unset, .unset, .unset] [(.int ch)])) (fun t k => XS.iloadN X0.here hx rfl (hb hby d2_6) rfl k) ?_
    refine own_via (G := T0.setTop (mkF m 10 #[.val (.int ch), .unset, .unset, .unset, .unset] [(.int (128 : Int32)), (.int ch)])) (fun t k => XS.sipush X0.here hx rfl (hb hby d2_7) k) ?_
    by_cases hc2_10 : ch < (128 : Int32)
    · refine own_via (G := T0.setTop (mkF m 15 #[.val (.int ch), .unset, .unset, .unset, .unset] [])) (fun t k => XS.icmpYes X0.here hx rfl (pc0 := 10) (pc' := 15) rfl (hb hby d2_10) rfl (XT.ii_lt_t hc2_10) (by decide) (by decide) k) ?_
      refine own_via (G := T0.setTop (mkF m 18 #[.val (.int ch), .unset, .unset, .unset, .unset] [(.long (5764607548804038655 : Int64))])) (fun t k => X0.ldc2J hx hown (mvT hZ (hw _ (List.mem_of_getElem? (i := 8) rfl))) (g := (mkF m 15 #[.val (.int ch), .unset, .unset, .unset, .unset] [])) rfl (hb hby d2_15) k) ?_
      refine own_via (G := T0.setTop (mkF m 19 #[.val (.int ch), .val (.long (5764607548804038655 : Int64)), .second, .unset, .unset] [])) (fun t k => XT.lstoreN X0.here hx rfl (hb hby d2_18) rfl (l' := #[.val (.int ch), .val (.long (5764607548804038655 : Int64)), .second, .unset, .unset]) rfl k) ?_
      refine own_via (G := T0.setTop (mkF m 22 #[.val (.int ch), .val (.long (5764607548804038655 : Int64)), .second, .unset, .unset] [(.long (4035225271761108992 : Int64))])) (fun t k => X0.ldc2J hx hown (mvT hZ (hw _ (List.mem_of_getElem? (i := 9) rfl))) (g := (mkF m 19 #[.val (.int ch), .val (.long (5764607548804038655 : Int64)), .second, .unset, .unset] [])) rfl (hb hby d2_19) k) ?_
      refine own_via (G := T0.setTop (mkF m 23 #[.val (.int ch), .val (.long (5764607548804038655 : Int64)), .second, .val (.long (4035225271761108992 : Int64)), .second] [])) (fun t k => XT.lstoreN X0.here hx rfl (hb hby d2_22) rfl (l' := #[.val (.int ch), .val (.long (5764607548804038655 : Int64)), .second, .val (.long (4035225271761108992 : Int64)), .second]) rfl k) ?_
      refine own_via (G := T0.setTop (mkF m 24 #[.val (.int ch), .val (.long (5764607548804038655 : Int64)), .second, .val (.long (4035225271761108992 : Int64)), .second] [(.int ch)])) (fun t k => XS.iloadN X0.here hx rfl (hb hby d2_23) rfl k) ?_
      refine own_via (G := T0.setTop (mkF m 26 #[.val (.int ch), .val (.long (5764607548804038655 : Int64)), .second, .val (.long (4035225271761108992 : Int64)), .second] [(.int (64 : Int32)), (.int ch)])) (fun t k => XS.bipush X0.here hx rfl (hb hby d2_24) k) ?_
      by_cases hc3_26 : ch < (64 : Int32)
      · refine own_via (G := T0.setTop (mkF m 29 #[.val (.int ch), .val (.long (5764607548804038655 : Int64)), .second, .val (.long (4035225271761108992 : Int64)), .second] [])) (fun t k => XS.icmpNo X0.here hx rfl (hb hby d2_26) rfl (XT.ii_ge_f hc3_26) k) ?_
        refine own_via (G := T0.setTop (mkF m 30 #[.val (.int ch), .val (.long (5764607548804038655 : Int64)), .second, .val (.long (4035225271761108992 : Int64)), .second] [(.long (5764607548804038655 : Int64))])) (fun t k => XT.lloadN X0.here hx rfl (hb hby d2_29) rfl k) ?_
        refine own_via (G := T0.setTop (mkF m 31 #[.val (.int ch), .val (.long (5764607548804038655 : Int64)), .second, .val (.long (4035225271761108992 : Int64)), .second] [(.int ch), (.long (5764607548804038655 : Int64))])) (fun t k => XS.iloadN X0.here hx rfl (hb hby d2_30) rfl k) ?_
        refine own_via (G := T0.setTop (mkF m 32 #[.val (.int ch), .val (.long (5764607548804038655 : Int64)), .second, .val (.long (4035225271761108992 : Int64)), .second] [(.long (XT.ushrL (5764607548804038655 : Int64) ch))])) (fun t k => XT.lushr X0.here hx rfl (hb hby d2_31) rfl k) ?_
        refine own_via (G := T0.setTop (mkF m 33 #[.val (.int ch), .val (.long (5764607548804038655 : Int64)), .second, .val (.long (4035225271761108992 : Int64)), .second] [(.long (1 : Int64)), (.long (XT.ushrL (5764607548804038655 : Int64) ch))])) (fun t k => XT.lconst X0.here hx rfl (hb hby d2_32) k) ?_
        refine own_via (G := T0.setTop (mkF m 34 #[.val (.int ch), .val (.long (5764607548804038655 : Int64)), .second, .val (.long (4035225271761108992 : Int64)), .second] [(.long ((XT.ushrL (5764607548804038655 : Int64) ch) &&& (1 : Int64)))])) (fun t k => XT.land X0.here hx rfl (hb hby d2_33) rfl k) ?_
        refine own_via (G := T0.setTop (mkF m 35 #[.val (.int ch), .val (.long (5764607548804038655 : Int64)), .second, .val (.long (4035225271761108992 : Int64)), .second] [(.long (0 : Int64)), (.long ((XT.ushrL (5764607548804038655 : Int64) ch) &&& (1 : Int64)))])) (fun t k => XT.lconst X0.here hx rfl (hb hby d2_34) k) ?_
        refine own_via (G := T0.setTop (mkF m 36 #[.val (.int ch), .val (.long (5764607548804038655 : Int64)), .second, .val (.long (4035225271761108992 : Int64)), .second] [(.int (XT.cmpL ((XT.ushrL (5764607548804038655 : Int64) ch) &&& (1 : Int64)) (0 : Int64)))])) (fun t k => XT.lcmp X0.here hx rfl (hb hby d2_35) rfl k) ?_
        by_cases hc4_36 : ((XT.ushrL (5764607548804038655 : Int64) ch) &&& (1 : Int64)) = (0 : Int64)
        · refine own_via (G := T0.setTop (mkF m 39 #[.val (.int ch), .val (.long (5764607548804038655 : Int64)), .second, .val (.long (4035225271761108992 : Int64)), .second] [])) (fun t k => XS.ifNo X0.here hx rfl (hb hby d2_36) rfl (XT.ll_ne_f hc4_36) k) ?_
          refine own_via (G := T0.setTop (mkF m 40 #[.val (.int ch), .val (.long (5764607548804038655 : Int64)), .second, .val (.long (4035225271761108992 : Int64)), .second] [(.int (1 : Int32))])) (fun t k => XS.iconst X0.here hx rfl (hb hby d2_39) k) ?_
          refine own_via (G := T0.setTop (mkF m 44 #[.val (.int ch), .val (.long (5764607548804038655 : Int64)), .second, .val (.long (4035225271761108992 : Int64)), .second] [(.int (1 : Int32))])) (fun t k => XS.goto X0.here hx rfl (pc0 := 40) (pc' := 44) rfl (hb hby d2_40) (by decide) (by decide) k) ?_
          exact own_fin X0 e0 (v := some (.int (1 : Int32))) (fun h => by rw [hret] at h; cases h) hlk (fun fs hr => retN X0 hx (t := .boolean) hret (by simp) (hb hby d2_44) hr) (show ((fun v h L => Q2 Z ch h0 n0 v h L)) (some (.int (1 : Int32))) h0 _ from ⟨(by unfold own_exp; rw [if_neg hc1_1, if_pos hc2_10, if_pos hc3_26, if_pos hc4_36]), N0, rfl⟩) (by decide) (by decide)
        · refine own_via (G := T0.setTop (mkF m 43 #[.val (.int ch), .val (.long (5764607548804038655 : Int64)), .second, .val (.long (4035225271761108992 : Int64)), .second] [])) (fun t k => XS.ifYes X0.here hx rfl (pc0 := 36) (pc' := 43) rfl (hb hby d2_36) rfl (XT.ll_ne_t hc4_36) (by decide) (by decide) k) ?_
          refine own_via (G := T0.setTop (mkF m 44 #[.val (.int ch), .val (.long (5764607548804038655 : Int64)), .second, .val (.long (4035225271761108992 : Int64)), .second] [(.int (0 : Int32))])) (fun t k => XS.iconst X0.here hx rfl (hb hby d2_43) k) ?_
          exact own_fin X0 e0 (v := some (.int (0 : Int32))) (fun h => by rw [hret] at h; cases h) hlk (fun fs hr => retN X0 hx (t := .boolean) hret (by simp) (hb hby d2_44) hr) (show ((fun v h L => Q2 Z ch h0 n0 v h L)) (some (.int (0 : Int32))) h0 _ from ⟨(by unfold own_exp; rw [if_neg hc1_1, if_pos hc2_10, if_pos hc3_26, if_neg hc4_36]), N0, rfl⟩) (by decide) (by decide)
      · refine own_via (G := T0.setTop (mkF m 45 #[.val (.int ch), .val (.long (5764607548804038655 : Int64)), .second, .val (.long (4035225271761108992 : Int64)), .second] [])) (fun t k => XS.icmpYes X0.here hx rfl (pc0 := 26) (pc' := 45) rfl (hb hby d2_26) rfl (XT.ii_ge_t hc3_26) (by decide) (by decide) k) ?_
        refine own_via (G := T0.setTop (mkF m 46 #[.val (.int ch), .val (.long (5764607548804038655 : Int64)), .second, .val (.long (4035225271761108992 : Int64)), .second] [(.long (4035225271761108992 : Int64))])) (fun t k => XT.lloadN X0.here hx rfl (hb hby d2_45) rfl k) ?_
        refine own_via (G := T0.setTop (mkF m 47 #[.val (.int ch), .val (.long (5764607548804038655 : Int64)), .second, .val (.long (4035225271761108992 : Int64)), .second] [(.int ch), (.long (4035225271761108992 : Int64))])) (fun t k => XS.iloadN X0.here hx rfl (hb hby d2_46) rfl k) ?_
        refine own_via (G := T0.setTop (mkF m 49 #[.val (.int ch), .val (.long (5764607548804038655 : Int64)), .second, .val (.long (4035225271761108992 : Int64)), .second] [(.int (64 : Int32)), (.int ch), (.long (4035225271761108992 : Int64))])) (fun t k => XS.bipush X0.here hx rfl (hb hby d2_47) k) ?_
        refine own_via (G := T0.setTop (mkF m 50 #[.val (.int ch), .val (.long (5764607548804038655 : Int64)), .second, .val (.long (4035225271761108992 : Int64)), .second] [(.int (ch - (64 : Int32))), (.long (4035225271761108992 : Int64))])) (fun t k => XS.isub X0.here hx rfl (hb hby d2_49) rfl k) ?_
        refine own_via (G := T0.setTop (mkF m 51 #[.val (.int ch), .val (.long (5764607548804038655 : Int64)), .second, .val (.long (4035225271761108992 : Int64)), .second] [(.long (XT.ushrL (4035225271761108992 : Int64) (ch - (64 : Int32))))])) (fun t k => XT.lushr X0.here hx rfl (hb hby d2_50) rfl k) ?_
        refine own_via (G := T0.setTop (mkF m 52 #[.val (.int ch), .val (.long (5764607548804038655 : Int64)), .second, .val (.long (4035225271761108992 : Int64)), .second] [(.long (1 : Int64)), (.long (XT.ushrL (4035225271761108992 : Int64) (ch - (64 : Int32))))])) (fun t k => XT.lconst X0.here hx rfl (hb hby d2_51) k) ?_
        refine own_via (G := T0.setTop (mkF m 53 #[.val (.int ch), .val (.long (5764607548804038655 : Int64)), .second, .val (.long (4035225271761108992 : Int64)), .second] [(.long ((XT.ushrL (4035225271761108992 : Int64) (ch - (64 : Int32))) &&& (1 : Int64)))])) (fun t k => XT.land X0.here hx rfl (hb hby d2_52) rfl k) ?_
        refine own_via (G := T0.setTop (mkF m 54 #[.val (.int ch), .val (.long (5764607548804038655 : Int64)), .second, .val (.long (4035225271761108992 : Int64)), .second] [(.long (0 : Int64)), (.long ((XT.ushrL (4035225271761108992 : Int64) (ch - (64 : Int32))) &&& (1 : Int64)))])) (fun t k => XT.lconst X0.here hx rfl (hb hby d2_53) k) ?_
        refine own_via (G := T0.setTop (mkF m 55 #[.val (.int ch), .val (.long (5764607548804038655 : Int64)), .second, .val (.long (4035225271761108992 : Int64)), .second] [(.int (XT.cmpL ((XT.ushrL (4035225271761108992 : Int64) (ch - (64 : Int32))) &&& (1 : Int64)) (0 : Int64)))])) (fun t k => XT.lcmp X0.here hx rfl (hb hby d2_54) rfl k) ?_
        by_cases hc5_55 : ((XT.ushrL (4035225271761108992 : Int64) (ch - (64 : Int32))) &&& (1 : Int64)) = (0 : Int64)
        · refine own_via (G := T0.setTop (mkF m 58 #[.val (.int ch), .val (.long (5764607548804038655 : Int64)), .second, .val (.long (4035225271761108992 : Int64)), .second] [])) (fun t k => XS.ifNo X0.here hx rfl (hb hby d2_55) rfl (XT.ll_ne_f hc5_55) k) ?_
          refine own_via (G := T0.setTop (mkF m 59 #[.val (.int ch), .val (.long (5764607548804038655 : Int64)), .second, .val (.long (4035225271761108992 : Int64)), .second] [(.int (1 : Int32))])) (fun t k => XS.iconst X0.here hx rfl (hb hby d2_58) k) ?_
          refine own_via (G := T0.setTop (mkF m 63 #[.val (.int ch), .val (.long (5764607548804038655 : Int64)), .second, .val (.long (4035225271761108992 : Int64)), .second] [(.int (1 : Int32))])) (fun t k => XS.goto X0.here hx rfl (pc0 := 59) (pc' := 63) rfl (hb hby d2_59) (by decide) (by decide) k) ?_
          exact own_fin X0 e0 (v := some (.int (1 : Int32))) (fun h => by rw [hret] at h; cases h) hlk (fun fs hr => retN X0 hx (t := .boolean) hret (by simp) (hb hby d2_63) hr) (show ((fun v h L => Q2 Z ch h0 n0 v h L)) (some (.int (1 : Int32))) h0 _ from ⟨(by unfold own_exp; rw [if_neg hc1_1, if_pos hc2_10, if_neg hc3_26, if_pos hc5_55]), N0, rfl⟩) (by decide) (by decide)
        · refine own_via (G := T0.setTop (mkF m 62 #[.val (.int ch), .val (.long (5764607548804038655 : Int64)), .second, .val (.long (4035225271761108992 : Int64)), .second] [])) (fun t k => XS.ifYes X0.here hx rfl (pc0 := 55) (pc' := 62) rfl (hb hby d2_55) rfl (XT.ll_ne_t hc5_55) (by decide) (by decide) k) ?_
          refine own_via (G := T0.setTop (mkF m 63 #[.val (.int ch), .val (.long (5764607548804038655 : Int64)), .second, .val (.long (4035225271761108992 : Int64)), .second] [(.int (0 : Int32))])) (fun t k => XS.iconst X0.here hx rfl (hb hby d2_62) k) ?_
          exact own_fin X0 e0 (v := some (.int (0 : Int32))) (fun h => by rw [hret] at h; cases h) hlk (fun fs hr => retN X0 hx (t := .boolean) hret (by simp) (hb hby d2_63) hr) (show ((fun v h L => Q2 Z ch h0 n0 v h L)) (some (.int (0 : Int32))) h0 _ from ⟨(by unfold own_exp; rw [if_neg hc1_1, if_pos hc2_10, if_neg hc3_26, if_neg hc5_55]), N0, rfl⟩) (by decide) (by decide)
    · refine own_via (G := T0.setTop (mkF m 13 #[.val (.int ch), .unset, .unset, .unset, .unset] [])) (fun t k => XS.icmpNo X0.here hx rfl (hb hby d2_10) rfl (XT.ii_lt_f hc2_10) k) ?_
      refine own_via (G := T0.setTop (mkF m 14 #[.val (.int ch), .unset, .unset, .unset, .unset] [(.int (1 : Int32))])) (fun t k => XS.iconst X0.here hx rfl (hb hby d2_13) k) ?_
      exact own_fin X0 e0 (v := some (.int (1 : Int32))) (fun h => by rw [hret] at h; cases h) hlk (fun fs hr => retN X0 hx (t := .boolean) hret (by simp) (hb hby d2_14) hr) (show ((fun v h L => Q2 Z ch h0 n0 v h L)) (some (.int (1 : Int32))) h0 _ from ⟨(by unfold own_exp; rw [if_neg hc1_1, if_neg hc2_10]), N0, rfl⟩) (by decide) (by decide)
theorem pn_1 : plainName x.cls = true := by first | (simp [plainName, overriddenIn]; done) | decide +kernel
theorem ef_2 (m : MethodId) (ch : Int32) : entryFrame m #[(.int ch)] 5 = mkF m 0 #[.val (.int ch), .unset, .unset, .unset, .unset] [] := by first | (simp [entryFrame, mkF, argsToLocals, Value.category, maxLocals]; done) | rfl
set_option maxRecDepth 65536 in
set_option maxHeartbeats 40000000 in
theorem rm2 (l : Launch) (Z : State) (a0 : Array Value) (hw : ∀ d ∈ tables_1, d.before a0 Z = true) (ws : List Jvm.Cond) (ch : Int32) (h0 : Heap) (n0 : Nat) (Z0 : n0 ≤ h0.size) :
    MetFree l site_19 (head1 (Jvm.Cond.code site_19 method_3_code 5 (some .boolean) :: ws) ({ frames := 0, cells := 0, slots := 0, locals := 0 } : Room)) (fun a U => a = #[(.int ch)] ∧ Z.Warmed39 U.vm ∧ U.heap = h0) (fun _ _ _ _ _ => True) (fun _ U o U' => ∃ v L, o = .returned v ∧ Q2 Z ch h0 n0 v U'.heap L ∧ FrameEnd U o U' L ({ frames := 0, cells := 0, slots := 0, locals := 0 } : Room).cells ({ frames := 0, cells := 0, slots := 0, locals := 0 } : Room).slots) := by
  refine MetFree.of_bodySF (plainFor_of_name pn_1) hisR ?_
  intro p e s m args below meth c s₁ Bd hml0 hP hK
  obtain ⟨rfl, hZ, hh⟩ := hP
  have e0 : s₁.heap = h0 := by rw [← hh, Bd.state]; rfl
  rw [ef_2 m ch]
  exact b2 ch ⟨Bd.exec, hZ, hw, Bd.bytes, hml0, (by have q := findClass_of_methodNamed Bd.named; exact q), Bd.returns, Bd.notSynchronized, (name_of_methodNamed Bd.named Bd.method).1⟩ (Stand.of_body Bd) e0 Z0 (Fr.nil n0)
theorem own_small : ∀ n : Fin 128, own_iri (Int32.ofNat n.val) = own_exp (Int32.ofNat n.val) := by decide +kernel
theorem own_alike (c : Int32) : own_iri c = own_exp c := by
  by_cases h0 : c < 0
  · have e1 : own_exp c = 0 := by unfold own_exp; rw [if_pos h0]
    have h0' : c.toInt < 0 := by simpa [Int32.lt_iff_toInt_lt] using h0
    have hn : ∀ k : Int32, 0 ≤ k.toInt → ¬ c = k := fun k hk e => by rw [e] at h0'; omega
    have h32 : ¬ (32 : Int32) < c := by rw [Int32.lt_iff_toInt_lt]; show ¬ (32 : Int) < _; omega
    rw [e1]; unfold own_iri
    rw [if_neg (hn _ (by decide)), if_neg (hn _ (by decide)), if_neg (hn _ (by decide)), if_neg (hn _ (by decide)), if_neg (hn _ (by decide)), if_neg (hn _ (by decide)), if_neg (hn _ (by decide)), if_neg (hn _ (by decide)), if_neg (hn _ (by decide)), if_neg h32]
  · by_cases h1 : c < 128
    · have a0 : 0 ≤ c.toInt := by rw [Int32.lt_iff_toInt_lt] at h0; have : (0 : Int32).toInt = 0 := rfl; omega
      have a1 : c.toInt < 128 := by rw [Int32.lt_iff_toInt_lt] at h1; exact h1
      have e : c = Int32.ofNat c.toInt.toNat := by
        apply Int32.toInt_inj.mp
        rw [Int32.toInt_ofNat_of_lt (by omega)]; omega
      have := own_small ⟨c.toInt.toNat, by omega⟩
      rw [e]; exact this
    · have e1 : own_exp c = 1 := by unfold own_exp; rw [if_neg h0, if_neg h1]
      have h1' : ¬ c.toInt < 128 := by rw [Int32.lt_iff_toInt_lt] at h1; exact h1
      have hn : ∀ k : Int32, k.toInt < 128 → ¬ c = k := fun k hk e => by rw [e] at h1'; omega
      have h32 : (32 : Int32) < c := by rw [Int32.lt_iff_toInt_lt]; show (32 : Int) < _; omega
      rw [e1]; unfold own_iri
      rw [if_neg (hn _ (by decide)), if_neg (hn _ (by decide)), if_neg (hn _ (by decide)), if_neg (hn _ (by decide)), if_neg (hn _ (by decide)), if_neg (hn _ (by decide)), if_neg (hn _ (by decide)), if_neg (hn _ (by decide)), if_neg (hn _ (by decide)), if_pos h32]
def Q0 (Z : State) (ia : Int32) (ib : Int32) (h0 : Heap) (n0 : Nat) (v : Option Value) (h : Heap) (L : List Loc) : Prop := v = some (.int (1 : Int32)) ∧ Fr n0 L
theorem pd_0 : parseMethodDescriptor "(I)Z" = some ⟨[.int], some .boolean⟩ := by decide +kernel
set_option maxRecDepth 65536 in
set_option maxHeartbeats 40000000 in
theorem b0 {p : Program} {l : Launch} {e : Env} {s : State} {m : MethodId} {args : Array Value} {below : List Frame} {meth : Method} {c : Code} {T0 : State} {locs : List Loc} {Z : State} {a0 : Array Value} {h0 : Heap} {n0 : Nat} (ia : Int32) (ib : Int32)
    (C : own_C p s m meth c Z a0 code maxLocals x.cls ret "law") (X0 : Stand p l e room_1 s m args below meth c T0 locs 0 0) (e0 : T0.heap = h0) (Z0 : n0 ≤ h0.size) (N0 : Fr n0 locs) :
    own_Go p.tables e below (T0.setTop (mkF m 0 #[.val (.int ia), .val (.int ib), .unset, .unset] [])) (own_K s (fun v h L => Q0 Z ia ib h0 n0 v h L) room_1.cells room_1.slots) := by
  obtain ⟨hx, hZ, hw, hby, hml, hown, hret, hlk, hnm⟩ := C
  refine own_via (G := T0.setTop (mkF m 1 #[.val (.int ia), .val (.int ib), .unset, .unset] [(.int ib)])) (fun t k => XS.iloadN X0.here hx rfl (hb hby at_0) rfl k) ?_
  refine own_via (G := T0.setTop (mkF m 3 #[.val (.int ia), .val (.int ib), .unset, .unset] [(.int (127 : Int32)), (.int ib)])) (fun t k => XS.bipush X0.here hx rfl (hb hby at_1) k) ?_
  refine own_via (G := T0.setTop (mkF m 4 #[.val (.int ia), .val (.int ib), .unset, .unset] [(.int (ib &&& (127 : Int32)))])) (fun t k => XS.iand X0.here hx rfl (hb hby at_3) rfl k) ?_
  refine own_via (G := T0.setTop (mkF m 5 #[.val (.int ia), .val (.int ib), .val (.int (ib &&& (127 : Int32))), .unset] [])) (fun t k => XS.istoreN X0.here hx rfl (hb hby at_4) rfl (l' := #[.val (.int ia), .val (.int ib), .val (.int (ib &&& (127 : Int32))), .unset]) rfl k) ?_
  refine own_via (G := T0.setTop (mkF m 6 #[.val (.int ia), .val (.int ib), .val (.int (ib &&& (127 : Int32))), .unset] [(.int ib)])) (fun t k => XS.iloadN X0.here hx rfl (hb hby at_5) rfl k) ?_
  refine own_via (G := T0.setTop (mkF m 8 #[.val (.int ia), .val (.int ib), .val (.int (ib &&& (127 : Int32))), .unset] [(.int (7 : Int32)), (.int ib)])) (fun t k => XS.bipush X0.here hx rfl (hb hby at_6) k) ?_
  refine own_via (G := T0.setTop (mkF m 9 #[.val (.int ia), .val (.int ib), .val (.int (ib &&& (127 : Int32))), .unset] [(.int (XT.ushr ib (7 : Int32)))])) (fun t k => XT.iushr X0.here hx rfl (hb hby at_8) rfl k) ?_
  refine own_via (G := T0.setTop (mkF m 12 #[.val (.int ia), .val (.int ib), .val (.int (ib &&& (127 : Int32))), .unset] [(.int (255 : Int32)), (.int (XT.ushr ib (7 : Int32)))])) (fun t k => XS.sipush X0.here hx rfl (hb hby at_9) k) ?_
  refine own_via (G := T0.setTop (mkF m 13 #[.val (.int ia), .val (.int ib), .val (.int (ib &&& (127 : Int32))), .unset] [(.int ((XT.ushr ib (7 : Int32)) &&& (255 : Int32)))])) (fun t k => XS.iand X0.here hx rfl (hb hby at_12) rfl k) ?_
  refine own_via (G := T0.setTop (mkF m 14 #[.val (.int ia), .val (.int ib), .val (.int (ib &&& (127 : Int32))), .val (.int ((XT.ushr ib (7 : Int32)) &&& (255 : Int32)))] [])) (fun t k => XS.istoreN X0.here hx rfl (hb hby at_13) rfl (l' := #[.val (.int ia), .val (.int ib), .val (.int (ib &&& (127 : Int32))), .val (.int ((XT.ushr ib (7 : Int32)) &&& (255 : Int32)))]) rfl k) ?_
  refine own_via (G := T0.setTop (mkF m 15 #[.val (.int ia), .val (.int ib), .val (.int (ib &&& (127 : Int32))), .val (.int ((XT.ushr ib (7 : Int32)) &&& (255 : Int32)))] [(.int ia)])) (fun t k => XS.iloadN X0.here hx rfl (hb hby at_14) rfl k) ?_
  obtain ⟨_, _, ⟨T1, L1, k1, n1⟩, -, X1, ⟨Lc1, hQ1, l1, y1, z1⟩, st1⟩ := Jvm.LawKit.callS X0 hx (y := site_15) hown (mvT hZ (hw _ (List.mem_of_getElem? (i := 0) rfl))) (mvT hZ (hw _ (List.mem_of_getElem? (i := 1) rfl))) (mvT hZ (hw _ (List.mem_of_getElem? (i := 2) rfl))) (mvT hZ (hw _ (List.mem_of_getElem? (i := 3) rfl))) (by decide) (backOf (W := 0) (rm1 l Z a0 hw [] ia h0 n0 Z0) hZ (hw _ (List.mem_of_getElem? (i := 3) rfl)) (hw _ (List.mem_of_getElem? (i := 2) rfl)) (by decide) (by decide)) (g := (mkF m 15 #[.val (.int ia), .val (.int ib), .val (.int (ib &&& (127 : Int32))), .val (.int ((XT.ushr ib (7 : Int32)) &&& (255 : Int32)))] [(.int ia)])) rfl (by rw [hml]; rfl) (argsL := [(.int ia)]) (rest := []) (lenOf pd_0 rfl) rfl (by show 2 * 0 + _ ≤ _; exact Nat.le_of_eq rfl) (hb hby at_15) (fun _ _ => ⟨rfl, e0, (by decide : 0 + 0 ≤ _), (by decide : 0 + 0 ≤ _)⟩)
  dsimp only [Pt.U, Pt.locs, Pt.cells, Pt.slots] at X1 l1 y1 z1 st1 hQ1
  subst l1 y1 z1
  obtain ⟨rfl, Nq1, eh1⟩ := hQ1
  have N1 := Fr.app N0 Nq1
  refine own_via (G := T1.setTop (mkF m 18 #[.val (.int ia), .val (.int ib), .val (.int (ib &&& (127 : Int32))), .val (.int ((XT.ushr ib (7 : Int32)) &&& (255 : Int32)))] [(.int (own_iri ia))])) (fun t k => st1 t k) ?_
  refine own_via (G := T1.setTop (mkF m 19 #[.val (.int ia), .val (.int ib), .val (.int (ib &&& (127 : Int32))), .val (.int ((XT.ushr ib (7 : Int32)) &&& (255 : Int32)))] [(.int ia), (.int (own_iri ia))])) (fun t k => XS.iloadN X1.here hx rfl (hb hby at_18) rfl k) ?_
  obtain ⟨_, _, ⟨T2, L2, k2, n2⟩, -, X2, ⟨Lc2, hQ2, l2, y2, z2⟩, st2⟩ := Jvm.LawKit.callS X1 hx (y := site_19) hown (mvT hZ (hw _ (List.mem_of_getElem? (i := 4) rfl))) (mvT hZ (hw _ (List.mem_of_getElem? (i := 5) rfl))) (mvT hZ (hw _ (List.mem_of_getElem? (i := 6) rfl))) (mvT hZ (hw _ (List.mem_of_getElem? (i := 7) rfl))) (by decide) (backOf (W := 1) (rm2 l Z a0 hw [] ia h0 n0 Z0) hZ (hw _ (List.mem_of_getElem? (i := 7) rfl)) (hw _ (List.mem_of_getElem? (i := 6) rfl)) (by decide) (by decide)) (g := (mkF m 19 #[.val (.int ia), .val (.int ib), .val (.int (ib &&& (127 : Int32))), .val (.int ((XT.ushr ib (7 : Int32)) &&& (255 : Int32)))] [(.int ia), (.int (own_iri ia))])) rfl (by rw [hml]; rfl) (argsL := [(.int ia)]) (rest := [(.int (own_iri ia))]) (lenOf pd_0 rfl) rfl (by show 2 * 0 + _ ≤ _; exact Nat.le_of_eq rfl) (hb hby at_19) (fun _ _ => ⟨rfl, eh1, (by decide : (0 + 0) + 0 ≤ _), (by decide : (0 + 0) + 0 ≤ _)⟩)
  dsimp only [Pt.U, Pt.locs, Pt.cells, Pt.slots] at X2 l2 y2 z2 st2 hQ2
  subst l2 y2 z2
  obtain ⟨rfl, Nq2, eh2⟩ := hQ2
  have N2 := Fr.app N1 Nq2
  refine own_via (G := T2.setTop (mkF m 22 #[.val (.int ia), .val (.int ib), .val (.int (ib &&& (127 : Int32))), .val (.int ((XT.ushr ib (7 : Int32)) &&& (255 : Int32)))] [(.int (own_exp ia)), (.int (own_iri ia))])) (fun t k => st2 t k) ?_
  have hc3_22 : (own_iri ia) = (own_exp ia) := own_alike _
  refine own_via (G := T2.setTop (mkF m 25 #[.val (.int ia), .val (.int ib), .val (.int (ib &&& (127 : Int32))), .val (.int ((XT.ushr ib (7 : Int32)) &&& (255 : Int32)))] [])) (fun t k => XS.icmpNo X2.here hx rfl (hb hby at_22) rfl (XT.ii_ne_f hc3_22) k) ?_
  refine own_via (G := T2.setTop (mkF m 26 #[.val (.int ia), .val (.int ib), .val (.int (ib &&& (127 : Int32))), .val (.int ((XT.ushr ib (7 : Int32)) &&& (255 : Int32)))] [(.int (ib &&& (127 : Int32)))])) (fun t k => XS.iloadN X2.here hx rfl (hb hby at_25) rfl k) ?_
  obtain ⟨_, _, ⟨T4, L4, k4, n4⟩, -, X4, ⟨Lc4, hQ4, l4, y4, z4⟩, st4⟩ := Jvm.LawKit.callS X2 hx (y := site_15) hown (mvT hZ (hw _ (List.mem_of_getElem? (i := 0) rfl))) (mvT hZ (hw _ (List.mem_of_getElem? (i := 1) rfl))) (mvT hZ (hw _ (List.mem_of_getElem? (i := 2) rfl))) (mvT hZ (hw _ (List.mem_of_getElem? (i := 3) rfl))) (by decide) (backOf (W := 0) (rm1 l Z a0 hw [] (ib &&& (127 : Int32)) h0 n0 Z0) hZ (hw _ (List.mem_of_getElem? (i := 3) rfl)) (hw _ (List.mem_of_getElem? (i := 2) rfl)) (by decide) (by decide)) (g := (mkF m 26 #[.val (.int ia), .val (.int ib), .val (.int (ib &&& (127 : Int32))), .val (.int ((XT.ushr ib (7 : Int32)) &&& (255 : Int32)))] [(.int (ib &&& (127 : Int32)))])) rfl (by rw [hml]; rfl) (argsL := [(.int (ib &&& (127 : Int32)))]) (rest := []) (lenOf pd_0 rfl) rfl (by show 2 * 0 + _ ≤ _; exact Nat.le_of_eq rfl) (hb hby at_26) (fun _ _ => ⟨rfl, eh2, (by decide : ((0 + 0) + 0) + 0 ≤ _), (by decide : ((0 + 0) + 0) + 0 ≤ _)⟩)
  dsimp only [Pt.U, Pt.locs, Pt.cells, Pt.slots] at X4 l4 y4 z4 st4 hQ4
  subst l4 y4 z4
  obtain ⟨rfl, Nq4, eh4⟩ := hQ4
  have N4 := Fr.app N2 Nq4
  refine own_via (G := T4.setTop (mkF m 29 #[.val (.int ia), .val (.int ib), .val (.int (ib &&& (127 : Int32))), .val (.int ((XT.ushr ib (7 : Int32)) &&& (255 : Int32)))] [(.int (own_iri (ib &&& (127 : Int32))))])) (fun t k => st4 t k) ?_
  refine own_via (G := T4.setTop (mkF m 30 #[.val (.int ia), .val (.int ib), .val (.int (ib &&& (127 : Int32))), .val (.int ((XT.ushr ib (7 : Int32)) &&& (255 : Int32)))] [(.int (ib &&& (127 : Int32))), (.int (own_iri (ib &&& (127 : Int32))))])) (fun t k => XS.iloadN X4.here hx rfl (hb hby at_29) rfl k) ?_
  obtain ⟨_, _, ⟨T5, L5, k5, n5⟩, -, X5, ⟨Lc5, hQ5, l5, y5, z5⟩, st5⟩ := Jvm.LawKit.callS X4 hx (y := site_19) hown (mvT hZ (hw _ (List.mem_of_getElem? (i := 4) rfl))) (mvT hZ (hw _ (List.mem_of_getElem? (i := 5) rfl))) (mvT hZ (hw _ (List.mem_of_getElem? (i := 6) rfl))) (mvT hZ (hw _ (List.mem_of_getElem? (i := 7) rfl))) (by decide) (backOf (W := 1) (rm2 l Z a0 hw [] (ib &&& (127 : Int32)) h0 n0 Z0) hZ (hw _ (List.mem_of_getElem? (i := 7) rfl)) (hw _ (List.mem_of_getElem? (i := 6) rfl)) (by decide) (by decide)) (g := (mkF m 30 #[.val (.int ia), .val (.int ib), .val (.int (ib &&& (127 : Int32))), .val (.int ((XT.ushr ib (7 : Int32)) &&& (255 : Int32)))] [(.int (ib &&& (127 : Int32))), (.int (own_iri (ib &&& (127 : Int32))))])) rfl (by rw [hml]; rfl) (argsL := [(.int (ib &&& (127 : Int32)))]) (rest := [(.int (own_iri (ib &&& (127 : Int32))))]) (lenOf pd_0 rfl) rfl (by show 2 * 0 + _ ≤ _; exact Nat.le_of_eq rfl) (hb hby at_30) (fun _ _ => ⟨rfl, eh4, (by decide : (((0 + 0) + 0) + 0) + 0 ≤ _), (by decide : (((0 + 0) + 0) + 0) + 0 ≤ _)⟩)
  dsimp only [Pt.U, Pt.locs, Pt.cells, Pt.slots] at X5 l5 y5 z5 st5 hQ5
  subst l5 y5 z5
  obtain ⟨rfl, Nq5, eh5⟩ := hQ5
  have N5 := Fr.app N4 Nq5
  refine own_via (G := T5.setTop (mkF m 33 #[.val (.int ia), .val (.int ib), .val (.int (ib &&& (127 : Int32))), .val (.int ((XT.ushr ib (7 : Int32)) &&& (255 : Int32)))] [(.int (own_exp (ib &&& (127 : Int32)))), (.int (own_iri (ib &&& (127 : Int32))))])) (fun t k => st5 t k) ?_
  have hc6_33 : (own_iri (ib &&& (127 : Int32))) = (own_exp (ib &&& (127 : Int32))) := own_alike _
  refine own_via (G := T5.setTop (mkF m 36 #[.val (.int ia), .val (.int ib), .val (.int (ib &&& (127 : Int32))), .val (.int ((XT.ushr ib (7 : Int32)) &&& (255 : Int32)))] [])) (fun t k => XS.icmpNo X5.here hx rfl (hb hby at_33) rfl (XT.ii_ne_f hc6_33) k) ?_
  refine own_via (G := T5.setTop (mkF m 37 #[.val (.int ia), .val (.int ib), .val (.int (ib &&& (127 : Int32))), .val (.int ((XT.ushr ib (7 : Int32)) &&& (255 : Int32)))] [(.int ((XT.ushr ib (7 : Int32)) &&& (255 : Int32)))])) (fun t k => XS.iloadN X5.here hx rfl (hb hby at_36) rfl k) ?_
  obtain ⟨_, _, ⟨T7, L7, k7, n7⟩, -, X7, ⟨Lc7, hQ7, l7, y7, z7⟩, st7⟩ := Jvm.LawKit.callS X5 hx (y := site_15) hown (mvT hZ (hw _ (List.mem_of_getElem? (i := 0) rfl))) (mvT hZ (hw _ (List.mem_of_getElem? (i := 1) rfl))) (mvT hZ (hw _ (List.mem_of_getElem? (i := 2) rfl))) (mvT hZ (hw _ (List.mem_of_getElem? (i := 3) rfl))) (by decide) (backOf (W := 0) (rm1 l Z a0 hw [] ((XT.ushr ib (7 : Int32)) &&& (255 : Int32)) h0 n0 Z0) hZ (hw _ (List.mem_of_getElem? (i := 3) rfl)) (hw _ (List.mem_of_getElem? (i := 2) rfl)) (by decide) (by decide)) (g := (mkF m 37 #[.val (.int ia), .val (.int ib), .val (.int (ib &&& (127 : Int32))), .val (.int ((XT.ushr ib (7 : Int32)) &&& (255 : Int32)))] [(.int ((XT.ushr ib (7 : Int32)) &&& (255 : Int32)))])) rfl (by rw [hml]; rfl) (argsL := [(.int ((XT.ushr ib (7 : Int32)) &&& (255 : Int32)))]) (rest := []) (lenOf pd_0 rfl) rfl (by show 2 * 0 + _ ≤ _; exact Nat.le_of_eq rfl) (hb hby at_37) (fun _ _ => ⟨rfl, eh5, (by decide : ((((0 + 0) + 0) + 0) + 0) + 0 ≤ _), (by decide : ((((0 + 0) + 0) + 0) + 0) + 0 ≤ _)⟩)
  dsimp only [Pt.U, Pt.locs, Pt.cells, Pt.slots] at X7 l7 y7 z7 st7 hQ7
  subst l7 y7 z7
  obtain ⟨rfl, Nq7, eh7⟩ := hQ7
  have N7 := Fr.app N5 Nq7
  refine own_via (G := T7.setTop (mkF m 40 #[.val (.int ia), .val (.int ib), .val (.int (ib &&& (127 : Int32))), .val (.int ((XT.ushr ib (7 : Int32)) &&& (255 : Int32)))] [(.int (own_iri ((XT.ushr ib (7 : Int32)) &&& (255 : Int32))))])) (fun t k => st7 t k) ?_
  refine own_via (G := T7.setTop (mkF m 41 #[.val (.int ia), .val (.int ib), .val (.int (ib &&& (127 : Int32))), .val (.int ((XT.ushr ib (7 : Int32)) &&& (255 : Int32)))] [(.int ((XT.ushr ib (7 : Int32)) &&& (255 : Int32))), (.int (own_iri ((XT.ushr ib (7 : Int32)) &&& (255 : Int32))))])) (fun t k => XS.iloadN X7.here hx rfl (hb hby at_40) rfl k) ?_
  obtain ⟨_, _, ⟨T8, L8, k8, n8⟩, -, X8, ⟨Lc8, hQ8, l8, y8, z8⟩, st8⟩ := Jvm.LawKit.callS X7 hx (y := site_19) hown (mvT hZ (hw _ (List.mem_of_getElem? (i := 4) rfl))) (mvT hZ (hw _ (List.mem_of_getElem? (i := 5) rfl))) (mvT hZ (hw _ (List.mem_of_getElem? (i := 6) rfl))) (mvT hZ (hw _ (List.mem_of_getElem? (i := 7) rfl))) (by decide) (backOf (W := 1) (rm2 l Z a0 hw [] ((XT.ushr ib (7 : Int32)) &&& (255 : Int32)) h0 n0 Z0) hZ (hw _ (List.mem_of_getElem? (i := 7) rfl)) (hw _ (List.mem_of_getElem? (i := 6) rfl)) (by decide) (by decide)) (g := (mkF m 41 #[.val (.int ia), .val (.int ib), .val (.int (ib &&& (127 : Int32))), .val (.int ((XT.ushr ib (7 : Int32)) &&& (255 : Int32)))] [(.int ((XT.ushr ib (7 : Int32)) &&& (255 : Int32))), (.int (own_iri ((XT.ushr ib (7 : Int32)) &&& (255 : Int32))))])) rfl (by rw [hml]; rfl) (argsL := [(.int ((XT.ushr ib (7 : Int32)) &&& (255 : Int32)))]) (rest := [(.int (own_iri ((XT.ushr ib (7 : Int32)) &&& (255 : Int32))))]) (lenOf pd_0 rfl) rfl (by show 2 * 0 + _ ≤ _; exact Nat.le_of_eq rfl) (hb hby at_41) (fun _ _ => ⟨rfl, eh7, (by decide : (((((0 + 0) + 0) + 0) + 0) + 0) + 0 ≤ _), (by decide : (((((0 + 0) + 0) + 0) + 0) + 0) + 0 ≤ _)⟩)
  dsimp only [Pt.U, Pt.locs, Pt.cells, Pt.slots] at X8 l8 y8 z8 st8 hQ8
  subst l8 y8 z8
  obtain ⟨rfl, Nq8, eh8⟩ := hQ8
  have N8 := Fr.app N7 Nq8
  refine own_via (G := T8.setTop (mkF m 44 #[.val (.int ia), .val (.int ib), .val (.int (ib &&& (127 : Int32))), .val (.int ((XT.ushr ib (7 : Int32)) &&& (255 : Int32)))] [(.int (own_exp ((XT.ushr ib (7 : Int32)) &&& (255 : Int32)))), (.int (own_iri ((XT.ushr ib (7 : Int32)) &&& (255 : Int32))))])) (fun t k => st8 t k) ?_
  have hc9_44 : (own_iri ((XT.ushr ib (7 : Int32)) &&& (255 : Int32))) = (own_exp ((XT.ushr ib (7 : Int32)) &&& (255 : Int32))) := own_alike _
  refine own_via (G := T8.setTop (mkF m 47 #[.val (.int ia), .val (.int ib), .val (.int (ib &&& (127 : Int32))), .val (.int ((XT.ushr ib (7 : Int32)) &&& (255 : Int32)))] [])) (fun t k => XS.icmpNo X8.here hx rfl (hb hby at_44) rfl (XT.ii_ne_f hc9_44) k) ?_
  refine own_via (G := T8.setTop (mkF m 48 #[.val (.int ia), .val (.int ib), .val (.int (ib &&& (127 : Int32))), .val (.int ((XT.ushr ib (7 : Int32)) &&& (255 : Int32)))] [(.int (1 : Int32))])) (fun t k => XS.iconst X8.here hx rfl (hb hby at_47) k) ?_
  refine own_via (G := T8.setTop (mkF m 52 #[.val (.int ia), .val (.int ib), .val (.int (ib &&& (127 : Int32))), .val (.int ((XT.ushr ib (7 : Int32)) &&& (255 : Int32)))] [(.int (1 : Int32))])) (fun t k => XS.goto X8.here hx rfl (pc0 := 48) (pc' := 52) rfl (hb hby at_48) (by decide) (by decide) k) ?_
  exact own_fin X8 eh8 (v := some (.int (1 : Int32))) (fun h => by rw [hret] at h; cases h) hlk (fun fs hr => retN X8 hx (t := .boolean) hret (by simp) (hb hby at_52) hr) (show ((fun v h L => Q0 Z ia ib h0 n0 v h L)) (some (.int (1 : Int32))) h0 _ from ⟨rfl, N8⟩) (by decide) (by decide)
theorem ef_0 (m : MethodId) (ia : Int32) (ib : Int32) : entryFrame m #[(.int ia), (.int ib)] maxLocals = mkF m 0 #[.val (.int ia), .val (.int ib), .unset, .unset] [] := by first | (simp [entryFrame, mkF, argsToLocals, Value.category, maxLocals]; done) | rfl
set_option maxRecDepth 65536 in
set_option maxHeartbeats 40000000 in
theorem rm0 (l : Launch) (Z : State) (a0 : Array Value) (hw : ∀ d ∈ tables_1, d.before a0 Z = true) (ws : List Jvm.Cond) (ia : Int32) (ib : Int32) (h0 : Heap) (n0 : Nat) (Z0 : n0 ≤ h0.size) :
    MetFree l x (head1 (Jvm.Cond.code x code maxLocals ret :: ws) room_1) (fun a U => a = #[(.int ia), (.int ib)] ∧ Z.Warmed39 U.vm ∧ U.heap = h0) (fun _ _ _ _ _ => True) (fun _ U o U' => ∃ v L, o = .returned v ∧ Q0 Z ia ib h0 n0 v U'.heap L ∧ FrameEnd U o U' L room_1.cells room_1.slots) := by
  refine MetFree.of_bodySF (plainFor_of_name pn_1) hisR ?_
  intro p e s m args below meth c s₁ Bd hml0 hP hK
  obtain ⟨rfl, hZ, hh⟩ := hP
  have e0 : s₁.heap = h0 := by rw [← hh, Bd.state]; rfl
  rw [ef_0 m ia ib]
  exact b0 ia ib ⟨Bd.exec, hZ, hw, Bd.bytes, hml0, (by have q := findClass_of_methodNamed Bd.named; exact q), Bd.returns, Bd.notSynchronized, (name_of_methodNamed Bd.named Bd.method).1⟩ (Stand.of_body Bd) e0 Z0 (Fr.nil n0)
set_option maxRecDepth 65536 in
set_option maxHeartbeats 40000000 in
theorem comes_1 {Post : Tables → Env → Array Value → State → Outcome → State → Prop} (hpost : ∀ tb e args s v u, (limb_1_1.after args s (.returned v) u = true ∧ limb_1_2.after args s (.returned v) u = true ∧ True) → FrameEnd s (.returned v) u (Jvm.fieldLocs frame_1_writes args s ++ Jvm.arrayLocs frame_1_arrays args s ++ Jvm.staticLocs frame_1_statics s) 0 0 → Post tb e args s (.returned v) u) :
    ArmFor flags0 classFile x code maxLocals ret World_1 tables_1 room_1 Calls_1 rest_1 Pre_1 Post := by
  intro l hfl _ _ p e ha hc hk s m args below hf hA hF happ hP
  obtain ⟨hcalls, hrest, hpre⟩ := hP
  obtain ⟨-, -, -, hnamed, -, -, -, hat⟩ := (Spec.applies_iff hf).mp happ
  obtain ⟨hg, hn⟩ := and_e (Cond.before_iff.mp (show (Jvm.Cond.and given_1 narrow_1).before args s = true from hpre))
  obtain ⟨hcount, r0⟩ := and_e hg
  obtain ⟨ha0, r1⟩ := and_e r0
  obtain ⟨w0, w1, rfl⟩ : ∃ w0 w1 : Value, args = #[w0, w1] := by
    have hs : args.size = 2 := by simpa [Cond.value, given_1] using hcount
    obtain ⟨L⟩ := args
    match L, hs with
    | [w0, w1], _ => exact ⟨w0, w1, rfl⟩
  have hw := fun d (hd : d ∈ tables_1) => atoms_spec (ws := Jvm.Cond.code x code maxLocals ret :: tables_1) hat d (List.mem_cons_of_mem _ hd)
  obtain ⟨i0, ei0⟩ := is_v ha0
  obtain rfl : w0 = (.int i0) := Option.some.inj ei0
  obtain ⟨i1, ei1⟩ := is_v r1
  obtain rfl : w1 = (.int i1) := Option.some.inj ei1
  obtain ⟨n, o, h1, h2, h3, _, L, rfl, ⟨rfl, N⟩, hq⟩ := rm0 l s _ hw tables_1 i0 i1 s.heap s.heap.size (Nat.le_refl _) p e ha hc hk s m _ below hf ((Spec.applies_iff_loose hf).mp happ).1 ⟨rfl, State.Warmed39.refl s, rfl⟩ trivial
  refine ⟨n, _, h1, h2, h3, hpost _ _ _ _ _ _ ⟨Cond.after_iff.mpr rfl, Cond.after_iff.mpr (eq_i res_at (Term.int_eval (1)) rfl), trivial⟩ ⟨hq.1, hq.2.1, (hq.2.2.sift fun y hy => Or.inr (N y hy)).mono (by decide) (by decide)⟩⟩
theorem main_1_1 : Claimed_1_1 := comes_1 fun _ _ _ _ _ _ h hF => ⟨h.1, hF⟩
theorem main_1_2 : Claimed_1_2 := comes_1 fun _ _ _ _ _ _ h hF => ⟨h.2.1, hF⟩
end Jvm.Pilot.@@N@@
namespace Jvm.Pilot.@@N@@
open Jvm Jvm.ClassFile Sem Op Lib Jvm.Free Jvm.Stand Jvm.Pilot.@@N@@.Jvm.D
/-! MADE BY PROGRAM (witnessworld.py) out of the Statement's table words and the real class files: 9 classes; the members and pool entries that the words name. The judged class is class 1, her method 1. -/
namespace start1
open Jvm.ClassFile
def u (s : String) : CpInfo := .utf8 (stringToUtf16 s)
/-- a pool by its gaps: so many unusable entries, then the entry; so many at the end -/
def gap : Nat → List CpInfo → List CpInfo
  | 0, r => r
  | n + 1, r => .unusable :: gap n r
def poolList (es : List (Nat × CpInfo)) (last : Nat) : List CpInfo := es.foldr (fun e r => gap e.1 (e.2 :: r)) (gap last [])
def pool (es : List (Nat × CpInfo)) (last : Nat) : Array CpInfo := ⟨poolList es last⟩
def fileOf (pool : Array CpInfo) (this : Nat) (attrs : Array Attribute := #[]) (ms : Array MethodInfo := #[]) (fl : Nat := 33) (sup : Nat := 0) (ifs : Array Nat := #[]) (fds : Array FieldInfo := #[]) : ClassFile where
  minorVersion := 0
  majorVersion := 65
  constantPool := pool
  accessFlags := fl
  thisClass := this
  superClass := sup
  interfaces := ifs
  fields := fds
  methods := ms
  attributes := attrs
def plain (name : String) (sup : Option ClassId) : Class where
  name := name
  kind := .ordinary
  loader := none
  accessFlags := 33
  super := sup
  interfaces := #[]
  cf := none
  fields := #[]
  methods := #[]
  instanceTypes := #[]
  staticTypes := #[]
  resolved := #[]
  callSites := []
  init := .initialized
  statics := none
  mirror := none

def pool0 : Array CpInfo := pool [(5, u "<init>"), (0, u "()V"), (1, .class_ 10), (1, u "java/lang/Object")] 113

def k0m0 : Method := { name := "<init>", desc := "()V", sig := { parameters := [], returnType := none }, accessFlags := 1, code := none }
/-- java/lang/Object -/
def k0 : Class := { plain "java/lang/Object" none with
  accessFlags := 33
  interfaces := #[]
  cf := some (fileOf pool0 8 #[] #[{ accessFlags := 1, nameIndex := 5, descriptorIndex := 6, attributes := #[] }] 33 0 #[] #[])
  fields := #[]
  methods := #[k0m0]
  instanceTypes := #[]
  staticTypes := #[]
  resolved := Array.replicate 124 none
  statics := none }

def pool1 : Array CpInfo := pool [(2, .class_ 4), (1, u "java/lang/Object"), (0, u "<init>"), (0, u "()V"), (0, .methodref 8 9), (0, .class_ 10), (0, .nameAndType 11 12), (0, u site_15.cls), (0, u "isIriChar"), (0, u "(I)Z"), (0, .methodref 14 15), (0, .class_ 16), (0, .nameAndType 17 12), (0, u x.cls), (0, u "expected"), (0, .long 5764607548804038655), (1, .long 4035225271761108992), (3, u "law"), (0, u "(II)Z")] 3

def k1m0 : Method := { name := "<init>", desc := "()V", sig := { parameters := [], returnType := none }, accessFlags := 2, code := none }
def k1c1 : Code := { maxStack := 2, maxLocals := 4, code := code, exceptionTable := #[], attributes := #[] }
def k1m1 : Method := { name := "law", desc := "(II)Z", sig := { parameters := [.int, .int], returnType := some .boolean }, accessFlags := 9, code := some k1c1 }
def k1c2 : Code := { maxStack := 4, maxLocals := 5, code := method_3_code, exceptionTable := #[], attributes := #[] }
def k1m2 : Method := { name := "expected", desc := "(I)Z", sig := { parameters := [.int], returnType := some .boolean }, accessFlags := 10, code := some k1c2 }
def k1 : Class := { plain x.cls (some 0) with
  accessFlags := 49
  interfaces := #[]
  cf := some (fileOf pool1 14 #[] #[{ accessFlags := 2, nameIndex := 5, descriptorIndex := 6, attributes := #[] }, { accessFlags := 9, nameIndex := 24, descriptorIndex := 25, attributes := #[] }, { accessFlags := 10, nameIndex := 17, descriptorIndex := 12, attributes := #[] }] 49 2 #[] #[])
  fields := #[]
  methods := #[k1m0, k1m1, k1m2]
  instanceTypes := #[]
  staticTypes := #[]
  resolved := Array.replicate 29 none
  statics := none }

def pool2 : Array CpInfo := pool [(2, .class_ 4), (1, u "java/lang/Object"), (0, u "<init>"), (0, u "()V"), (1, .class_ 10), (1, u site_15.cls), (1, u "(I)Z"), (116, u "isIriChar"), (173, u "LOCAL_ESCAPES"), (0, u "Ljava/lang/String;")] 63

def k2m0 : Method := { name := "<init>", desc := "()V", sig := { parameters := [], returnType := none }, accessFlags := 2, code := none }
def k2c1 : Code := { maxStack := 2, maxLocals := 1, code := prog_156_method_11_code, exceptionTable := #[], attributes := #[] }
def k2m1 : Method := { name := "isIriChar", desc := "(I)Z", sig := { parameters := [.int], returnType := some .boolean }, accessFlags := 9, code := some k2c1 }
def k2 : Class := { plain site_15.cls (some 0) with
  accessFlags := 49
  interfaces := #[]
  cf := some (fileOf pool2 8 #[] #[{ accessFlags := 2, nameIndex := 5, descriptorIndex := 6, attributes := #[] }, { accessFlags := 9, nameIndex := 129, descriptorIndex := 12, attributes := #[] }] 49 2 #[] #[{ accessFlags := 26, nameIndex := 303, descriptorIndex := 304, attributes := #[] }])
  fields := #[{ name := "LOCAL_ESCAPES", type := (.object "java/lang/String"), accessFlags := 26, slot := 0, constantValue := 0 }]
  methods := #[k2m0, k2m1]
  instanceTypes := #[]
  staticTypes := #[(.object "java/lang/String")]
  resolved := Array.replicate 368 none
  statics := none }

def pool3 : Array CpInfo := pool [(1, u "java/lang/Cloneable"), (0, .class_ 1), (0, u "java/lang/Object"), (0, .class_ 3)] 3

/-- java/lang/Cloneable -/
def k3 : Class := { plain "java/lang/Cloneable" (some 0) with
  accessFlags := 1537
  interfaces := #[]
  cf := some (fileOf pool3 2 #[] #[] 1537 4 #[] #[])
  fields := #[]
  methods := #[]
  instanceTypes := #[]
  staticTypes := #[]
  resolved := Array.replicate 8 none
  statics := none }

def pool4 : Array CpInfo := pool [(1, u "java/io/Serializable"), (0, .class_ 1), (0, u "java/lang/Object"), (0, .class_ 3)] 3

/-- java/io/Serializable -/
def k4 : Class := { plain "java/io/Serializable" (some 0) with
  accessFlags := 1537
  interfaces := #[]
  cf := some (fileOf pool4 2 #[] #[] 1537 4 #[] #[])
  fields := #[]
  methods := #[]
  instanceTypes := #[]
  staticTypes := #[]
  resolved := Array.replicate 8 none
  statics := none }

/-- the primitive byte -/
def k5 : Class := { plain "byte" none with kind := .primitive 'B', accessFlags := 0x411 }
/-- [B -/
def k6 : Class := { plain "[B" (some 0) with kind := .array 5 .byte, interfaces := #[3, 4], accessFlags := 1041 }

/-- the primitive int -/
def k7 : Class := { plain "int" none with kind := .primitive 'I', accessFlags := 0x411 }
/-- [I -/
def k8 : Class := { plain "[I" (some 0) with kind := .array 7 .int, interfaces := #[3, 4], accessFlags := 1041 }

def heap : Heap := #[]
def classes : Array Class := #[k0, k1, k2, k3, k4, k5, k6, k7, k8]
def interned : List (Array UInt16 × Addr) := []
def slotsUsed : Nat := 0
def theMethod : MethodId := ⟨1, 1⟩
def args0 : Array Value := #[.int 65, .int 300]
def aboutOver (below : List Frame) : State where
  vm := { classes := classes, interned := interned.toArray }
  heap := heap
  slotsUsed := slotsUsed
  threads := #[{ frames := .invoking theMethod args0 :: below }]
def below0 : List Frame := [.native { method := ⟨0, 0⟩, args := #[] }]
def about1 : State := aboutOver below0
def p0 : Program := .bare "" "" ""
def e0 : Env := launch0.env 0 0 0
theorem w_frames : about1.frames = Frame.invoking theMethod args0 :: below0 := rfl
set_option maxRecDepth 65536 in
theorem w_args : argsFit about1.vm theMethod args0 = true := by decide +kernel
set_option maxRecDepth 65536 in
theorem w_heap : heapFits about1 = true := by decide +kernel
set_option maxRecDepth 65536 in
theorem w_runnable : about1.curStatus? = some .runnable := by decide +kernel
set_option maxRecDepth 65536 in
theorem w_alone : about1.alone = true := by decide +kernel
set_option maxRecDepth 65536 in
theorem w_named : about1.methodNamed? x = some theMethod := by decide +kernel
set_option maxRecDepth 65536 in
theorem w_hears : about1.hears theMethod below0 = true := by decide +kernel
set_option maxRecDepth 65536 in
theorem w_ripe : about1.ripe theMethod args0 below0 = true := by decide +kernel
theorem w_running : about1.status = .running := rfl
set_option maxRecDepth 65536 in
theorem w_room : about1.hasRoom e0.platform room_1 = true :=
  launch0.hasRoom_least _ room_1 (by decide +kernel) (by decide +kernel) (by decide +kernel) (by decide +kernel) (by decide +kernel) (by decide +kernel)
theorem allAtoms_all (ts : List Jvm.Cond) (a : Array Jvm.Value) (st : Jvm.State) : (allAtoms ts).before a st = ts.all (fun c => c.before a st) := by
  induction ts with
  | nil => rfl
  | cons c t ih =>
    show (Jvm.Cond.and c (allAtoms t)).before a st = _
    rw [Jvm.Cond.before_and, ih, List.all_cons]
def words1 : List Jvm.Cond := Jvm.Cond.code x code maxLocals ret :: tables_1
/-- a 'code' word, met by the world's own term for the bytes: nothing is compared byte by byte -/
theorem code_word {y : MethodName} {bytes : ByteArray} {mx : Nat} {rt : Option FieldType} {a : Array Value} {s : State} {m : MethodId} {meth : Method} {c : Code} (h1 : s.methodNamed? y = some m) (h2 : s.vm.method? m = some meth) (h3 : meth.code = some c) (h4 : c.code = bytes)
    (h5 : (c.maxLocals == mx && c.exceptionTable.isEmpty && decide (c.maxStack ≤ mostOperands) && decide (meth.sig.returnType = rt) && !meth.locks && decide (parseMethodDescriptor y.desc = some meth.sig)) = true) : (Jvm.Cond.code y bytes mx rt).before a s = true := by
  simp only [Bool.and_eq_true, beq_iff_eq, Bool.not_eq_true', decide_eq_true_eq] at h5
  obtain ⟨⟨⟨⟨⟨g1, g2⟩, g3⟩, g4⟩, g5⟩, g6⟩ := h5
  simp [Cond.before, Cond.holds, Cond.value, h1, h2, h3, h4, g1, g2, g3, g4, g5, g6]
def isCode : Jvm.Cond → Bool
  | .code _ _ _ _ => true
  | _ => false
theorem all_split {L : List Jvm.Cond} {P : Jvm.Cond → Bool} (h1 : L.all (fun c => isCode c || P c) = true) (h2 : ∀ c ∈ L.filter isCode, P c = true) : L.all P = true := by
  refine List.all_eq_true.mpr fun c hc => ?_
  have h := List.all_eq_true.mp h1 c hc
  rcases Bool.eq_false_or_eq_true (isCode c) with hi | hi
  · exact h2 c (List.mem_filter.mpr ⟨hc, hi⟩)
  · simpa [hi] using h
set_option maxRecDepth 65536 in
theorem w_c0 : (Jvm.Cond.code x code maxLocals ret).before args0 about1 = true := code_word (m := ⟨1, 1⟩) (meth := k1m1) (c := k1c1) (by decide +kernel) rfl rfl rfl (by decide +kernel)
set_option maxRecDepth 65536 in
theorem w_c1 : (Jvm.Cond.code ({ cls := site_15.cls, name := "isIriChar", desc := "(I)Z" } : Jvm.MethodName) prog_156_method_11_code (1 : Nat) (Option.some Jvm.ClassFile.FieldType.boolean)).before args0 about1 = true := code_word (m := ⟨2, 1⟩) (meth := k2m1) (c := k2c1) (by decide +kernel) rfl rfl rfl (by decide +kernel)
set_option maxRecDepth 65536 in
theorem w_c2 : (Jvm.Cond.code ({ cls := x.cls, name := "expected", desc := "(I)Z" } : Jvm.MethodName) method_3_code (5 : Nat) (Option.some Jvm.ClassFile.FieldType.boolean)).before args0 about1 = true := code_word (m := ⟨1, 2⟩) (meth := k1m2) (c := k1c2) (by decide +kernel) rfl rfl rfl (by decide +kernel)
def codes1 : List Jvm.Cond := [Jvm.Cond.code x code maxLocals ret, Jvm.Cond.code ({ cls := site_15.cls, name := "isIriChar", desc := "(I)Z" } : Jvm.MethodName) prog_156_method_11_code (1 : Nat) (Option.some Jvm.ClassFile.FieldType.boolean), Jvm.Cond.code ({ cls := x.cls, name := "expected", desc := "(I)Z" } : Jvm.MethodName) method_3_code (5 : Nat) (Option.some Jvm.ClassFile.FieldType.boolean)]
set_option maxRecDepth 65536 in
theorem codes_eq : words1.filter isCode = codes1 := rfl
theorem w_codes : ∀ c ∈ words1.filter isCode, c.before args0 about1 = true := by
  rw [codes_eq]
  intro c hc
  simp only [codes1, List.mem_cons, List.not_mem_nil, or_false] at hc
  rcases hc with rfl | rfl | rfl
  · exact w_c0
  · exact w_c1
  · exact w_c2
set_option maxRecDepth 65536 in
theorem w_t1 : words1.all (fun c => isCode c || c.before args0 about1) = true := by decide +kernel
theorem w_tables : (allAtoms (Jvm.Cond.code x code maxLocals ret :: tables_1)).before args0 about1 = true := by
  rw [allAtoms_all]
  show words1.all (fun c => c.before args0 about1) = true
  refine all_split ?_ w_codes
  rw [w_t1]
set_option maxRecDepth 65536 in
theorem w_case : (Jvm.Cond.and given_1 narrow_1).before args0 about1 = true := by decide +kernel
theorem w_applies : (headSpec (Jvm.Cond.code x code maxLocals ret :: tables_1) room_1).applies x e0.platform about1 = true :=
  (Spec.applies_iff w_frames).mpr ⟨w_running, w_runnable, w_alone, w_named, w_hears, w_ripe, w_room, w_tables⟩
theorem atStart : AtStart classFile x code maxLocals ret World_1 tables_1 room_1 Calls_1 rest_1 Pre_1 launch0 p0 e0 about1 theMethod args0 below0 :=
  ⟨lists_1, trivial, launch0.admits_env _ _ _, launch0.least_env, fairChoices_fair.cas, fairChoices_fair.clock, w_frames, w_args, w_heap, w_applies, trivial, trivial, w_case⟩
end start1
theorem witness_1 : WitnessClaimed_1 := ⟨start1.p0, start1.e0, start1.about1, start1.theMethod, start1.args0, start1.below0, start1.atStart⟩
end Jvm.Pilot.@@N@@
